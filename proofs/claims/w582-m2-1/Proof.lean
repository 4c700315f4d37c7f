import JvmDerived
import JvmDerived.Pilot.@@N@@Statement
import JvmDerived.Pilot.@@N@@Code
set_option linter.unusedVariables false
set_option linter.unusedSimpArgs false
@@BLOCK:NumsL.lean.txt@@
namespace Jvm.Pilot.@@N@@
set_option maxRecDepth 65536
set_option maxHeartbeats 40000000
open Jvm Jvm.ClassFile Sem Op Lib Jvm.Free Jvm.Stand Jvm.LawKit Jvm.RoadKit Bundle Jvm.Pilot.@@N@@.Jvm.D
abbrev own_W (a0 : Array Value) (Z : State) : Prop := ∀ d ∈ tables_1, d.before a0 Z = true
theorem own_i32 {x : Int32} (k : Int32) {n : Int} (e : k.toInt = n) (h : x.toInt = n) : x = k := Int32.toInt_inj.mp (h.trans e.symm)
section Own
variable {p : Program} {l : Launch} {e : Env} {R : Room} {s : State} {m : MethodId} {args : Array Value} {below : List Frame} {meth : Method} {c : Code} {T T' : State} {locs : List Loc} {cells slots : Nat} {Z : State} {a0 : Array Value} {h : Heap} {P : Outcome → State → Prop}
theorem own_hw {L : List Jvm.Cond} (hw : ∀ d ∈ L, d.before a0 Z = true) (i : Nat) {d : Jvm.Cond} (q : L[i]? = some d) : d.before a0 Z = true := hw d (List.mem_of_getElem? q)
/-- from here the run comes to an end that P allows -/
def own_Go (p : Program) (e : Env) (below : List Frame) (P : Outcome → State → Prop) (T : State) (g : JFrame) : Prop :=
  ∃ s₂ o, Steps p.tables e below (T.setTop g) s₂ ∧ s₂.status = .running ∧ Ended s₂ below o ∧ P o s₂
theorem own_go {g g' : JFrame} (h : ∀ t, Steps p.tables e below (T'.setTop g') t → Steps p.tables e below (T.setTop g) t) (k : own_Go p e below P T' g') : own_Go p e below P T g := by
  obtain ⟨s₂, o, h1, h2⟩ := k
  exact ⟨s₂, o, h _ h1, h2⟩
theorem own_cut {α : Type} {g : JFrame} {F : α → JFrame} (tl : ∀ v, own_Go p e below P T (F v)) (k : (∀ v, own_Go p e below P T (F v)) → own_Go p e below P T g) : own_Go p e below P T g := k tl
theorem own_laid1 {v : Value} (h : v.isRef = true) : Jvm.Sym.laidSlots [v] = [.val v] := by
  have hc : ¬ v.category = 2 := by cases v <;> first | (intro q; cases q; done) | (cases h; done)
  show (if v.category = 2 then Slot.val v :: .second :: Jvm.Sym.laidSlots [] else Slot.val v :: Jvm.Sym.laidSlots []) = _
  rw [if_neg hc]; rfl
theorem own_frame {m : MethodId} {as' : Array Value} {n : Nat} {L : List Slot} {ls : Array Slot} (hl : Jvm.Sym.laidSlots as'.toList = L) (h : L ++ List.replicate (n - L.length) .unset = ls.toList) : entryFrame m as' n = mkF m 0 ls [] := by
  show mkF m 0 (argsToLocals as' n) [] = _
  have e := Jvm.Sym.argsToLocals_toList as' n
  rw [hl] at e
  rw [show argsToLocals as' n = ls from Array.toList_inj.mp (e.trans h)]
theorem own_cast {g g' : JFrame} (q : g = g') (k : own_Go p e below P T g') : own_Go p e below P T g := q ▸ k
/-- what a body leaves: Q of its answer, of the heap and of the places written; no more cells and slots than k and n -/
def own_End (s : State) (Q : Option Value → Heap → List Loc → Prop) (k n : Nat) (o : Outcome) (t : State) : Prop := ∃ v L, o = .returned v ∧ Q v t.heap L ∧ FrameEnd s o t L k n
/-- a body's contract, at one heap and one list of arguments -/
def own_Met (l : Launch) (Z : State) (y : MethodName) (bytes : ByteArray) (maxL : Nat) (ret : Option FieldType) (rm : Room) (as' : Array Value) (h0 : Heap) (Q : Option Value → Heap → List Loc → Prop) : Prop :=
  ∀ ws : List Jvm.Cond, MetFree l y (head1 (Jvm.Cond.code y bytes maxL ret :: ws) rm) (fun a U => a = as' ∧ Z.Warmed39 U.vm ∧ U.heap = h0) (fun _ _ _ _ _ => True) (fun _ U o U' => ∃ v L, o = .returned v ∧ Q v U'.heap L ∧ FrameEnd U o U' L rm.cells rm.slots)
theorem own_body {y : MethodName} {bytes : ByteArray} {maxL : Nat} {ret : Option FieldType} {rm : Room} {as' : Array Value} {h0 : Heap} {Q : Option Value → Heap → List Loc → Prop} (hp : plainFor y = true)
    (k : ∀ (p : Program) (e : Env) (s : State) (m : MethodId) (below : List Frame) (meth : Method) (c : Code) (T : State), Stand p l e rm s m as' below meth c T [] 0 0 → p.tables.exec = Jvm.exec → Z.Warmed39 s.vm → c.code = bytes → c.maxLocals = maxL → s.vm.findClass y.cls = some m.cls → meth.name = y.name →
      meth.sig.returnType = ret → meth.locks = false → T.heap = h0 → own_Go p e below (own_End s Q rm.cells rm.slots) T (entryFrame m as' maxL)) : own_Met l Z y bytes maxL ret rm as' h0 Q := by
  intro ws
  refine MetFree.of_bodySF hp hisR ?_
  intro p e s m args below meth c s₁ Bd hml0 hP hK
  obtain ⟨rfl, hZ, hh⟩ := hP
  exact k p e s m below meth c s₁ (Stand.of_body Bd) Bd.exec hZ Bd.bytes hml0 (findClass_of_methodNamed Bd.named) (name_of_methodNamed Bd.named Bd.method).1 Bd.returns Bd.notSynchronized (by rw [← hh, Bd.state]; rfl)
/-- a return with a value -/
theorem own_ret (X : Stand p l e R s m args below meth c T locs cells slots) (hx : p.tables.exec = Jvm.exec) {pc : Nat} {Ls : Array Slot} {w : Value} {t : FieldType} {i : Instr} {rest : List Value} (hret : meth.sig.returnType = some t) (hlk : meth.locks = false) (hd : decode c.code pc = .ok (i, 1)) (hn : narrow t w = w)
    (hi : (i = .ireturn ∧ (t = .int ∨ t = .boolean ∨ t = .byte ∨ t = .char ∨ t = .short) ∧ ∃ z, w = .int z) ∨ (i = .lreturn ∧ t = .long ∧ ∃ z, w = .long z) ∨ (i = .dreturn ∧ t = .double ∧ ∃ z, w = .double z) ∨ (i = .freturn ∧ t = .float ∧ ∃ z, w = .float z) ∨ (i = .areturn ∧ t.isReference = true ∧ w.isRef = true))
    {Q : Option Value → Heap → List Loc → Prop} {kc kn : Nat} (hc : cells ≤ kc) (hs : slots ≤ kn) (hQ : Q (some w) T.heap locs) : own_Go p e below (own_End s Q kc kn) T (mkF m pc Ls (w :: rest)) := by
  obtain ⟨fs, hr, hrun, hended, hW, hsame⟩ := X.leave (v := some w) (fun h => by rw [hret] at h; cases h) hlk
  exact ⟨_, _, retOut X hx hret hn hi hd hr, hrun, hended, _, _, rfl, hQ, ⟨_, rfl⟩, hW, hsame.mono hc hs⟩
theorem own_retI (X : Stand p l e R s m args below meth c T locs cells slots) (hx : p.tables.exec = Jvm.exec) {pc : Nat} {Ls : Array Slot} {z : Int32} {t : FieldType} {rest : List Value} (hret : meth.sig.returnType = some t) (hlk : meth.locks = false) (hd : decode c.code pc = .ok (.ireturn, 1)) (hn : narrow t (.int z) = .int z)
    (ht : t = .int ∨ t = .boolean ∨ t = .byte ∨ t = .char ∨ t = .short) {Q : Option Value → Heap → List Loc → Prop} {kc kn : Nat} (hc : cells ≤ kc) (hs : slots ≤ kn) (hQ : Q (some (.int z)) T.heap locs) : own_Go p e below (own_End s Q kc kn) T (mkF m pc Ls (.int z :: rest)) :=
  own_ret X hx hret hlk hd hn (Or.inl ⟨rfl, ht, z, rfl⟩) hc hs hQ
theorem own_retA (X : Stand p l e R s m args below meth c T locs cells slots) (hx : p.tables.exec = Jvm.exec) {pc : Nat} {Ls : Array Slot} {w : Value} {t : FieldType} {rest : List Value} (hret : meth.sig.returnType = some t) (hlk : meth.locks = false) (hd : decode c.code pc = .ok (.areturn, 1)) (ht : t.isReference = true) (hw : w.isRef = true)
    {Q : Option Value → Heap → List Loc → Prop} {kc kn : Nat} (hc : cells ≤ kc) (hs : slots ≤ kn) (hQ : Q (some w) T.heap locs) : own_Go p e below (own_End s Q kc kn) T (mkF m pc Ls (w :: rest)) :=
  own_ret X hx hret hlk hd (by cases t <;> first | rfl | (cases w <;> rfl) | (simp [FieldType.isReference] at ht)) (Or.inr (Or.inr (Or.inr (Or.inr ⟨rfl, ht, hw⟩)))) hc hs hQ
theorem own_retV (X : Stand p l e R s m args below meth c T locs cells slots) (hx : p.tables.exec = Jvm.exec) {pc : Nat} {Ls : Array Slot} (hret : meth.sig.returnType = none) (hlk : meth.locks = false) (hd : decode c.code pc = .ok (.return_, 1))
    {Q : Option Value → Heap → List Loc → Prop} {kc kn : Nat} (hc : cells ≤ kc) (hs : slots ≤ kn) (hQ : Q none T.heap locs) : own_Go p e below (own_End s Q kc kn) T (mkF m pc Ls []) := by
  obtain ⟨fs, hr, hrun, hended, hW, hsame⟩ := X.leave (v := none) (fun _ => rfl) hlk
  exact ⟨_, _, X.returnOut hx hret hd hr, hrun, hended, _, _, rfl, hQ, ⟨_, rfl⟩, hW, hsame.mono hc hs⟩
section Og
variable {pc : Nat} {Ls : Array Slot} {st : List Value}
theorem og_iload (X : Stand p l e R s m args below meth c T locs cells slots) (hx : p.tables.exec = Jvm.exec) {k : Nat} {v : Int32} (hd : decode c.code pc = .ok (.iload k, 2)) (hl : Ls[k]? = some (.val (.int v))) (kk : own_Go p e below P T (mkF m (pc + 2) Ls (.int v :: st))) : own_Go p e below P T (mkF m pc Ls st) :=
  own_go (fun _ q => XS.iload X.here hx rfl hd hl q) kk
theorem og_iloadN (X : Stand p l e R s m args below meth c T locs cells slots) (hx : p.tables.exec = Jvm.exec) {k : Fin 4} {v : Int32} (hd : decode c.code pc = .ok (.iload_n k, 1)) (hl : Ls[k.val]? = some (.val (.int v))) (kk : own_Go p e below P T (mkF m (pc + 1) Ls (.int v :: st))) : own_Go p e below P T (mkF m pc Ls st) :=
  own_go (fun _ q => XS.iloadN X.here hx rfl hd hl q) kk
theorem og_aload (X : Stand p l e R s m args below meth c T locs cells slots) (hx : p.tables.exec = Jvm.exec) {k : Nat} {v : Value} (hd : decode c.code pc = .ok (.aload k, 2)) (hl : Ls[k]? = some (.val v)) (hv : v.isRef = true) (kk : own_Go p e below P T (mkF m (pc + 2) Ls (v :: st))) : own_Go p e below P T (mkF m pc Ls st) :=
  own_go (fun _ q => XS.aload X.here hx rfl hd hl hv q) kk
theorem og_aloadN (X : Stand p l e R s m args below meth c T locs cells slots) (hx : p.tables.exec = Jvm.exec) {k : Fin 4} {v : Value} (hd : decode c.code pc = .ok (.aload_n k, 1)) (hl : Ls[k.val]? = some (.val v)) (hv : v.isRef = true) (kk : own_Go p e below P T (mkF m (pc + 1) Ls (v :: st))) : own_Go p e below P T (mkF m pc Ls st) :=
  own_go (fun _ q => XS.aloadN X.here hx rfl hd hl hv q) kk
theorem og_lload (X : Stand p l e R s m args below meth c T locs cells slots) (hx : p.tables.exec = Jvm.exec) {k : Nat} {v : Int64} (hd : decode c.code pc = .ok (.lload k, 2)) (hl : Ls[k]? = some (.val (.long v))) (kk : own_Go p e below P T (mkF m (pc + 2) Ls (.long v :: st))) : own_Go p e below P T (mkF m pc Ls st) :=
  own_go (fun _ q => XS.lload X.here hx rfl hd hl q) kk
theorem og_lloadN (X : Stand p l e R s m args below meth c T locs cells slots) (hx : p.tables.exec = Jvm.exec) {k : Fin 4} {v : Int64} (hd : decode c.code pc = .ok (.lload_n k, 1)) (hl : Ls[k.val]? = some (.val (.long v))) (kk : own_Go p e below P T (mkF m (pc + 1) Ls (.long v :: st))) : own_Go p e below P T (mkF m pc Ls st) :=
  own_go (fun _ q => XS.lloadN X.here hx rfl hd hl q) kk
theorem og_istore (X : Stand p l e R s m args below meth c T locs cells slots) (hx : p.tables.exec = Jvm.exec) {k : Nat} {x : Int32} (l' : Array Slot) (hd : decode c.code pc = .ok (.istore k, 2)) (hl : storeLocals Ls k (.int x) = some l') (kk : own_Go p e below P T (mkF m (pc + 2) l' st)) : own_Go p e below P T (mkF m pc Ls (.int x :: st)) :=
  own_go (fun _ q => XS.istore X.here hx rfl hd rfl hl q) kk
theorem og_istoreN (X : Stand p l e R s m args below meth c T locs cells slots) (hx : p.tables.exec = Jvm.exec) {k : Fin 4} {x : Int32} (l' : Array Slot) (hd : decode c.code pc = .ok (.istore_n k, 1)) (hl : storeLocals Ls k.val (.int x) = some l') (kk : own_Go p e below P T (mkF m (pc + 1) l' st)) : own_Go p e below P T (mkF m pc Ls (.int x :: st)) :=
  own_go (fun _ q => XS.istoreN X.here hx rfl hd rfl hl q) kk
theorem og_lstore (X : Stand p l e R s m args below meth c T locs cells slots) (hx : p.tables.exec = Jvm.exec) {k : Nat} {x : Int64} (l' : Array Slot) (hd : decode c.code pc = .ok (.lstore k, 2)) (hl : storeLocals Ls k (.long x) = some l') (kk : own_Go p e below P T (mkF m (pc + 2) l' st)) : own_Go p e below P T (mkF m pc Ls (.long x :: st)) :=
  own_go (fun _ q => XS.lstore X.here hx rfl hd rfl hl q) kk
theorem og_lstoreN (X : Stand p l e R s m args below meth c T locs cells slots) (hx : p.tables.exec = Jvm.exec) {k : Fin 4} {x : Int64} (l' : Array Slot) (hd : decode c.code pc = .ok (.lstore_n k, 1)) (hl : storeLocals Ls k.val (.long x) = some l') (kk : own_Go p e below P T (mkF m (pc + 1) l' st)) : own_Go p e below P T (mkF m pc Ls (.long x :: st)) :=
  own_go (fun _ q => XS.lstoreN X.here hx rfl hd rfl hl q) kk
theorem og_astore (X : Stand p l e R s m args below meth c T locs cells slots) (hx : p.tables.exec = Jvm.exec) {k : Nat} {x : Value} (l' : Array Slot) (hd : decode c.code pc = .ok (.astore k, 2)) (hv : x.isRef = true) (hl : storeLocals Ls k x = some l') (kk : own_Go p e below P T (mkF m (pc + 2) l' st)) : own_Go p e below P T (mkF m pc Ls (x :: st)) :=
  own_go (fun _ q => XS.astore X.here hx rfl hd rfl hv hl q) kk
theorem og_astoreN (X : Stand p l e R s m args below meth c T locs cells slots) (hx : p.tables.exec = Jvm.exec) {k : Fin 4} {x : Value} (l' : Array Slot) (hd : decode c.code pc = .ok (.astore_n k, 1)) (hv : x.isRef = true) (hl : storeLocals Ls k.val x = some l') (kk : own_Go p e below P T (mkF m (pc + 1) l' st)) : own_Go p e below P T (mkF m pc Ls (x :: st)) :=
  own_go (fun _ q => XS.astoreN X.here hx rfl hd rfl hv hl q) kk
theorem og_iconst (X : Stand p l e R s m args below meth c T locs cells slots) (hx : p.tables.exec = Jvm.exec) {i : Int} (hd : decode c.code pc = .ok (.iconst i, 1)) (kk : own_Go p e below P T (mkF m (pc + 1) Ls (.int (Int32.ofInt i) :: st))) : own_Go p e below P T (mkF m pc Ls st) :=
  own_go (fun _ q => XS.iconst X.here hx rfl hd q) kk
theorem og_bipush (X : Stand p l e R s m args below meth c T locs cells slots) (hx : p.tables.exec = Jvm.exec) {i : Int} (hd : decode c.code pc = .ok (.bipush i, 2)) (kk : own_Go p e below P T (mkF m (pc + 2) Ls (.int (Int8.ofInt i).toInt32 :: st))) : own_Go p e below P T (mkF m pc Ls st) :=
  own_go (fun _ q => XS.bipush X.here hx rfl hd q) kk
theorem og_sipush (X : Stand p l e R s m args below meth c T locs cells slots) (hx : p.tables.exec = Jvm.exec) {i : Int} (hd : decode c.code pc = .ok (.sipush i, 3)) (kk : own_Go p e below P T (mkF m (pc + 3) Ls (.int (Int16.ofInt i).toInt32 :: st))) : own_Go p e below P T (mkF m pc Ls st) :=
  own_go (fun _ q => XS.sipush X.here hx rfl hd q) kk
theorem og_lconst (X : Stand p l e R s m args below meth c T locs cells slots) (hx : p.tables.exec = Jvm.exec) {k : Fin 2} (hd : decode c.code pc = .ok (.lconst k, 1)) (kk : own_Go p e below P T (mkF m (pc + 1) Ls (.long (Int64.ofNat k) :: st))) : own_Go p e below P T (mkF m pc Ls st) :=
  own_go (fun _ q => XS.lconst X.here hx rfl hd q) kk
theorem og_null (X : Stand p l e R s m args below meth c T locs cells slots) (hx : p.tables.exec = Jvm.exec) (hd : decode c.code pc = .ok (.aconst_null, 1)) (kk : own_Go p e below P T (mkF m (pc + 1) Ls (.null :: st))) : own_Go p e below P T (mkF m pc Ls st) :=
  own_go (fun _ q => XS.aconstNull X.here hx rfl hd q) kk
theorem og_iadd (X : Stand p l e R s m args below meth c T locs cells slots) (hx : p.tables.exec = Jvm.exec) {x y : Int32} (hd : decode c.code pc = .ok (.iadd, 1)) (kk : own_Go p e below P T (mkF m (pc + 1) Ls (.int (x + y) :: st))) : own_Go p e below P T (mkF m pc Ls (.int y :: .int x :: st)) :=
  own_go (fun _ q => XS.iadd X.here hx rfl hd rfl q) kk
theorem og_isub (X : Stand p l e R s m args below meth c T locs cells slots) (hx : p.tables.exec = Jvm.exec) {x y : Int32} (hd : decode c.code pc = .ok (.isub, 1)) (kk : own_Go p e below P T (mkF m (pc + 1) Ls (.int (x - y) :: st))) : own_Go p e below P T (mkF m pc Ls (.int y :: .int x :: st)) :=
  own_go (fun _ q => XS.isub X.here hx rfl hd rfl q) kk
theorem og_iand (X : Stand p l e R s m args below meth c T locs cells slots) (hx : p.tables.exec = Jvm.exec) {x y : Int32} (hd : decode c.code pc = .ok (.iand, 1)) (kk : own_Go p e below P T (mkF m (pc + 1) Ls (.int (x &&& y) :: st))) : own_Go p e below P T (mkF m pc Ls (.int y :: .int x :: st)) :=
  own_go (fun _ q => XS.iand X.here hx rfl hd rfl q) kk
theorem og_imul (X : Stand p l e R s m args below meth c T locs cells slots) (hx : p.tables.exec = Jvm.exec) {x y : Int32} (hd : decode c.code pc = .ok (.imul, 1)) (kk : own_Go p e below P T (mkF m (pc + 1) Ls (.int (x * y) :: st))) : own_Go p e below P T (mkF m pc Ls (.int y :: .int x :: st)) :=
  own_go (fun _ q => XS.imul X.here hx rfl hd rfl q) kk
theorem og_ior (X : Stand p l e R s m args below meth c T locs cells slots) (hx : p.tables.exec = Jvm.exec) {x y : Int32} (hd : decode c.code pc = .ok (.ior, 1)) (kk : own_Go p e below P T (mkF m (pc + 1) Ls (.int (x ||| y) :: st))) : own_Go p e below P T (mkF m pc Ls (.int y :: .int x :: st)) :=
  own_go (fun _ q => XS.ior X.here hx rfl hd rfl q) kk
theorem og_ixor (X : Stand p l e R s m args below meth c T locs cells slots) (hx : p.tables.exec = Jvm.exec) {x y : Int32} (hd : decode c.code pc = .ok (.ixor, 1)) (kk : own_Go p e below P T (mkF m (pc + 1) Ls (.int (x ^^^ y) :: st))) : own_Go p e below P T (mkF m pc Ls (.int y :: .int x :: st)) :=
  own_go (fun _ q => XS.ixor X.here hx rfl hd rfl q) kk
theorem og_dup (X : Stand p l e R s m args below meth c T locs cells slots) (hx : p.tables.exec = Jvm.exec) {x : Value} (hd : decode c.code pc = .ok (.dup, 1)) (hc : x.category = 1) (kk : own_Go p e below P T (mkF m (pc + 1) Ls (x :: x :: st))) : own_Go p e below P T (mkF m pc Ls (x :: st)) :=
  own_go (fun _ q => XS.dup X.here hx rfl hd rfl hc q) kk
theorem og_pop (X : Stand p l e R s m args below meth c T locs cells slots) (hx : p.tables.exec = Jvm.exec) {x : Value} (hd : decode c.code pc = .ok (.pop, 1)) (hc : x.category = 1) (kk : own_Go p e below P T (mkF m (pc + 1) Ls st)) : own_Go p e below P T (mkF m pc Ls (x :: st)) :=
  own_go (fun _ q => XS.pop X.here hx rfl hd rfl hc q) kk
theorem og_goto (X : Stand p l e R s m args below meth c T locs cells slots) (hx : p.tables.exec = Jvm.exec) {o : Int} (pc' : Nat) (hd : decode c.code pc = .ok (.goto o, 3)) (ho : 0 ≤ (pc : Int) + o) (hp : ((pc : Int) + o).toNat = pc') (kk : own_Go p e below P T (mkF m pc' Ls st)) : own_Go p e below P T (mkF m pc Ls st) :=
  own_go (fun _ q => XS.goto X.here hx rfl rfl hd ho hp q) kk
theorem og_ifN (X : Stand p l e R s m args below meth c T locs cells slots) (hx : p.tables.exec = Jvm.exec) {cd : ClassFile.Cond} {o : Int} {x : Int32} (hd : decode c.code pc = .ok (.ifCond cd o, 3)) (hc : if_icmp.holds cd x 0 = false) (kk : own_Go p e below P T (mkF m (pc + 3) Ls st)) : own_Go p e below P T (mkF m pc Ls (.int x :: st)) :=
  own_go (fun _ q => XS.ifNo X.here hx rfl hd rfl ((if0 _ _).trans hc) q) kk
theorem og_ifY (X : Stand p l e R s m args below meth c T locs cells slots) (hx : p.tables.exec = Jvm.exec) {cd : ClassFile.Cond} {o : Int} {x : Int32} (pc' : Nat) (hd : decode c.code pc = .ok (.ifCond cd o, 3)) (hc : if_icmp.holds cd x 0 = true) (ho : 0 ≤ (pc : Int) + o) (hp : ((pc : Int) + o).toNat = pc') (kk : own_Go p e below P T (mkF m pc' Ls st)) : own_Go p e below P T (mkF m pc Ls (.int x :: st)) :=
  own_go (fun _ q => XS.ifYes X.here hx rfl rfl hd rfl ((if0 _ _).trans hc) ho hp q) kk
theorem og_icN (X : Stand p l e R s m args below meth c T locs cells slots) (hx : p.tables.exec = Jvm.exec) {cd : ClassFile.Cond} {o : Int} {x y : Int32} (hd : decode c.code pc = .ok (.if_icmp cd o, 3)) (hc : if_icmp.holds cd x y = false) (kk : own_Go p e below P T (mkF m (pc + 3) Ls st)) : own_Go p e below P T (mkF m pc Ls (.int y :: .int x :: st)) :=
  own_go (fun _ q => XS.icmpNo X.here hx rfl hd rfl hc q) kk
theorem og_icY (X : Stand p l e R s m args below meth c T locs cells slots) (hx : p.tables.exec = Jvm.exec) {cd : ClassFile.Cond} {o : Int} {x y : Int32} (pc' : Nat) (hd : decode c.code pc = .ok (.if_icmp cd o, 3)) (hc : if_icmp.holds cd x y = true) (ho : 0 ≤ (pc : Int) + o) (hp : ((pc : Int) + o).toNat = pc') (kk : own_Go p e below P T (mkF m pc' Ls st)) : own_Go p e below P T (mkF m pc Ls (.int y :: .int x :: st)) :=
  own_go (fun _ q => XS.icmpYes X.here hx rfl rfl hd rfl hc ho hp q) kk
theorem og_ifnullY (X : Stand p l e R s m args below meth c T locs cells slots) (hx : p.tables.exec = Jvm.exec) {o : Int} (pc' : Nat) (hd : decode c.code pc = .ok (.ifnull o, 3)) (ho : 0 ≤ (pc : Int) + o) (hp : ((pc : Int) + o).toNat = pc') (kk : own_Go p e below P T (mkF m pc' Ls st)) : own_Go p e below P T (mkF m pc Ls (.null :: st)) :=
  own_go (fun _ q => XS.ifnullYes X.here hx rfl rfl hd rfl ho hp q) kk
theorem og_ifnullN (X : Stand p l e R s m args below meth c T locs cells slots) (hx : p.tables.exec = Jvm.exec) {b : Addr} {o : Int} (hd : decode c.code pc = .ok (.ifnull o, 3)) (kk : own_Go p e below P T (mkF m (pc + 3) Ls st)) : own_Go p e below P T (mkF m pc Ls (.ref b :: st)) :=
  own_go (fun _ q => XS.ifnullNo X.here hx rfl hd rfl q) kk
theorem og_ifnonnullY (X : Stand p l e R s m args below meth c T locs cells slots) (hx : p.tables.exec = Jvm.exec) {b : Addr} {o : Int} (pc' : Nat) (hd : decode c.code pc = .ok (.ifnonnull o, 3)) (ho : 0 ≤ (pc : Int) + o) (hp : ((pc : Int) + o).toNat = pc') (kk : own_Go p e below P T (mkF m pc' Ls st)) : own_Go p e below P T (mkF m pc Ls (.ref b :: st)) :=
  own_go (fun _ q => XS.ifnonnullYes X.here hx rfl rfl hd rfl ho hp q) kk
theorem og_ifnonnullN (X : Stand p l e R s m args below meth c T locs cells slots) (hx : p.tables.exec = Jvm.exec) {o : Int} (hd : decode c.code pc = .ok (.ifnonnull o, 3)) (kk : own_Go p e below P T (mkF m (pc + 3) Ls st)) : own_Go p e below P T (mkF m pc Ls (.null :: st)) :=
  own_go (fun _ q => XS.ifnonnullNo X.here hx rfl hd rfl q) kk
theorem og_getF (X : Stand p l e R s m args below meth c T locs cells slots) (hx : p.tables.exec = Jvm.exec) (hZ : Z.Warmed39 s.vm) {own R0 O n d : String} {index : Nat} (hown : s.vm.findClass own = some m.cls) (w : (Jvm.Cond.fieldLink own index R0 n d).before a0 Z = true) (via : Via Z R0 O n d) (eT : T.heap = h) {a : Addr} {v : Value} (F : Fld Z h a O n d v) (hd : decode c.code pc = .ok (.getfield index, 3))
    (kk : ∀ T', Stand p l e R s m args below meth c T' locs cells slots → T'.heap = h → own_Go p e below P T' (mkF m (pc + 3) Ls (v :: st))) : own_Go p e below P T (mkF m pc Ls (.ref a :: st)) := by
  obtain ⟨T', X', e', stp⟩ := getF X hx hZ hown (host := "") (Or.inl w) via eT F (g := mkF m pc Ls (.ref a :: st)) rfl rfl hd
  exact own_go stp (kk T' X' e')
theorem og_getS (X : Stand p l e R s m args below meth c T locs cells slots) (hx : p.tables.exec = Jvm.exec) (hZ : Z.Warmed39 s.vm) {own R0 O n d : String} {index : Nat} (hown : s.vm.findClass own = some m.cls) (w : (Jvm.Cond.fieldLink own index R0 n d).before a0 Z = true) (via : Via Z R0 O n d) (eT : T.heap = h) {v : Value} (F : Sta Z h O n d v) (hd : decode c.code pc = .ok (.getstatic index, 3))
    (kk : ∀ T', Stand p l e R s m args below meth c T' locs cells slots → T'.heap = h → own_Go p e below P T' (mkF m (pc + 3) Ls (v :: st))) : own_Go p e below P T (mkF m pc Ls st) := by
  obtain ⟨T', X', e', stp⟩ := getS2 X hx hZ hown (host := "") (Or.inl w) via eT F (g := mkF m pc Ls st) rfl hd
  exact own_go stp (kk T' X' e')
theorem og_ldcI (X : Stand p l e R s m args below meth c T locs cells slots) (hx : p.tables.exec = Jvm.exec) (hZ : Z.Warmed39 s.vm) {own : String} {index : Nat} {v : Int32} (hown : s.vm.findClass own = some m.cls) (w : (Jvm.Cond.constant own index v).before a0 Z = true) (hd : decode c.code pc = .ok (.ldc index, 2)) (kk : own_Go p e below P T (mkF m (pc + 2) Ls (.int v :: st))) : own_Go p e below P T (mkF m pc Ls st) :=
  own_go (fun _ q => X.ldcI hx hown (mvT hZ w) rfl hd q) kk
theorem og_iremM (X : Stand p l e R s m args below meth c T locs cells slots) (hx : p.tables.exec = Jvm.exec) {x y : Int32} (hd : decode c.code pc = .ok (.irem, 1)) (hy : y ≠ 0) (kk : own_Go p e below P T (mkF m (pc + 1) Ls (.int (x % y) :: st))) : own_Go p e below P T (mkF m pc Ls (.int y :: .int x :: st)) :=
  own_go (fun _ q => iremM X hx rfl hd rfl hy q) kk
theorem og_acmp (X : Stand p l e R s m args below meth c T locs cells slots) (hx : p.tables.exec = Jvm.exec) {cd : ACond} {x y : Value} {o : Int} {pc' : Nat} {same : Bool} (h1 : x.isRef = true) (h2 : y.isRef = true) (hd : decode c.code pc = .ok (.if_acmp cd o, 3)) (hq : decide (x = y) = same) (ho : 0 ≤ (pc : Int) + o) (hp : pc' = if acV cd same = true then ((pc : Int) + o).toNat else pc + 3)
    (kk : own_Go p e below P T (mkF m pc' Ls st)) : own_Go p e below P T (mkF m pc Ls (y :: x :: st)) :=
  own_go (fun _ q => Jvm.RoadKit.acmp (g := mkF m pc Ls (y :: x :: st)) X hx rfl h1 h2 rfl hd rfl hq ho hp q) kk
end Og
/-! the calls: by a Back (..B), or by a body's own contract -/
theorem own_callSB (X : Stand p l e R s m args below meth c T locs cells slots) (hx : p.tables.exec = Jvm.exec) (hZ : Z.Warmed39 s.vm) {own : String} {index : Nat} {y : MethodName} {bytes : ByteArray} {maxL : Nat} {ret : Option FieldType} (hown : s.vm.findClass own = some m.cls)
    (w1 : (Jvm.Cond.methodLink own index y).before a0 Z = true) (w2 : (Jvm.Cond.static y).before a0 Z = true) (w3 : (Jvm.Cond.initialized y.cls).before a0 Z = true) (w4 : (Jvm.Cond.code y bytes maxL ret).before a0 Z = true) (hy : y.cls ≠ "java/lang/invoke/MethodHandle" ∧ y.cls ≠ "java/lang/invoke/VarHandle")
    {argsL rest : List Value} {Q : Option Value → Heap → List Loc → Prop} {kc kn W : Nat} (hK : Back l R p e below s args y 3 W (fun A a => a = (argsL).toArray ∧ A.U.heap = h ∧ A.cells + kc ≤ R.cells ∧ A.slots + kn ≤ R.slots) (fun A _ v B => ∃ L, Q v B.U.heap L ∧ B.locs = A.locs ++ L ∧ B.cells = A.cells + kc ∧ B.slots = A.slots + kn)) (eT : T.heap = h) {pc : Nat} {Ls : Array Slot} {st : List Value} (hsize : Ls.size = c.maxLocals)
    (hlen : ∀ sig, parseMethodDescriptor y.desc = some sig → argsL.length = sig.parameters.length) (hstack : st = argsL.reverse ++ rest) (hd : decode c.code pc = .ok (.invokestatic index, 3)) (hW : (rest.map fun v => v.category).sum ≤ W) (hc : cells + kc ≤ R.cells) (hs : slots + kn ≤ R.slots)
    (k : ∀ (v : Option Value) (T' : State) (L : List Loc), Stand p l e R s m args below meth c T' (locs ++ L) (cells + kc) (slots + kn) → Q v T'.heap L → own_Go p e below P T' (mkF m (pc + 3) Ls (v.toList ++ rest))) : own_Go p e below P T (mkF m pc Ls st) := by
  obtain ⟨v, _, ⟨T', L', k', n'⟩, -, X', ⟨Lc, hQ, l1, y1, z1⟩, stp⟩ := Jvm.LawKit.callS X hx (y := y) hown (mvT hZ w1) (mvT hZ w2) (mvT hZ w3) (mvT hZ w4) hy hK (g := mkF m pc Ls st) rfl hsize (argsL := argsL) (rest := rest) hlen hstack (by show 2 * 0 + _ ≤ _; omega) hd (fun _ _ => ⟨rfl, eT, hc, hs⟩)
  dsimp only [Pt.U, Pt.locs, Pt.cells, Pt.slots] at X' l1 y1 z1 stp hQ
  subst l1 y1 z1
  exact own_go stp (k v T' Lc X' hQ)
theorem own_callS (X : Stand p l e R s m args below meth c T locs cells slots) (hx : p.tables.exec = Jvm.exec) (hZ : Z.Warmed39 s.vm) {own : String} {index : Nat} {y : MethodName} {bytes : ByteArray} {maxL : Nat} {ret : Option FieldType} (hown : s.vm.findClass own = some m.cls)
    (w1 : (Jvm.Cond.methodLink own index y).before a0 Z = true) (w2 : (Jvm.Cond.static y).before a0 Z = true) (w3 : (Jvm.Cond.initialized y.cls).before a0 Z = true) (w4 : (Jvm.Cond.code y bytes maxL ret).before a0 Z = true) (hy : y.cls ≠ "java/lang/invoke/MethodHandle" ∧ y.cls ≠ "java/lang/invoke/VarHandle")
    {argsL rest : List Value} {rm : Room} {Q : Option Value → Heap → List Loc → Prop} (hM : own_Met l Z y bytes maxL ret rm (argsL).toArray h Q) (eT : T.heap = h) {pc : Nat} {Ls : Array Slot} {st : List Value} (hsize : Ls.size = c.maxLocals)
    (hlen : ∀ sig, parseMethodDescriptor y.desc = some sig → argsL.length = sig.parameters.length) (hstack : st = argsL.reverse ++ rest) (hd : decode c.code pc = .ok (.invokestatic index, 3)) {W : Nat} (hW : (rest.map fun v => v.category).sum ≤ W) (h4 : rm.frames + 1 ≤ R.frames ∧ W + (maxL + 11) + rm.locals ≤ R.locals ∧ cells + rm.cells ≤ R.cells ∧ slots + rm.slots ≤ R.slots)
    (k : ∀ (v : Option Value) (T' : State) (L : List Loc), Stand p l e R s m args below meth c T' (locs ++ L) (cells + rm.cells) (slots + rm.slots) → Q v T'.heap L → own_Go p e below P T' (mkF m (pc + 3) Ls (v.toList ++ rest))) : own_Go p e below P T (mkF m pc Ls st) :=
  own_callSB X hx hZ hown w1 w2 w3 w4 hy (backOf (W := W) (hM []) hZ w4 w3 h4.1 h4.2.1) eT hsize hlen hstack hd hW h4.2.2.1 h4.2.2.2 k
theorem own_callVB (X : Stand p l e R s m args below meth c T locs cells slots) (hx : p.tables.exec = Jvm.exec) (hZ : Z.Warmed39 s.vm) {own C : String} {index : Nat} {y z : MethodName} {bytes : ByteArray} {maxL : Nat} {ret : Option FieldType} (hown : s.vm.findClass own = some m.cls)
    (w1 : (Jvm.Cond.methodLink own index y).before a0 Z = true) (w2 : (Jvm.Cond.declares y).before a0 Z = true) (nf : NotFace s y) (w3 : (Jvm.Cond.selects C y z).before a0 Z = true) (w4 : (Jvm.Cond.instanceMethod z).before a0 Z = true) (w5 : (Jvm.Cond.code z bytes maxL ret).before a0 Z = true) (w6 : (Jvm.Cond.initialized z.cls).before a0 Z = true) (hy : y.cls ≠ "java/lang/invoke/MethodHandle" ∧ y.cls ≠ "java/lang/invoke/VarHandle")
    {b : Addr} {argsL rest : List Value} {Q : Option Value → Heap → List Loc → Prop} {kc kn W : Nat} (hK : Back l R p e below s args z 3 W (fun A a => a = (.ref b :: argsL).toArray ∧ A.U.heap = h ∧ A.cells + kc ≤ R.cells ∧ A.slots + kn ≤ R.slots) (fun A _ v B => ∃ L, Q v B.U.heap L ∧ B.locs = A.locs ++ L ∧ B.cells = A.cells + kc ∧ B.slots = A.slots + kn)) (eT : T.heap = h) (E : Exa Z h b C) {pc : Nat} {Ls : Array Slot} {st : List Value} (hsize : Ls.size = c.maxLocals)
    (hlen : ∀ sig, parseMethodDescriptor y.desc = some sig → argsL.length = sig.parameters.length) (hstack : st = argsL.reverse ++ .ref b :: rest) (hd : decode c.code pc = .ok (.invokevirtual index, 3)) (hW : (rest.map fun v => v.category).sum ≤ W) (hc : cells + kc ≤ R.cells) (hs : slots + kn ≤ R.slots)
    (k : ∀ (v : Option Value) (T' : State) (L : List Loc), Stand p l e R s m args below meth c T' (locs ++ L) (cells + kc) (slots + kn) → Q v T'.heap L → own_Go p e below P T' (mkF m (pc + 3) Ls (v.toList ++ rest))) : own_Go p e below P T (mkF m pc Ls st) := by
  obtain ⟨cq, kq, qa, qb, qc⟩ := isOf hZ eT E
  obtain ⟨v, _, ⟨T', L', k', n'⟩, -, X', ⟨Lc, hQ, l1, y1, z1⟩, stp⟩ := X.virtualBack hx (y := y) (z := z) hown (mvT hZ w1) (mvT hZ w2) nf (mvT hZ w3) (mvT hZ w4) hy hK qa qc (g := mkF m pc Ls st) rfl hsize (Steps.refl _) (argsL := argsL) (rest := rest) hlen hstack (by show 2 * 0 + _ ≤ _; omega) hd (fun _ _ => ⟨rfl, eT, hc, hs⟩)
  dsimp only [Pt.U, Pt.locs, Pt.cells, Pt.slots] at X' l1 y1 z1 stp hQ
  subst l1 y1 z1
  exact own_go (fun _ q => stp.trans q) (k v T' Lc X' hQ)
theorem own_callV (X : Stand p l e R s m args below meth c T locs cells slots) (hx : p.tables.exec = Jvm.exec) (hZ : Z.Warmed39 s.vm) {own C : String} {index : Nat} {y z : MethodName} {bytes : ByteArray} {maxL : Nat} {ret : Option FieldType} (hown : s.vm.findClass own = some m.cls)
    (w1 : (Jvm.Cond.methodLink own index y).before a0 Z = true) (w2 : (Jvm.Cond.declares y).before a0 Z = true) (nf : NotFace s y) (w3 : (Jvm.Cond.selects C y z).before a0 Z = true) (w4 : (Jvm.Cond.instanceMethod z).before a0 Z = true) (w5 : (Jvm.Cond.code z bytes maxL ret).before a0 Z = true) (w6 : (Jvm.Cond.initialized z.cls).before a0 Z = true) (hy : y.cls ≠ "java/lang/invoke/MethodHandle" ∧ y.cls ≠ "java/lang/invoke/VarHandle")
    {b : Addr} {argsL rest : List Value} {rm : Room} {Q : Option Value → Heap → List Loc → Prop} (hM : own_Met l Z z bytes maxL ret rm (.ref b :: argsL).toArray h Q) (eT : T.heap = h) (E : Exa Z h b C) {pc : Nat} {Ls : Array Slot} {st : List Value} (hsize : Ls.size = c.maxLocals)
    (hlen : ∀ sig, parseMethodDescriptor y.desc = some sig → argsL.length = sig.parameters.length) (hstack : st = argsL.reverse ++ .ref b :: rest) (hd : decode c.code pc = .ok (.invokevirtual index, 3)) {W : Nat} (hW : (rest.map fun v => v.category).sum ≤ W) (h4 : rm.frames + 1 ≤ R.frames ∧ W + (maxL + 11) + rm.locals ≤ R.locals ∧ cells + rm.cells ≤ R.cells ∧ slots + rm.slots ≤ R.slots)
    (k : ∀ (v : Option Value) (T' : State) (L : List Loc), Stand p l e R s m args below meth c T' (locs ++ L) (cells + rm.cells) (slots + rm.slots) → Q v T'.heap L → own_Go p e below P T' (mkF m (pc + 3) Ls (v.toList ++ rest))) : own_Go p e below P T (mkF m pc Ls st) :=
  own_callVB X hx hZ hown w1 w2 nf w3 w4 w5 w6 hy (backOf (W := W) (hM []) hZ w5 w6 h4.1 h4.2.1) eT E hsize hlen hstack hd hW h4.2.2.1 h4.2.2.2 k
theorem own_callUB (X : Stand p l e R s m args below meth c T locs cells slots) (hx : p.tables.exec = Jvm.exec) (hZ : Z.Warmed39 s.vm) {own C owner : String} {index : Nat} {y z : MethodName} {bytes : ByteArray} {maxL : Nat} {ret : Option FieldType} (hown : s.vm.findClass own = some m.cls)
    (w1 : (Jvm.Cond.methodLink own index y).before a0 Z = true) (ws : (Jvm.Cond.sameMethod y.cls owner y.name y.desc).before a0 Z = true) (w2 : (Jvm.Cond.declares ⟨owner, y.name, y.desc⟩).before a0 Z = true) (ho : owner ≠ "java/lang/invoke/MethodHandle" ∧ owner ≠ "java/lang/invoke/VarHandle")
    (w3 : (Jvm.Cond.selects C y z).before a0 Z = true) (w4 : (Jvm.Cond.instanceMethod z).before a0 Z = true) (w5 : (Jvm.Cond.code z bytes maxL ret).before a0 Z = true) (w6 : (Jvm.Cond.initialized z.cls).before a0 Z = true)
    {b : Addr} {argsL rest : List Value} {Q : Option Value → Heap → List Loc → Prop} {kc kn W : Nat} (hK : Back l R p e below s args z 3 W (fun A a => a = (.ref b :: argsL).toArray ∧ A.U.heap = h ∧ A.cells + kc ≤ R.cells ∧ A.slots + kn ≤ R.slots) (fun A _ v B => ∃ L, Q v B.U.heap L ∧ B.locs = A.locs ++ L ∧ B.cells = A.cells + kc ∧ B.slots = A.slots + kn)) (eT : T.heap = h) (E : Exa Z h b C) {pc : Nat} {Ls : Array Slot} {st : List Value} (hsize : Ls.size = c.maxLocals)
    (hlen : ∀ sig, parseMethodDescriptor y.desc = some sig → argsL.length = sig.parameters.length) (hstack : st = argsL.reverse ++ .ref b :: rest) (hd : decode c.code pc = .ok (.invokevirtual index, 3)) (hW : (rest.map fun v => v.category).sum ≤ W) (hc : cells + kc ≤ R.cells) (hs : slots + kn ≤ R.slots)
    (k : ∀ (v : Option Value) (T' : State) (L : List Loc), Stand p l e R s m args below meth c T' (locs ++ L) (cells + kc) (slots + kn) → Q v T'.heap L → own_Go p e below P T' (mkF m (pc + 3) Ls (v.toList ++ rest))) : own_Go p e below P T (mkF m pc Ls st) := by
  obtain ⟨cq, kq, qa, qb, qc⟩ := isOf hZ eT E
  obtain ⟨v, _, ⟨T', L', k', n'⟩, -, X', ⟨Lc, hQ, l1, y1, z1⟩, stp⟩ := X.virtualBackUp hx (x := y) (y := z) (owner := owner) hown (mvT hZ w1) (mvT hZ ws) (mvT hZ w2) ho (mvT hZ w3) (mvT hZ w4) hK qa qc (g := mkF m pc Ls st) rfl hsize (Steps.refl _) (argsL := argsL) (rest := rest) hlen hstack (by show 2 * 0 + _ ≤ _; omega) hd (fun _ _ => ⟨rfl, eT, hc, hs⟩)
  dsimp only [Pt.U, Pt.locs, Pt.cells, Pt.slots] at X' l1 y1 z1 stp hQ
  subst l1 y1 z1
  exact own_go (fun _ q => stp.trans q) (k v T' Lc X' hQ)
theorem own_callU (X : Stand p l e R s m args below meth c T locs cells slots) (hx : p.tables.exec = Jvm.exec) (hZ : Z.Warmed39 s.vm) {own C owner : String} {index : Nat} {y z : MethodName} {bytes : ByteArray} {maxL : Nat} {ret : Option FieldType} (hown : s.vm.findClass own = some m.cls)
    (w1 : (Jvm.Cond.methodLink own index y).before a0 Z = true) (ws : (Jvm.Cond.sameMethod y.cls owner y.name y.desc).before a0 Z = true) (w2 : (Jvm.Cond.declares ⟨owner, y.name, y.desc⟩).before a0 Z = true) (ho : owner ≠ "java/lang/invoke/MethodHandle" ∧ owner ≠ "java/lang/invoke/VarHandle")
    (w3 : (Jvm.Cond.selects C y z).before a0 Z = true) (w4 : (Jvm.Cond.instanceMethod z).before a0 Z = true) (w5 : (Jvm.Cond.code z bytes maxL ret).before a0 Z = true) (w6 : (Jvm.Cond.initialized z.cls).before a0 Z = true)
    {b : Addr} {argsL rest : List Value} {rm : Room} {Q : Option Value → Heap → List Loc → Prop} (hM : own_Met l Z z bytes maxL ret rm (.ref b :: argsL).toArray h Q) (eT : T.heap = h) (E : Exa Z h b C) {pc : Nat} {Ls : Array Slot} {st : List Value} (hsize : Ls.size = c.maxLocals)
    (hlen : ∀ sig, parseMethodDescriptor y.desc = some sig → argsL.length = sig.parameters.length) (hstack : st = argsL.reverse ++ .ref b :: rest) (hd : decode c.code pc = .ok (.invokevirtual index, 3)) {W : Nat} (hW : (rest.map fun v => v.category).sum ≤ W) (h4 : rm.frames + 1 ≤ R.frames ∧ W + (maxL + 11) + rm.locals ≤ R.locals ∧ cells + rm.cells ≤ R.cells ∧ slots + rm.slots ≤ R.slots)
    (k : ∀ (v : Option Value) (T' : State) (L : List Loc), Stand p l e R s m args below meth c T' (locs ++ L) (cells + rm.cells) (slots + rm.slots) → Q v T'.heap L → own_Go p e below P T' (mkF m (pc + 3) Ls (v.toList ++ rest))) : own_Go p e below P T (mkF m pc Ls st) :=
  own_callUB X hx hZ hown w1 ws w2 ho w3 w4 w5 w6 (backOf (W := W) (hM []) hZ w5 w6 h4.1 h4.2.1) eT E hsize hlen hstack hd hW h4.2.2.1 h4.2.2.2 k
theorem own_callNB (X : Stand p l e R s m args below meth c T locs cells slots) (hx : p.tables.exec = Jvm.exec) (hZ : Z.Warmed39 s.vm) {own : String} {index : Nat} {y : MethodName} {bytes : ByteArray} {maxL : Nat} (hown : s.vm.findClass own = some m.cls)
    (w1 : (Jvm.Cond.methodLink own index y).before a0 Z = true) (w2 : (Jvm.Cond.instanceMethod y).before a0 Z = true) (w4 : (Jvm.Cond.code y bytes maxL none).before a0 Z = true) (w3 : (Jvm.Cond.initialized y.cls).before a0 Z = true) (hy : y.cls ≠ "java/lang/invoke/MethodHandle" ∧ y.cls ≠ "java/lang/invoke/VarHandle") (hn : y.name = "<init>")
    {b : Addr} {argsL rest : List Value} {Q : Option Value → Heap → List Loc → Prop} {kc kn W : Nat} (hK : Back l R p e below s args y 3 W (fun A a => a = (.ref b :: argsL).toArray ∧ A.U.heap = h ∧ A.cells + kc ≤ R.cells ∧ A.slots + kn ≤ R.slots) (fun A _ v B => ∃ L, Q v B.U.heap L ∧ B.locs = A.locs ++ L ∧ B.cells = A.cells + kc ∧ B.slots = A.slots + kn)) (eT : T.heap = h) {pc : Nat} {Ls : Array Slot} {st : List Value} (hsize : Ls.size = c.maxLocals)
    (hlen : ∀ sig, parseMethodDescriptor y.desc = some sig → argsL.length = sig.parameters.length) (hstack : st = argsL.reverse ++ .ref b :: rest) (hd : decode c.code pc = .ok (.invokespecial index, 3)) (hW : (rest.map fun v => v.category).sum ≤ W) (hc : cells + kc ≤ R.cells) (hs : slots + kn ≤ R.slots)
    (k : ∀ (v : Option Value) (T' : State) (L : List Loc), Stand p l e R s m args below meth c T' (locs ++ L) (cells + kc) (slots + kn) → Q v T'.heap L → own_Go p e below P T' (mkF m (pc + 3) Ls (v.toList ++ rest))) : own_Go p e below P T (mkF m pc Ls st) := by
  obtain ⟨v, _, ⟨T', L', k', n'⟩, -, X', ⟨Lc, hQ, l1, y1, z1⟩, stp⟩ := X.specialBack hx (y := y) hn hown (mvT hZ w1) (mvT hZ w2) (mvT hZ w4) hy hK (g := mkF m pc Ls st) rfl hsize (Steps.refl _) (a := b) (argsL := argsL) (rest := rest) hlen hstack (by show 2 * 0 + _ ≤ _; omega) hd (fun _ _ => ⟨rfl, eT, hc, hs⟩)
  dsimp only [Pt.U, Pt.locs, Pt.cells, Pt.slots] at X' l1 y1 z1 stp hQ
  subst l1 y1 z1
  exact own_go (fun _ q => stp.trans q) (k v T' Lc X' hQ)
theorem own_callN (X : Stand p l e R s m args below meth c T locs cells slots) (hx : p.tables.exec = Jvm.exec) (hZ : Z.Warmed39 s.vm) {own : String} {index : Nat} {y : MethodName} {bytes : ByteArray} {maxL : Nat} (hown : s.vm.findClass own = some m.cls)
    (w1 : (Jvm.Cond.methodLink own index y).before a0 Z = true) (w2 : (Jvm.Cond.instanceMethod y).before a0 Z = true) (w4 : (Jvm.Cond.code y bytes maxL none).before a0 Z = true) (w3 : (Jvm.Cond.initialized y.cls).before a0 Z = true) (hy : y.cls ≠ "java/lang/invoke/MethodHandle" ∧ y.cls ≠ "java/lang/invoke/VarHandle") (hn : y.name = "<init>")
    {b : Addr} {argsL rest : List Value} {rm : Room} {Q : Option Value → Heap → List Loc → Prop} (hM : own_Met l Z y bytes maxL none rm (.ref b :: argsL).toArray h Q) (eT : T.heap = h) {pc : Nat} {Ls : Array Slot} {st : List Value} (hsize : Ls.size = c.maxLocals)
    (hlen : ∀ sig, parseMethodDescriptor y.desc = some sig → argsL.length = sig.parameters.length) (hstack : st = argsL.reverse ++ .ref b :: rest) (hd : decode c.code pc = .ok (.invokespecial index, 3)) {W : Nat} (hW : (rest.map fun v => v.category).sum ≤ W) (h4 : rm.frames + 1 ≤ R.frames ∧ W + (maxL + 11) + rm.locals ≤ R.locals ∧ cells + rm.cells ≤ R.cells ∧ slots + rm.slots ≤ R.slots)
    (k : ∀ (v : Option Value) (T' : State) (L : List Loc), Stand p l e R s m args below meth c T' (locs ++ L) (cells + rm.cells) (slots + rm.slots) → Q v T'.heap L → own_Go p e below P T' (mkF m (pc + 3) Ls (v.toList ++ rest))) : own_Go p e below P T (mkF m pc Ls st) :=
  own_callNB X hx hZ hown w1 w2 w4 w3 hy hn (backOf (W := W) (hM []) hZ w4 w3 h4.1 h4.2.1) eT hsize hlen hstack hd hW h4.2.2.1 h4.2.2.2 k
/-- answers w, writes nothing old, leaves the heap as it was -/
def own_Qv (w : Option Value) (h0 : Heap) (n0 : Nat) (v : Option Value) (h : Heap) (L : List Loc) : Prop := v = w ∧ Fr n0 L ∧ h = h0
/-- the law's own: it answers 1 and writes nothing old -/
def own_Q1 (n0 : Nat) (v : Option Value) (h : Heap) (L : List Loc) : Prop := v = some (.int 1) ∧ Fr n0 L
theorem own_fldI {t : Term} {C n d : String} {a : Addr} {k : Int32} (ev : t.eval args Z none [] Z = some (.ref a)) (hx : (Jvm.Cond.eq (.field t C n d) (.int k)).value args Z none Z [] = some true) : Fld Z Z.heap a C n d (.int k) := by
  obtain ⟨x, y, h1, h2, k1, k2⟩ := cmp_v (Or.inl hx)
  have h2' : y = .int k := (Option.some.inj (h2.symm.trans (Term.int_eval k)))
  subst h2'
  obtain ⟨z, rfl⟩ : ∃ z, x = .int z := k2
  have hz : z = k := by simpa [Jvm.Cond.value, h1, h2] using hx
  subst hz
  exact Fld.start ((fld_at ev).symm.trans h1)
theorem own_fldN {t : Term} {C n d : String} {a : Addr} (ev : t.eval args Z none [] Z = some (.ref a)) (hx : (Jvm.Cond.eq (.field t C n d) .null).value args Z none Z [] = some true) : Fld Z Z.heap a C n d .null :=
  Fld.start ((fld_at ev).symm.trans (null_v hx))
theorem own_fldR {t : Term} {C n d : String} {a : Addr} (ev : t.eval args Z none [] Z = some (.ref a)) (hx : (Jvm.Cond.not (.eq (.field t C n d) .null)).value args Z none Z [] = some true) : ∃ b, Fld Z Z.heap a C n d (.ref b) := by
  obtain ⟨b, hb⟩ := nn_v (not_v hx)
  exact ⟨b, Fld.start ((fld_at ev).symm.trans hb)⟩
theorem own_fldX {t : Term} {C n d K : String} {a : Addr} (ev : t.eval args Z none [] Z = some (.ref a)) (hx : (Jvm.Cond.exactly (.field t C n d) K).value args Z none Z [] = some true) : ∃ b, (Term.field t C n d).eval args Z none [] Z = some (.ref b) ∧ Fld Z Z.heap a C n d (.ref b) ∧ Exa Z Z.heap b K := by
  obtain ⟨b, hb⟩ := exa_v hx
  exact ⟨b, hb, Fld.start ((fld_at ev).symm.trans hb), Exa.start hb hx⟩
theorem own_fldE {t t' : Term} {C n d : String} {a b : Addr} (ev : t.eval args Z none [] Z = some (.ref a)) (h2 : t'.eval args Z none [] Z = some (.ref b)) (hx : (Jvm.Cond.eq (.field t C n d) t').value args Z none Z [] = some true) : Fld Z Z.heap a C n d (.ref b) := by
  obtain ⟨x, y, h1, h2', k1, k2⟩ := cmp_v (Or.inl hx)
  cases h2.symm.trans h2'
  have k3 : x.isRef = true := k2.2
  have hz : x = .ref b := gotT (eq_R h1 h2 k3 rfl) hx
  subst hz
  exact Fld.start ((fld_at ev).symm.trans h1)
end Own
section Own2
variable {p : Program} {l : Launch} {e : Env} {R : Room} {s : State} {m : MethodId} {args : Array Value} {below : List Frame} {meth : Method} {c : Code} {T T' : State} {locs : List Loc} {cells slots : Nat} {Z : State} {a0 : Array Value} {h : Heap} {P : Outcome → State → Prop} {a b : Addr} {pc : Nat} {Ls : Array Slot} {rest : List Value} {k : ClassId} {ty : FieldType} {n j : Int32} {vs : List Value} {dv v : Value}
theorem own_oldle {n0 : Nat} (O : Old Z n0 h) : n0 ≤ h.size := O.1 ▸ O.2.1
theorem own_newR (X : Stand p l e R s m args below meth c T locs cells slots) (hx : p.tables.exec = Jvm.exec) (hZ : Z.Warmed39 s.vm) {own C : String} {index : Nat} (hown : s.vm.findClass own = some m.cls) (w1 : (Jvm.Cond.classLink own index C).before a0 Z = true) (w2 : (Jvm.Cond.arrayOver (.object C)).before a0 Z = true) (eT : T.heap = h)
    (hd : decode c.code pc = .ok (.anewarray index, 3)) (hn : ¬ n < 0) (cap : Nat) (hcap : n.toNatClampNeg ≤ cap) (hb : cap * 8 ≤ 536870912) (hc : cells + 1 ≤ R.cells) (hl : slots + cap ≤ R.slots)
    (kk : ∀ (T' : State) (h' : Heap) (cA : ClassId) (b : Addr), b = h.size → Stand p l e R s m args below meth c T' locs (cells + 1) (slots + cap) → T'.heap = h' → Ext h h' → Arv Z h' b cA (.object C) n (List.replicate cap .null) .null → Ovr Z cA C → own_Go p e below P T' (mkF m (pc + 3) Ls (.ref b :: rest))) :
    own_Go p e below P T (mkF m pc Ls (.int n :: rest)) := by
  obtain ⟨T', h', cA, X', e', E, A, O, st⟩ := newR X hx hZ hown w1 w2 eT (g := mkF m pc Ls (.int n :: rest)) rfl hd rfl hn hcap hb hc hl
  exact own_go st (kk T' h' cA _ rfl X' e' E ((Arv.new A hn).pad (pad_rep [] .null cap)) O)
theorem own_newP (X : Stand p l e R s m args below meth c T locs cells slots) (hx : p.tables.exec = Jvm.exec) (hZ : Z.Warmed39 s.vm) {aty : ArrayType} (w : (Jvm.Cond.arrayClass (newarray.typeOf aty)).before a0 Z = true) (eT : T.heap = h)
    (hd : decode c.code pc = .ok (.newarray aty, 2)) (hn : ¬ n < 0) (cap : Nat) (hcap : n.toNatClampNeg ≤ cap) (hb : cap * 8 ≤ 536870912) (hc : cells + 1 ≤ R.cells) (hl : slots + cap ≤ R.slots)
    (kk : ∀ (T' : State) (h' : Heap) (cA : ClassId) (b : Addr), b = h.size → Stand p l e R s m args below meth c T' locs (cells + 1) (slots + cap) → T'.heap = h' → Ext h h' → Arv Z h' b cA (newarray.typeOf aty) n (List.replicate cap (defaultValue (newarray.typeOf aty))) (defaultValue (newarray.typeOf aty)) → own_Go p e below P T' (mkF m (pc + 2) Ls (.ref b :: rest))) :
    own_Go p e below P T (mkF m pc Ls (.int n :: rest)) := by
  obtain ⟨T', h', cA, X', e', E, A, st⟩ := newP X hx hZ w eT (g := mkF m pc Ls (.int n :: rest)) rfl hd rfl hn hcap hb hc hl
  exact own_go st (kk T' h' cA _ rfl X' e' E ((Arv.new A hn).pad (pad_rep [] _ cap)))
theorem own_newO (X : Stand p l e R s m args below meth c T locs cells slots) (hx : p.tables.exec = Jvm.exec) (hZ : Z.Warmed39 s.vm) {own C : String} {index n : Nat} {st : List Value} (hown : s.vm.findClass own = some m.cls) (w : (Jvm.Cond.classLink own index C).before a0 Z = true) (wi : (Jvm.Cond.instantiable C n).before a0 Z = true) (wz : (Jvm.Cond.initialized C).before a0 Z = true) (eT : T.heap = h)
    (hd : decode c.code pc = .ok (.new index, 3)) (hc : cells + 1 ≤ R.cells) (hl : slots + n ≤ R.slots)
    (kk : ∀ (T' : State) (h' : Heap) (b : Addr), b = h.size → Stand p l e R s m args below meth c T' locs (cells + 1) (slots + n) → T'.heap = h' → Ext h h' → Exa Z h' b C → (∀ {O nm d : String} {ty : FieldType}, Laid Z a0 C O nm d → parseFieldDescriptor d = some ty → Fld Z h' b O nm d (defaultValue ty)) → own_Go p e below P T' (mkF m (pc + 3) Ls (.ref b :: st))) :
    own_Go p e below P T (mkF m pc Ls st) := by
  obtain ⟨T', h', X', e', E, A, D, -, stp⟩ := newO X hx hZ hown w wi wz eT (g := mkF m pc Ls st) rfl hd hc hl
  exact own_go stp (kk T' h' _ rfl X' e' E A (fun {_ _ _ _} q r => D q r))
theorem own_stR (X : Stand p l e R s m args below meth c T locs cells slots) (hx : p.tables.exec = Jvm.exec) (hZ : Z.Warmed39 s.vm) {C : String} {y : Addr} (eT : T.heap = h) (A : Arv Z h b k (.object C) n vs dv) (O : Ovr Z k C) (I : Ins Z h y C true) (hj : ¬ j < 0 ∧ j < n) (i : Nat) (hi : j.toNatClampNeg = i) (hil : i < vs.length)
    (hd : decode c.code pc = .ok (.aastore, 1))
    (kk : ∀ (T' : State) (h' : Heap), Stand p l e R s m args below meth c T' (locs ++ [⟨b, j.toNatClampNeg⟩]) cells slots → T'.heap = h' → Wr h h' b j.toNatClampNeg (.ref y) → Arv Z h' b k (.object C) n (vs.set i (.ref y)) dv → own_Go p e below P T' (mkF m (pc + 1) Ls rest)) :
    own_Go p e below P T (mkF m pc Ls (.ref y :: .int j :: .ref b :: rest)) := by
  obtain ⟨cl, A1, q1, S, q3, H, G⟩ := A
  obtain ⟨T', h', X', e', W, st⟩ := stR X hx hZ eT A1 (j := j) (v := .ref y) (inb_of S hj) rfl (Sto.ofV A1 q1 O I) (g := mkF m pc Ls (.ref y :: .int j :: .ref b :: rest)) rfl rfl hd
  exact own_go st (kk T' h' X' e' W (Arv.set A1 q1 S q3 H G rfl W i hi hil))
theorem own_stC (X : Stand p l e R s m args below meth c T locs cells slots) (hx : p.tables.exec = Jvm.exec) (hZ : Z.Warmed39 s.vm) {x : Int32} (eT : T.heap = h) (A : Arv Z h b k .char n vs dv) (hj : ¬ j < 0 ∧ j < n) (i : Nat) (hi : j.toNatClampNeg = i) (hil : i < vs.length) (hd : decode c.code pc = .ok (.castore, 1))
    (kk : ∀ (T' : State) (h' : Heap), Stand p l e R s m args below meth c T' (locs ++ [⟨b, j.toNatClampNeg⟩]) cells slots → T'.heap = h' → Wr h h' b j.toNatClampNeg (.int (nar .char x)) → Arv Z h' b k .char n (vs.set i (.int (nar .char x))) dv → own_Go p e below P T' (mkF m (pc + 1) Ls rest)) :
    own_Go p e below P T (mkF m pc Ls (.int x :: .int j :: .ref b :: rest)) := by
  obtain ⟨cl, A1, q1, S, q3, H, G⟩ := A
  obtain ⟨T', h', X', e', W, st⟩ := stC X hx hZ eT A1 (j := j) (x := x) (inb_of S hj) (g := mkF m pc Ls (.int x :: .int j :: .ref b :: rest)) rfl rfl hd
  exact own_go st (kk T' h' X' e' W (Arv.set A1 q1 S q3 H G (fits_nar_char _) W i hi hil))
theorem own_stI (X : Stand p l e R s m args below meth c T locs cells slots) (hx : p.tables.exec = Jvm.exec) (hZ : Z.Warmed39 s.vm) {x : Int32} (eT : T.heap = h) (A : Arv Z h b k .int n vs dv) (hj : ¬ j < 0 ∧ j < n) (i : Nat) (hi : j.toNatClampNeg = i) (hil : i < vs.length) (hd : decode c.code pc = .ok (.iastore, 1))
    (kk : ∀ (T' : State) (h' : Heap), Stand p l e R s m args below meth c T' (locs ++ [⟨b, j.toNatClampNeg⟩]) cells slots → T'.heap = h' → Wr h h' b j.toNatClampNeg (.int x) → Arv Z h' b k .int n (vs.set i (.int x)) dv → own_Go p e below P T' (mkF m (pc + 1) Ls rest)) :
    own_Go p e below P T (mkF m pc Ls (.int x :: .int j :: .ref b :: rest)) := by
  obtain ⟨cl, A1, q1, S, q3, H, G⟩ := A
  obtain ⟨T', h', X', e', W, st⟩ := stI X hx hZ eT A1 (j := j) (x := x) (inb_of S hj) (g := mkF m pc Ls (.int x :: .int j :: .ref b :: rest)) rfl rfl hd
  exact own_go st (kk T' h' X' e' W (Arv.set A1 q1 S q3 H G rfl W i hi hil))
theorem own_stB (X : Stand p l e R s m args below meth c T locs cells slots) (hx : p.tables.exec = Jvm.exec) (hZ : Z.Warmed39 s.vm) {x : Int32} (eT : T.heap = h) (A : Arv Z h b k .byte n vs dv) (hj : ¬ j < 0 ∧ j < n) (i : Nat) (hi : j.toNatClampNeg = i) (hil : i < vs.length) (hd : decode c.code pc = .ok (.bastore, 1))
    (kk : ∀ (T' : State) (h' : Heap), Stand p l e R s m args below meth c T' (locs ++ [⟨b, j.toNatClampNeg⟩]) cells slots → T'.heap = h' → Wr h h' b j.toNatClampNeg (.int (nar .byte x)) → Arv Z h' b k .byte n (vs.set i (.int (nar .byte x))) dv → own_Go p e below P T' (mkF m (pc + 1) Ls rest)) :
    own_Go p e below P T (mkF m pc Ls (.int x :: .int j :: .ref b :: rest)) := by
  obtain ⟨cl, A1, q1, S, q3, H, G⟩ := A
  obtain ⟨T', h', X', e', W, st⟩ := stB X hx hZ eT A1 (j := j) (x := x) (inb_of S hj) (g := mkF m pc Ls (.int x :: .int j :: .ref b :: rest)) rfl rfl hd
  exact own_go st (kk T' h' X' e' W (Arv.set A1 q1 S q3 H G (fits_nar_byte _) W i hi hil))
theorem own_ldA (X : Stand p l e R s m args below meth c T locs cells slots) (hx : p.tables.exec = Jvm.exec) (hZ : Z.Warmed39 s.vm) (eT : T.heap = h) (A : Arv Z h b k ty n vs dv) (hty : ty.isReference = true) (hj : ¬ j < 0 ∧ j < n) (hv : vs.getD j.toNatClampNeg dv = v) (hd : decode c.code pc = .ok (.aaload, 1))
    (kk : own_Go p e below P T (mkF m (pc + 1) Ls (v :: rest))) : own_Go p e below P T (mkF m pc Ls (.int j :: .ref b :: rest)) := by
  obtain ⟨cl, A1, q1, S, q3, H, G⟩ := A
  exact own_go (X.aaload hx (j := j) (v := v) (by rw [eT]; exact A1.1) (State.isArrayOf_alike hZ.alike A1.2.1) hty A1.2.2 (inb_of S hj) (H.at (inb_of S hj) hv) (g := mkF m pc Ls (.int j :: .ref b :: rest)) rfl rfl hd) kk
theorem own_ldC (X : Stand p l e R s m args below meth c T locs cells slots) (hx : p.tables.exec = Jvm.exec) (hZ : Z.Warmed39 s.vm) (eT : T.heap = h) (A : Arv Z h b k .char n vs dv) (hj : ¬ j < 0 ∧ j < n) (hv : vs.getD j.toNatClampNeg dv = v) (hd : decode c.code pc = .ok (.caload, 1))
    (kk : own_Go p e below P T (mkF m (pc + 1) Ls (v :: rest))) : own_Go p e below P T (mkF m pc Ls (.int j :: .ref b :: rest)) := by
  obtain ⟨cl, A1, q1, S, q3, H, G⟩ := A
  exact own_go (X.caload hx (j := j) (v := v) (by rw [eT]; exact A1.1) (State.isArrayOf_alike hZ.alike A1.2.1) A1.2.2 (inb_of S hj) (H.at (inb_of S hj) hv) (g := mkF m pc Ls (.int j :: .ref b :: rest)) rfl rfl hd) kk
theorem own_ldB (X : Stand p l e R s m args below meth c T locs cells slots) (hx : p.tables.exec = Jvm.exec) (hZ : Z.Warmed39 s.vm) (eT : T.heap = h) (A : Arv Z h b k .byte n vs dv) (hj : ¬ j < 0 ∧ j < n) (hv : vs.getD j.toNatClampNeg dv = v) (hd : decode c.code pc = .ok (.baload, 1))
    (kk : own_Go p e below P T (mkF m (pc + 1) Ls (v :: rest))) : own_Go p e below P T (mkF m pc Ls (.int j :: .ref b :: rest)) := by
  obtain ⟨cl, A1, q1, S, q3, H, G⟩ := A
  exact own_go (X.baloadBytes hx (j := j) (v := v) (by rw [eT]; exact A1.1) (State.isArrayOf_alike hZ.alike A1.2.1) A1.2.2 (inb_of S hj) (H.at (inb_of S hj) hv) (g := mkF m pc Ls (.int j :: .ref b :: rest)) rfl rfl hd) kk
theorem own_ldI (X : Stand p l e R s m args below meth c T locs cells slots) (hx : p.tables.exec = Jvm.exec) (hZ : Z.Warmed39 s.vm) (eT : T.heap = h) (A : Arv Z h b k .int n vs dv) (hj : ¬ j < 0 ∧ j < n) (hv : vs.getD j.toNatClampNeg dv = v) (hd : decode c.code pc = .ok (.iaload, 1))
    (kk : own_Go p e below P T (mkF m (pc + 1) Ls (v :: rest))) : own_Go p e below P T (mkF m pc Ls (.int j :: .ref b :: rest)) := by
  obtain ⟨cl, A1, q1, S, q3, H, G⟩ := A
  exact own_go (X.iaload hx (j := j) (v := v) (by rw [eT]; exact A1.1) (State.isArrayOf_alike hZ.alike A1.2.1) A1.2.2 (inb_of S hj) (H.at (inb_of S hj) hv) (g := mkF m pc Ls (.int j :: .ref b :: rest)) rfl rfl hd) kk
theorem own_len (X : Stand p l e R s m args below meth c T locs cells slots) (hx : p.tables.exec = Jvm.exec) (hZ : Z.Warmed39 s.vm) (eT : T.heap = h) (A : Arv Z h b k ty n vs dv) (hd : decode c.code pc = .ok (.arraylength, 1))
    (kk : own_Go p e below P T (mkF m (pc + 1) Ls (.int n :: rest))) : own_Go p e below P T (mkF m pc Ls (.ref b :: rest)) := by
  obtain ⟨cl, A1, q1, S, q3, H, G⟩ := A
  refine own_go (X.arraylength hx (by rw [eT]; exact A1.1) (State.isArrayOf_alike hZ.alike A1.2.1) (g := mkF m pc Ls (.ref b :: rest)) rfl rfl hd) ?_
  rw [len_of S q3]
  exact kk
end Own2
section Own3
variable {p : Program} {l : Launch} {e : Env} {R : Room} {s : State} {vm0 : Vm} {m : MethodId} {args : Array Value} {below : List Frame} {meth : Method} {c : Code} {T T' : State} {locs : List Loc} {cells slots : Nat} {Z : State} {a0 : Array Value} {h : Heap} {P : Outcome → State → Prop} {a b : Addr} {pc : Nat} {Ls : Array Slot} {rest st : List Value}
/-- as own_End, where String constants may have been booked -/
def own_EndW (s : State) (Q : Option Value → Heap → List Loc → Prop) (k n : Nat) (o : Outcome) (t : State) : Prop := ∃ v L, o = .returned v ∧ Q v t.heap L ∧ ReturnedEndW s o t L k n
def own_MetW (l : Launch) (Z : State) (y : MethodName) (bytes : ByteArray) (maxL : Nat) (ret : Option FieldType) (rm : Room) (as' : Array Value) (h0 : Heap) (Q : Option Value → Heap → List Loc → Prop) : Prop :=
  ∀ ws : List Jvm.Cond, MetFree l y (head1 (Jvm.Cond.code y bytes maxL ret :: ws) rm) (fun a U => a = as' ∧ Z.Warmed39 U.vm ∧ U.heap = h0) (fun _ _ _ _ _ => True) (fun _ U o U' => ∃ v L, o = .returned v ∧ Q v U'.heap L ∧ ReturnedEndW U o U' L rm.cells rm.slots)
theorem own_bodyW {y : MethodName} {bytes : ByteArray} {maxL : Nat} {ret : Option FieldType} {rm : Room} {as' : Array Value} {h0 : Heap} {Q : Option Value → Heap → List Loc → Prop} (hp : plainFor y = true)
    (k : ∀ (p : Program) (e : Env) (s : State) (m : MethodId) (below : List Frame) (meth : Method) (c : Code) (T : State), Stand p l e rm (s.setVm s.vm) m as' below meth c T [] 0 0 → p.tables.exec = Jvm.exec → Z.Warmed39 (s.setVm s.vm).vm → c.code = bytes → c.maxLocals = maxL → (s.setVm s.vm).vm.findClass y.cls = some m.cls → meth.name = y.name →
      meth.sig.returnType = ret → meth.locks = false → T.heap = h0 → s.Since s.vm h0.size → h0.size ≤ h0.size → s.heap = h0 → own_Go p e below (own_EndW s Q rm.cells rm.slots) T (entryFrame m as' maxL)) : own_MetW l Z y bytes maxL ret rm as' h0 Q := by
  intro ws
  refine MetFree.of_bodySF hp hisR ?_
  intro p e s m args below meth c s₁ Bd hml0 hP hK
  obtain ⟨rfl, hZ, hh⟩ := hP
  exact k p e s m below meth c s₁ (Stand.of_body Bd) Bd.exec hZ Bd.bytes hml0 (findClass_of_methodNamed Bd.named) (name_of_methodNamed Bd.named Bd.method).1 Bd.returns Bd.notSynchronized (by rw [← hh, Bd.state]; rfl) ((State.WarmedH.refl s).since _) (Nat.le_refl _) hh
theorem own_retW (X : Stand p l e R (s.setVm vm0) m args below meth c T locs cells slots) (hx : p.tables.exec = Jvm.exec) {w : Value} {t : FieldType} {i : Instr} (hret : meth.sig.returnType = some t) (hlk : meth.locks = false) (hd : decode c.code pc = .ok (i, 1)) (hn : narrow t w = w)
    (hi : (i = .ireturn ∧ (t = .int ∨ t = .boolean ∨ t = .byte ∨ t = .char ∨ t = .short) ∧ ∃ z, w = .int z) ∨ (i = .lreturn ∧ t = .long ∧ ∃ z, w = .long z) ∨ (i = .dreturn ∧ t = .double ∧ ∃ z, w = .double z) ∨ (i = .freturn ∧ t = .float ∧ ∃ z, w = .float z) ∨ (i = .areturn ∧ t.isReference = true ∧ w.isRef = true))
    {n : Nat} (hS : s.Since vm0 n) (hk : n ≤ T.heap.size) {Q : Option Value → Heap → List Loc → Prop} {kc kn : Nat} (hc : cells ≤ kc) (hs : slots ≤ kn) (hQ : Q (some w) T.heap locs) : own_Go p e below (own_EndW s Q kc kn) T (mkF m pc Ls (w :: rest)) := by
  obtain ⟨fs, hr, hrun, hended, hE⟩ := X.leaveW hS hk (v := some w) (fun h => by rw [hret] at h; cases h) hlk
  exact ⟨_, _, retOut X hx hret hn hi hd hr, hrun, hended, _, _, rfl, hQ, hE.1, hE.2.1, hE.2.2.1, hE.2.2.2.mono hc hs⟩
theorem own_retIW (X : Stand p l e R (s.setVm vm0) m args below meth c T locs cells slots) (hx : p.tables.exec = Jvm.exec) {z : Int32} {t : FieldType} (hret : meth.sig.returnType = some t) (hlk : meth.locks = false) (hd : decode c.code pc = .ok (.ireturn, 1)) (hn : narrow t (.int z) = .int z)
    (ht : t = .int ∨ t = .boolean ∨ t = .byte ∨ t = .char ∨ t = .short) {n : Nat} (hS : s.Since vm0 n) (hk : n ≤ T.heap.size) {Q : Option Value → Heap → List Loc → Prop} {kc kn : Nat} (hc : cells ≤ kc) (hs : slots ≤ kn) (hQ : Q (some (.int z)) T.heap locs) : own_Go p e below (own_EndW s Q kc kn) T (mkF m pc Ls (.int z :: rest)) :=
  own_retW X hx hret hlk hd hn (Or.inl ⟨rfl, ht, z, rfl⟩) hS hk hc hs hQ
theorem own_retAW (X : Stand p l e R (s.setVm vm0) m args below meth c T locs cells slots) (hx : p.tables.exec = Jvm.exec) {w : Value} {t : FieldType} (hret : meth.sig.returnType = some t) (hlk : meth.locks = false) (hd : decode c.code pc = .ok (.areturn, 1)) (ht : t.isReference = true) (hw : w.isRef = true)
    {n : Nat} (hS : s.Since vm0 n) (hk : n ≤ T.heap.size) {Q : Option Value → Heap → List Loc → Prop} {kc kn : Nat} (hc : cells ≤ kc) (hs : slots ≤ kn) (hQ : Q (some w) T.heap locs) : own_Go p e below (own_EndW s Q kc kn) T (mkF m pc Ls (w :: rest)) :=
  own_retW X hx hret hlk hd (by cases t <;> first | rfl | (cases w <;> rfl) | (simp [FieldType.isReference] at ht)) (Or.inr (Or.inr (Or.inr (Or.inr ⟨rfl, ht, hw⟩)))) hS hk hc hs hQ
theorem own_retVW (X : Stand p l e R (s.setVm vm0) m args below meth c T locs cells slots) (hx : p.tables.exec = Jvm.exec) (hret : meth.sig.returnType = none) (hlk : meth.locks = false) (hd : decode c.code pc = .ok (.return_, 1))
    {n : Nat} (hS : s.Since vm0 n) (hk : n ≤ T.heap.size) {Q : Option Value → Heap → List Loc → Prop} {kc kn : Nat} (hc : cells ≤ kc) (hs : slots ≤ kn) (hQ : Q none T.heap locs) : own_Go p e below (own_EndW s Q kc kn) T (mkF m pc Ls []) := by
  obtain ⟨fs, hr, hrun, hended, hE⟩ := X.leaveW hS hk (v := none) (fun _ => rfl) hlk
  exact ⟨_, _, X.returnOut hx hret hd hr, hrun, hended, _, _, rfl, hQ, hE.1, hE.2.1, hE.2.2.1, hE.2.2.2.mono hc hs⟩
/-- a String constant of which nothing is said but its place -/
theorem own_ldcS (X : Stand p l e R (s.setVm vm0) m args below meth c T locs cells slots) (hx : p.tables.exec = Jvm.exec) (hZ : Z.Warmed39 vm0) {own text : String} {index : Nat} (hown : vm0.findClass own = some m.cls) (w : (Jvm.Cond.stringLink own index text).before a0 Z = true) (wS : ∀ a ∈ Bundle.stringAtoms, a.before a0 Z = true)
    (eT : T.heap = h) {k0 : Nat} (hS : s.Since vm0 k0) (hk : k0 ≤ h.size) (hd : decode c.code pc = .ok (.ldc index, 2)) (n : Nat) (hn : 4 * text.toList.length ≤ n) (hbig : n ≤ 536870912) (hc : cells + 2 ≤ R.cells) (hl : slots + (n + 4) ≤ R.slots)
    (kk : ∀ (a : Addr) (T' : State) (h' : Heap) (k1 : Nat), Stand p l e R (s.setVm T'.vm) m args below meth c T' locs (cells + 2) (slots + (n + 4)) → T'.heap = h' → Ext h h' → s.Since T'.vm k1 → k1 ≤ h'.size → Z.Warmed39 (s.setVm T'.vm).vm → (s.setVm T'.vm).vm.findClass own = some m.cls → own_Go p e below P T' (mkF m (pc + 2) Ls (.ref a :: st))) :
    own_Go p e below P T (mkF m pc Ls st) := by
  obtain ⟨a, T', h', k1, X', e', E, S', hk', hZ', hown', stp⟩ := ldcS X hx hZ hown w wS eT hS hk (g := mkF m pc Ls st) rfl hd hn hbig hc hl
  exact own_go stp (kk a T' h' k1 X' e' E S' hk' hZ' hown')
end Own3
section Own4
variable {p : Program} {l : Launch} {e : Env} {R : Room} {s : State} {vm0 : Vm} {m : MethodId} {args : Array Value} {below : List Frame} {meth : Method} {c : Code} {T T' : State} {locs : List Loc} {cells slots : Nat} {Z : State} {a0 : Array Value} {h h0 : Heap} {P : Outcome → State → Prop} {a b : Addr} {pc : Nat} {Ls : Array Slot} {rest st : List Value} {EL : List (String × Nat)}
/-- as own_EndW; what the constants of EL hold is still known -/
def own_EndH (Z : State) (EL : List (String × Nat)) (s : State) (h0 : Heap) (Q : Option Value → Heap → List Loc → Prop) (k n : Nat) (o : Outcome) (t : State) : Prop := ∃ v L, o = .returned v ∧ Q v t.heap L ∧ CHr Z EL s.vm h0 t.vm t.heap ∧ ReturnedEndW s o t L k n
def own_MetH (l : Launch) (Z : State) (EL : List (String × Nat)) (y : MethodName) (bytes : ByteArray) (maxL : Nat) (ret : Option FieldType) (rm : Room) (as' : Array Value) (h0 : Heap) (Q : Option Value → Heap → List Loc → Prop) : Prop :=
  ∀ ws : List Jvm.Cond, MetFree l y (head1 (Jvm.Cond.code y bytes maxL ret :: ws) rm) (fun a U => a = as' ∧ Z.Warmed39 U.vm ∧ U.heap = h0 ∧ CHv Z EL U.vm h0) (fun _ _ _ _ _ => True) (fun _ U o U' => ∃ v L, o = .returned v ∧ Q v U'.heap L ∧ CHr Z EL U.vm U.heap U'.vm U'.heap ∧ ReturnedEndW U o U' L rm.cells rm.slots)
theorem own_bodyH {y : MethodName} {bytes : ByteArray} {maxL : Nat} {ret : Option FieldType} {rm : Room} {as' : Array Value} {Q : Option Value → Heap → List Loc → Prop} (hp : plainFor y = true)
    (k : ∀ (p : Program) (e : Env) (s : State) (m : MethodId) (below : List Frame) (meth : Method) (c : Code) (T : State), Stand p l e rm (s.setVm s.vm) m as' below meth c T [] 0 0 → p.tables.exec = Jvm.exec → Z.Warmed39 (s.setVm s.vm).vm → c.code = bytes → c.maxLocals = maxL → (s.setVm s.vm).vm.findClass y.cls = some m.cls → meth.name = y.name →
      meth.sig.returnType = ret → meth.locks = false → T.heap = h0 → s.Since s.vm h0.size → h0.size ≤ h0.size → CHr Z EL s.vm h0 s.vm h0 → own_Go p e below (own_EndH Z EL s h0 Q rm.cells rm.slots) T (entryFrame m as' maxL)) : own_MetH l Z EL y bytes maxL ret rm as' h0 Q := by
  intro ws
  refine MetFree.of_bodySF hp hisR ?_
  intro p e s m args below meth c s₁ Bd hml0 hP hK
  obtain ⟨rfl, hZ, hh, hC⟩ := hP
  obtain ⟨s₂, o, q1, q2, q3, v, L, q4, q5, q6, q7⟩ := k p e s m below meth c s₁ (Stand.of_body Bd) Bd.exec hZ Bd.bytes hml0 (findClass_of_methodNamed Bd.named) (name_of_methodNamed Bd.named Bd.method).1 Bd.returns Bd.notSynchronized (by rw [← hh, Bd.state]; rfl) ((State.WarmedH.refl s).since _) (Nat.le_refl _) (CHr.refl hC)
  exact ⟨s₂, o, q1, q2, q3, v, L, q4, q5, by rw [hh]; exact q6, q7⟩
theorem own_retH (X : Stand p l e R (s.setVm vm0) m args below meth c T locs cells slots) (hx : p.tables.exec = Jvm.exec) {w : Value} {t : FieldType} {i : Instr} (hret : meth.sig.returnType = some t) (hlk : meth.locks = false) (hd : decode c.code pc = .ok (i, 1)) (hn : narrow t w = w)
    (hi : (i = .ireturn ∧ (t = .int ∨ t = .boolean ∨ t = .byte ∨ t = .char ∨ t = .short) ∧ ∃ z, w = .int z) ∨ (i = .lreturn ∧ t = .long ∧ ∃ z, w = .long z) ∨ (i = .dreturn ∧ t = .double ∧ ∃ z, w = .double z) ∨ (i = .freturn ∧ t = .float ∧ ∃ z, w = .float z) ∨ (i = .areturn ∧ t.isReference = true ∧ w.isRef = true))
    (hZ : Z.Warmed39 vm0) (hEL : EW Z a0 EL) (hC : CHr Z EL s.vm h0 vm0 h) (eT : T.heap = h) {n : Nat} (hS : s.Since vm0 n) (hk : n ≤ h.size) {Q : Option Value → Heap → List Loc → Prop} {kc kn : Nat} (hc : cells ≤ kc) (hs : slots ≤ kn) (hQ : Q (some w) T.heap locs) : own_Go p e below (own_EndH Z EL s h0 Q kc kn) T (mkF m pc Ls (w :: rest)) := by
  subst eT
  obtain ⟨fs, hr, hrun, hended, hE⟩ := X.leaveW hS hk (v := some w) (fun h => by rw [hret] at h; cases h) hlk
  exact ⟨_, _, retOut X hx hret hn hi hd hr, hrun, hended, _, _, rfl, hQ, hC.trans (show CHr Z EL vm0 T.heap T.vm T.heap from CHv.at X hZ hEL hC.1), hE.1, hE.2.1, hE.2.2.1, hE.2.2.2.mono hc hs⟩
theorem own_retIH (X : Stand p l e R (s.setVm vm0) m args below meth c T locs cells slots) (hx : p.tables.exec = Jvm.exec) {z : Int32} {t : FieldType} (hret : meth.sig.returnType = some t) (hlk : meth.locks = false) (hd : decode c.code pc = .ok (.ireturn, 1)) (hn : narrow t (.int z) = .int z)
    (ht : t = .int ∨ t = .boolean ∨ t = .byte ∨ t = .char ∨ t = .short) (hZ : Z.Warmed39 vm0) (hEL : EW Z a0 EL) (hC : CHr Z EL s.vm h0 vm0 h) (eT : T.heap = h) {n : Nat} (hS : s.Since vm0 n) (hk : n ≤ h.size) {Q : Option Value → Heap → List Loc → Prop} {kc kn : Nat} (hc : cells ≤ kc) (hs : slots ≤ kn) (hQ : Q (some (.int z)) T.heap locs) :
    own_Go p e below (own_EndH Z EL s h0 Q kc kn) T (mkF m pc Ls (.int z :: rest)) :=
  own_retH X hx hret hlk hd hn (Or.inl ⟨rfl, ht, z, rfl⟩) hZ hEL hC eT hS hk hc hs hQ
theorem own_retAH (X : Stand p l e R (s.setVm vm0) m args below meth c T locs cells slots) (hx : p.tables.exec = Jvm.exec) {w : Value} {t : FieldType} (hret : meth.sig.returnType = some t) (hlk : meth.locks = false) (hd : decode c.code pc = .ok (.areturn, 1)) (ht : t.isReference = true) (hw : w.isRef = true)
    (hZ : Z.Warmed39 vm0) (hEL : EW Z a0 EL) (hC : CHr Z EL s.vm h0 vm0 h) (eT : T.heap = h) {n : Nat} (hS : s.Since vm0 n) (hk : n ≤ h.size) {Q : Option Value → Heap → List Loc → Prop} {kc kn : Nat} (hc : cells ≤ kc) (hs : slots ≤ kn) (hQ : Q (some w) T.heap locs) :
    own_Go p e below (own_EndH Z EL s h0 Q kc kn) T (mkF m pc Ls (w :: rest)) :=
  own_retH X hx hret hlk hd (by cases t <;> first | rfl | (cases w <;> rfl) | (simp [FieldType.isReference] at ht)) (Or.inr (Or.inr (Or.inr (Or.inr ⟨rfl, ht, hw⟩)))) hZ hEL hC eT hS hk hc hs hQ
theorem own_retVH (X : Stand p l e R (s.setVm vm0) m args below meth c T locs cells slots) (hx : p.tables.exec = Jvm.exec) (hret : meth.sig.returnType = none) (hlk : meth.locks = false) (hd : decode c.code pc = .ok (.return_, 1))
    (hZ : Z.Warmed39 vm0) (hEL : EW Z a0 EL) (hC : CHr Z EL s.vm h0 vm0 h) (eT : T.heap = h) {n : Nat} (hS : s.Since vm0 n) (hk : n ≤ h.size) {Q : Option Value → Heap → List Loc → Prop} {kc kn : Nat} (hc : cells ≤ kc) (hs : slots ≤ kn) (hQ : Q none T.heap locs) : own_Go p e below (own_EndH Z EL s h0 Q kc kn) T (mkF m pc Ls []) := by
  subst eT
  obtain ⟨fs, hr, hrun, hended, hE⟩ := X.leaveW hS hk (v := none) (fun _ => rfl) hlk
  exact ⟨_, _, X.returnOut hx hret hd hr, hrun, hended, _, _, rfl, hQ, hC.trans (show CHr Z EL vm0 T.heap T.vm T.heap from CHv.at X hZ hEL hC.1), hE.1, hE.2.1, hE.2.2.1, hE.2.2.2.mono hc hs⟩
/-- a String constant of which nothing is read -/
theorem own_ldcO (X : Stand p l e R (s.setVm vm0) m args below meth c T locs cells slots) (hx : p.tables.exec = Jvm.exec) (hZ : Z.Warmed39 vm0) {own text : String} {index : Nat} (hown : vm0.findClass own = some m.cls) (w : (Jvm.Cond.stringLink own index text).before a0 Z = true) (wS : ∀ a ∈ Bundle.stringAtoms, a.before a0 Z = true)
    (eT : T.heap = h) {k0 : Nat} (hS : s.Since vm0 k0) (hk : k0 ≤ h.size) (hEL : EW Z a0 EL) (H : CHv Z EL vm0 h) (hd : decode c.code pc = .ok (.ldc index, 2)) (n : Nat) (hn : 4 * text.toList.length ≤ n) (hbig : n ≤ 536870912) (hc : cells + 2 ≤ R.cells) (hl : slots + (n + 4) ≤ R.slots)
    (kk : ∀ (a : Addr) (T' : State) (h' : Heap) (k1 : Nat), Stand p l e R (s.setVm T'.vm) m args below meth c T' locs (cells + 2) (slots + (n + 4)) → T'.heap = h' → Ext h h' → s.Since T'.vm k1 → k1 ≤ h'.size → Z.Warmed39 (s.setVm T'.vm).vm → (s.setVm T'.vm).vm.findClass own = some m.cls → CHr Z EL vm0 h T'.vm h' → Lit (s.setVm T'.vm) own index a → own_Go p e below P T' (mkF m (pc + 2) Ls (.ref a :: st))) :
    own_Go p e below P T (mkF m pc Ls st) := by
  obtain ⟨a, T', h', k1, X', e', E, S', hk', hZ', hown', hC, hL, stp⟩ := ldcOH X hx hZ hown w wS eT hS hk hEL H (g := mkF m pc Ls st) rfl hd hn hbig hc hl
  exact own_go stp (kk a T' h' k1 X' e' E S' hk' hZ' hown' hC hL)
/-- a String constant that is read -/
theorem own_ldcH (X : Stand p l e R (s.setVm vm0) m args below meth c T locs cells slots) (hx : p.tables.exec = Jvm.exec) (hZ : Z.Warmed39 vm0) {own text : String} {index : Nat} (hown : vm0.findClass own = some m.cls) (w : (Jvm.Cond.stringLink own index text).before a0 Z = true) (wS : ∀ a ∈ Bundle.stringAtoms, a.before a0 Z = true)
    (eT : T.heap = h) {k0 : Nat} (hS : s.Since vm0 k0) (hk : k0 ≤ h.size) (hEL : EW Z a0 EL) (hmem : (own, index) ∈ EL) (H : CHv Z EL vm0 h) {vs : List Value} {z : Int32} (ht : (∀ c ∈ text.toList, c.toNat < 256) ∧ text.toList.map (fun c => Value.int (Jvm.Lit.byteI c.toNat.toUInt16)) = vs) (hz : ¬ z < 0) (hlz : z.toNatClampNeg = vs.length)
    (hd : decode c.code pc = .ok (.ldc index, 2)) (n : Nat) (hn : 4 * text.toList.length ≤ n) (hbig : n ≤ 536870912) (hc : cells + 2 ≤ R.cells) (hl : slots + (n + 4) ≤ R.slots)
    (kk : ∀ (a : Addr) (T' : State) (h' : Heap) (k1 : Nat) (b : Addr) (k : ClassId), Stand p l e R (s.setVm T'.vm) m args below meth c T' locs (cells + 2) (slots + (n + 4)) → T'.heap = h' → Ext h h' → s.Since T'.vm k1 → k1 ≤ h'.size → Z.Warmed39 (s.setVm T'.vm).vm → (s.setVm T'.vm).vm.findClass own = some m.cls →
      Exa Z h' a "java/lang/String" → Fld Z h' a "java/lang/String" "coder" "B" (.int 0) → Fld Z h' a "java/lang/String" "value" "[B" (.ref b) → Arv Z h' b k .byte z vs (.int 0) → CHr Z EL vm0 h T'.vm h' → Lit (s.setVm T'.vm) own index a → (∀ x, Safe Z EL T'.vm h' x → x ≠ a ∧ x ≠ b) → own_Go p e below P T' (mkF m (pc + 2) Ls (.ref a :: st))) :
    own_Go p e below P T (mkF m pc Ls st) := by
  obtain ⟨a, T', h', k1, b, k, X', e', E, S', hk', hZ', hown', q1, q2, q3, q4, -, -, hC, hL, hne, stp⟩ := ldcCH X hx hZ hown w wS eT hS hk hEL hmem H ht hz hlz (g := mkF m pc Ls st) rfl hd hn hbig hc hl
  exact own_go stp (kk a T' h' k1 b k X' e' E S' hk' hZ' hown' q1 q2 q3 q4 hC hL hne)
theorem own_callSH (X : Stand p l e R (s.setVm vm0) m args below meth c T locs cells slots) (hx : p.tables.exec = Jvm.exec) (hZ : Z.Warmed39 vm0) {own : String} {index : Nat} {y : MethodName} {bytes : ByteArray} {maxL : Nat} {ret : Option FieldType} (hown : vm0.findClass own = some m.cls)
    (w1 : (Jvm.Cond.methodLink own index y).before a0 Z = true) (w2 : (Jvm.Cond.static y).before a0 Z = true) (w3 : (Jvm.Cond.initialized y.cls).before a0 Z = true) (w4 : (Jvm.Cond.code y bytes maxL ret).before a0 Z = true) (hy : y.cls ≠ "java/lang/invoke/MethodHandle" ∧ y.cls ≠ "java/lang/invoke/VarHandle")
    {argsL rest : List Value} {rm : Room} {Q : Option Value → Heap → List Loc → Prop} (hM : own_MetH l Z EL y bytes maxL ret rm (argsL).toArray h Q) (hEL : EW Z a0 EL) (H : CHv Z EL vm0 h) {k0 : Nat} (hS : s.Since vm0 k0) (hk : k0 ≤ h.size) (eT : T.heap = h) {st : List Value} (hsize : Ls.size = c.maxLocals)
    (hlen : ∀ sig, parseMethodDescriptor y.desc = some sig → argsL.length = sig.parameters.length) (hstack : st = argsL.reverse ++ rest) (hd : decode c.code pc = .ok (.invokestatic index, 3)) {W : Nat} (hW : (rest.map fun v => v.category).sum ≤ W) (h4 : rm.frames + 1 ≤ R.frames ∧ W + (maxL + 11) + rm.locals ≤ R.locals ∧ cells + rm.cells ≤ R.cells ∧ slots + rm.slots ≤ R.slots)
    (k : ∀ (v : Option Value) (T' : State) (L : List Loc), Stand p l e R (s.setVm T'.vm) m args below meth c T' (locs ++ L) (cells + rm.cells) (slots + rm.slots) → s.Since T'.vm T'.heap.size → Z.Warmed39 (s.setVm T'.vm).vm → (s.setVm T'.vm).vm.findClass own = some m.cls → CHr Z EL vm0 h T'.vm T'.heap → Q v T'.heap L → own_Go p e below P T' (mkF m (pc + 3) Ls (v.toList ++ rest))) : own_Go p e below P T (mkF m pc Ls st) := by
  obtain ⟨v, _, ⟨T', L', k', n'⟩, -, X', hS', hg, ⟨Lc, hQ, l1, y1, z1, hC⟩, stp⟩ := callSS X hx (y := y) hown (mvT (s := s.setVm vm0) hZ w1) (mvT (s := s.setVm vm0) hZ w2) (mvT (s := s.setVm vm0) hZ w3) (mvT (s := s.setVm vm0) hZ w4) hy (backOfSH (W := W) (hM []) hZ w4 w3 h4.1 h4.2.1 hEL H) (g := mkF m pc Ls st) rfl hsize (argsL := argsL) (rest := rest) hlen hstack (by show 2 * 0 + _ ≤ _; omega) hd (fun _ _ => ⟨rfl, eT, h4.2.2.1, h4.2.2.2⟩)
  dsimp only [Pt.U, Pt.locs, Pt.cells, Pt.slots] at X' l1 y1 z1 stp hQ hS' hg hC
  subst l1 y1 z1
  exact own_go (fun _ q => stp.trans q) (k v T' Lc X' (foldS hS (by rw [eT]; exact hk) hS' hg) (State.Warmed39.trans (t := s.setVm vm0) hZ hS'.1) (by rw [show (s.setVm T'.vm).vm = T'.vm from rfl, hS'.1.alike.findClass]; exact hown) hC hQ)
theorem own_callNH (X : Stand p l e R (s.setVm vm0) m args below meth c T locs cells slots) (hx : p.tables.exec = Jvm.exec) (hZ : Z.Warmed39 vm0) {own : String} {index : Nat} {y : MethodName} {bytes : ByteArray} {maxL : Nat} (hown : vm0.findClass own = some m.cls)
    (w1 : (Jvm.Cond.methodLink own index y).before a0 Z = true) (w2 : (Jvm.Cond.instanceMethod y).before a0 Z = true) (w4 : (Jvm.Cond.code y bytes maxL none).before a0 Z = true) (w3 : (Jvm.Cond.initialized y.cls).before a0 Z = true) (hy : y.cls ≠ "java/lang/invoke/MethodHandle" ∧ y.cls ≠ "java/lang/invoke/VarHandle") (hn : y.name = "<init>")
    {argsL rest : List Value} {rm : Room} {Q : Option Value → Heap → List Loc → Prop} (hM : own_MetH l Z EL y bytes maxL none rm (.ref b :: argsL).toArray h Q) (hEL : EW Z a0 EL) (H : CHv Z EL vm0 h) {k0 : Nat} (hS : s.Since vm0 k0) (hk : k0 ≤ h.size) (eT : T.heap = h) {st : List Value} (hsize : Ls.size = c.maxLocals)
    (hlen : ∀ sig, parseMethodDescriptor y.desc = some sig → argsL.length = sig.parameters.length) (hstack : st = argsL.reverse ++ .ref b :: rest) (hd : decode c.code pc = .ok (.invokespecial index, 3)) {W : Nat} (hW : (rest.map fun v => v.category).sum ≤ W) (h4 : rm.frames + 1 ≤ R.frames ∧ W + (maxL + 11) + rm.locals ≤ R.locals ∧ cells + rm.cells ≤ R.cells ∧ slots + rm.slots ≤ R.slots)
    (k : ∀ (v : Option Value) (T' : State) (L : List Loc), Stand p l e R (s.setVm T'.vm) m args below meth c T' (locs ++ L) (cells + rm.cells) (slots + rm.slots) → s.Since T'.vm T'.heap.size → Z.Warmed39 (s.setVm T'.vm).vm → (s.setVm T'.vm).vm.findClass own = some m.cls → CHr Z EL vm0 h T'.vm T'.heap → Q v T'.heap L → own_Go p e below P T' (mkF m (pc + 3) Ls (v.toList ++ rest))) : own_Go p e below P T (mkF m pc Ls st) := by
  obtain ⟨v, _, ⟨T', L', k', n'⟩, -, X', hS', hg, ⟨Lc, hQ, l1, y1, z1, hC⟩, stp⟩ := X.specialBackS hx (y := y) hn hown (mvT (s := s.setVm vm0) hZ w1) (mvT (s := s.setVm vm0) hZ w2) (mvT (s := s.setVm vm0) hZ w4) hy (backOfSH (W := W) (hM []) hZ w4 w3 h4.1 h4.2.1 hEL H) (g := mkF m pc Ls st) rfl hsize (Steps.refl _) (a := b) (argsL := argsL) (rest := rest) hlen hstack (by show 2 * 0 + _ ≤ _; omega) hd (fun _ _ => ⟨rfl, eT, h4.2.2.1, h4.2.2.2⟩)
  dsimp only [Pt.U, Pt.locs, Pt.cells, Pt.slots] at X' l1 y1 z1 stp hQ hS' hg hC
  subst l1 y1 z1
  exact own_go (fun _ q => stp.trans q) (k v T' Lc X' (foldS hS (by rw [eT]; exact hk) hS' hg) (State.Warmed39.trans (t := s.setVm vm0) hZ hS'.1) (by rw [show (s.setVm T'.vm).vm = T'.vm from rfl, hS'.1.alike.findClass]; exact hown) hC hQ)
theorem own_callVH (X : Stand p l e R (s.setVm vm0) m args below meth c T locs cells slots) (hx : p.tables.exec = Jvm.exec) (hZ : Z.Warmed39 vm0) {own C : String} {index : Nat} {y z : MethodName} {bytes : ByteArray} {maxL : Nat} {ret : Option FieldType} (hown : vm0.findClass own = some m.cls)
    (w1 : (Jvm.Cond.methodLink own index y).before a0 Z = true) (w2 : (Jvm.Cond.declares y).before a0 Z = true) (nf : NotFace (s.setVm vm0) y) (w3 : (Jvm.Cond.selects C y z).before a0 Z = true) (w4 : (Jvm.Cond.instanceMethod z).before a0 Z = true) (w5 : (Jvm.Cond.code z bytes maxL ret).before a0 Z = true) (w6 : (Jvm.Cond.initialized z.cls).before a0 Z = true) (hy : y.cls ≠ "java/lang/invoke/MethodHandle" ∧ y.cls ≠ "java/lang/invoke/VarHandle")
    {argsL rest : List Value} {rm : Room} {Q : Option Value → Heap → List Loc → Prop} (hM : own_MetH l Z EL z bytes maxL ret rm (.ref b :: argsL).toArray h Q) (hEL : EW Z a0 EL) (H : CHv Z EL vm0 h) {k0 : Nat} (hS : s.Since vm0 k0) (hk : k0 ≤ h.size) (eT : T.heap = h) (E : Exa Z h b C) {st : List Value} (hsize : Ls.size = c.maxLocals)
    (hlen : ∀ sig, parseMethodDescriptor y.desc = some sig → argsL.length = sig.parameters.length) (hstack : st = argsL.reverse ++ .ref b :: rest) (hd : decode c.code pc = .ok (.invokevirtual index, 3)) {W : Nat} (hW : (rest.map fun v => v.category).sum ≤ W) (h4 : rm.frames + 1 ≤ R.frames ∧ W + (maxL + 11) + rm.locals ≤ R.locals ∧ cells + rm.cells ≤ R.cells ∧ slots + rm.slots ≤ R.slots)
    (k : ∀ (v : Option Value) (T' : State) (L : List Loc), Stand p l e R (s.setVm T'.vm) m args below meth c T' (locs ++ L) (cells + rm.cells) (slots + rm.slots) → s.Since T'.vm T'.heap.size → Z.Warmed39 (s.setVm T'.vm).vm → (s.setVm T'.vm).vm.findClass own = some m.cls → CHr Z EL vm0 h T'.vm T'.heap → Q v T'.heap L → own_Go p e below P T' (mkF m (pc + 3) Ls (v.toList ++ rest))) : own_Go p e below P T (mkF m pc Ls st) := by
  obtain ⟨cq, kq, qa, qb, qc⟩ := isOf (s := s.setVm vm0) hZ eT E
  obtain ⟨v, _, ⟨T', L', k', n'⟩, -, X', hS', hg, ⟨Lc, hQ, l1, y1, z1, hC⟩, stp⟩ := X.virtualBackS hx (y := y) (z := z) hown (mvT (s := s.setVm vm0) hZ w1) (mvT (s := s.setVm vm0) hZ w2) nf (mvT (s := s.setVm vm0) hZ w3) (mvT (s := s.setVm vm0) hZ w4) hy (backOfSH (W := W) (hM []) hZ w5 w6 h4.1 h4.2.1 hEL H) qa qc (g := mkF m pc Ls st) rfl hsize (Steps.refl _) (argsL := argsL) (rest := rest) hlen hstack (by show 2 * 0 + _ ≤ _; omega) hd (fun _ _ => ⟨rfl, eT, h4.2.2.1, h4.2.2.2⟩)
  dsimp only [Pt.U, Pt.locs, Pt.cells, Pt.slots] at X' l1 y1 z1 stp hQ hS' hg hC
  subst l1 y1 z1
  exact own_go (fun _ q => stp.trans q) (k v T' Lc X' (foldS hS (by rw [eT]; exact hk) hS' hg) (State.Warmed39.trans (t := s.setVm vm0) hZ hS'.1) (by rw [show (s.setVm T'.vm).vm = T'.vm from rfl, hS'.1.alike.findClass]; exact hown) hC hQ)
/-- a String under construction is no constant's -/
theorem own_safe0 {vm : Vm} {x : Addr} (hal : Z.vm.Alike vm) (E : Exa Z h x "java/lang/String") (F : Fld Z h x "java/lang/String" "value" "[B" .null) : Safe Z EL vm h x := fun B => by
  obtain ⟨p, hp, u, a, hb, q, hq, ⟨cS, ⟨⟨s1, s2, s3, ⟨cv, kv, iv, s4, s4'⟩, s5, s6, s7, s8, s9, s10, -⟩, hfS, hcS⟩, -, hB, -⟩, hy⟩ := B
  obtain ⟨cell, k, e1, e2, e3, -, -⟩ := E
  obtain ⟨cell', cf, k', i, f, f1, f2, -, -, -, -, f7⟩ := F
  cases e1.symm.trans f1
  rcases hy with rfl | rfl
  · have hs1 : h[q.sa]? = some q.sC := s1
    cases e1.symm.trans hs1
    obtain ⟨kv', z4⟩ := ff_back (U := Wst Z vm h) hal s4
    have z4' : Z.fieldFound? "java/lang/String" "value" "[B" = some (cv, kv', iv, q.fSV) := z4
    cases f2.symm.trans z4'
    have s8' : q.sC.slots[q.fSV.slot]? = some (.ref q.sd) := s8
    rw [f7] at s8'
    cases s8'
  · have hs1 : h[q.sd]? = some q.SA := s10
    cases e1.symm.trans hs1
    have hB' : vm.findClass "[B" = some q.SA.cls := hB
    rw [hal.findClass] at hB'
    obtain ⟨k1, q1, q2⟩ := Vm.findClass_spec hB'
    obtain ⟨k2, q3, q4⟩ := Vm.findClass_spec e2
    cases q1.symm.trans q3
    exact absurd (q2.symm.trans q4) (by decide)
end Own4
section Own6
variable {p : Program} {l : Launch} {e : Env} {R : Room} {s : State} {m : MethodId} {args : Array Value} {below : List Frame} {meth : Method} {c : Code} {T T' : State} {locs : List Loc} {cells slots : Nat} {Z : State} {a0 : Array Value} {h : Heap} {P : Outcome → State → Prop} {a b : Addr} {pc : Nat} {Ls : Array Slot} {rest : List Value} {k : ClassId} {ty : FieldType} {n j : Int32} {vs : List Value} {dv v : Value}
theorem own_instY (X : Stand p l e R s m args below meth c T locs cells slots) (hx : p.tables.exec = Jvm.exec) (hZ : Z.Warmed39 s.vm) {own K : String} {index : Nat} (hown : s.vm.findClass own = some m.cls) (w : (Jvm.Cond.classLink own index K).before a0 Z = true) (eT : T.heap = h) {a : Addr} (F : Ins Z h a K true) (hd : decode c.code pc = .ok (.instanceof index, 3))
    (kk : ∀ T', Stand p l e R s m args below meth c T' locs cells slots → T'.heap = h → own_Go p e below P T' (mkF m (pc + 3) Ls (.int 1 :: st))) : own_Go p e below P T (mkF m pc Ls (.ref a :: st)) := by
  obtain ⟨T', X', e', stp⟩ := instY X hx hZ hown w eT F (g := mkF m pc Ls (.ref a :: st)) rfl rfl hd
  exact own_go stp (kk T' X' e')
theorem own_castY (X : Stand p l e R s m args below meth c T locs cells slots) (hx : p.tables.exec = Jvm.exec) (hZ : Z.Warmed39 s.vm) {own K : String} {index : Nat} (hown : s.vm.findClass own = some m.cls) (w : (Jvm.Cond.classLink own index K).before a0 Z = true) (eT : T.heap = h) {a : Addr} (F : Ins Z h a K true) (hd : decode c.code pc = .ok (.checkcast index, 3))
    (kk : ∀ T', Stand p l e R s m args below meth c T' locs cells slots → T'.heap = h → own_Go p e below P T' (mkF m (pc + 3) Ls (.ref a :: st))) : own_Go p e below P T (mkF m pc Ls (.ref a :: st)) := by
  obtain ⟨T', X', e', stp⟩ := castY X hx hZ hown w eT F (g := mkF m pc Ls (.ref a :: st)) rfl rfl hd
  exact own_go stp (kk T' X' e')
end Own6
abbrev own_R (c : Int32) : Prop := ¬ c < 0 ∧ ¬ (65535 : Int32) < c
def own_lo (c : Int32) : Int32 := nar .byte ((c >>> ((0 : Int32) &&& 31)).toInt8.toInt32)
def own_hi (c : Int32) : Int32 := nar .byte ((c >>> ((8 : Int32) &&& 31)).toInt8.toInt32)
def own_gc (c : Int32) : Int32 := ((own_lo c &&& 255) <<< ((0 : Int32) &&& 31)) ||| ((own_hi c &&& 255) <<< ((8 : Int32) &&& 31))
theorem own_bm (y : Int) : y.bmod (2 ^ 8) % 256 = y % 256 := Int.bmod_emod (x := y) (m := 256)
theorem own_b8 (x : Int32) : (nar .byte x.toInt8.toInt32 &&& 255).toInt = x.toInt % 256 := by
  have h := Jvm.Kit.i32_mask (nar .byte x.toInt8.toInt32) 255 (k := 8) (by decide) (by decide)
  rw [h]
  show (x.toInt8.toInt32.toInt8.toInt32).toInt % 256 = _
  rw [Int8.toInt_toInt32, Int32.toInt_toInt8, Int8.toInt_toInt32, Int32.toInt_toInt8, own_bm, own_bm]
theorem own_or {a b : Int32} {m : Nat} (ha : 0 ≤ a.toInt ∧ a.toInt < 256) (hb : b.toInt = 256 * m) (hm : m < 256) : (a ||| b).toInt = a.toInt + b.toInt := by
  obtain ⟨n, hn, rfl⟩ : ∃ n : Nat, n < 256 ∧ a = Int32.ofNat n := ⟨a.toInt.toNat, by omega, Int32.toInt_inj.mp (by rw [Int32.toInt_ofNat_small (by show a.toInt.toNat < 2 ^ 31; omega)]; show a.toInt = (a.toInt.toNat : Int); omega)⟩
  obtain rfl : b = Int32.ofNat (m <<< 8) := Int32.toInt_inj.mp (by rw [hb, Int32.toInt_ofNat_small (by rw [Nat.shiftLeft_eq]; omega), Nat.shiftLeft_eq]; omega)
  have e : Int32.ofNat n ||| Int32.ofNat (m <<< 8) = Int32.ofNat (m <<< 8 + n) := by
    apply Int32.toBitVec_inj.mp
    apply BitVec.eq_of_toNat_eq
    rw [Int32.toBitVec_or, BitVec.toNat_or]
    show n % 2 ^ 32 ||| (m <<< 8) % 2 ^ 32 = (m <<< 8 + n) % 2 ^ 32
    rw [Nat.shiftLeft_add_eq_or_of_lt hn, Nat.or_comm, Nat.shiftLeft_eq, Nat.mod_eq_of_lt (by omega), Nat.mod_eq_of_lt (by omega)]
    have : m * 2 ^ 8 ||| n = m * 2 ^ 8 + n := by rw [← Nat.shiftLeft_eq, Nat.shiftLeft_add_eq_or_of_lt hn]
    rw [this, Nat.mod_eq_of_lt (by omega)]
  rw [e, Int32.toInt_ofNat_small (by rw [Nat.shiftLeft_eq]; omega), Int32.toInt_ofNat_small (by omega), Int32.toInt_ofNat_small (by rw [Nat.shiftLeft_eq]; omega), Nat.shiftLeft_eq]; omega
theorem own_get (c : Int32) (h : own_R c) : own_gc c = c := by
  have e0 : (0 : Int32).toInt = 0 := rfl
  have e1 : (65535 : Int32).toInt = 65535 := rfl
  obtain ⟨h1, h2⟩ := h
  rw [Int32.lt_iff_toInt_lt, e0] at h1
  rw [Int32.lt_iff_toInt_lt, e1] at h2
  have s0 := Jvm.Kit.i32_shr c ((0 : Int32) &&& 31) (k := 0) (by decide)
  have s8 := Jvm.Kit.i32_shr c ((8 : Int32) &&& 31) (k := 8) (by decide)
  have l0 : (own_lo c &&& 255).toInt = (c >>> ((0 : Int32) &&& 31)).toInt % 256 := own_b8 _
  have l8 : (own_hi c &&& 255).toInt = (c >>> ((8 : Int32) &&& 31)).toInt % 256 := own_b8 _
  rw [s0] at l0
  rw [s8] at l8
  have t0 := Jvm.Kit.i32_shl (own_lo c &&& 255) ((0 : Int32) &&& 31) (k := 0) (by decide) (by omega) (by omega)
  have t8 := Jvm.Kit.i32_shl (own_hi c &&& 255) ((8 : Int32) &&& 31) (k := 8) (by decide) (by omega) (by omega)
  apply Int32.toInt_inj.mp
  have q := own_or (a := (own_lo c &&& 255) <<< ((0 : Int32) &&& 31)) (b := (own_hi c &&& 255) <<< ((8 : Int32) &&& 31)) (m := (c.toInt / 256).toNat) (by omega) (by omega) (by omega)
  show ((own_lo c &&& 255) <<< ((0 : Int32) &&& 31) ||| (own_hi c &&& 255) <<< ((8 : Int32) &&& 31)).toInt = _
  rw [q]; omega
theorem own_c16 (x : Int32) : own_R x.toUInt32.toUInt16.toUInt32.toInt32 := by
  have q := c_i2c x
  have e0 : (0 : Int32).toInt = 0 := rfl
  have e1 : (65535 : Int32).toInt = 65535 := rfl
  refine ⟨?_, ?_⟩ <;> rw [Int32.lt_iff_toInt_lt] <;> omega
theorem own_ic16 (c : Int32) (h : own_R c) : c.toUInt32.toUInt16.toUInt32.toInt32 = c := by
  have e0 : (0 : Int32).toInt = 0 := rfl
  have e1 : (65535 : Int32).toInt = 65535 := rfl
  obtain ⟨h1, h2⟩ := h
  rw [Int32.lt_iff_toInt_lt] at h1 h2
  exact char_back c (by rw [Int32.le_iff_toInt_le]; omega) (by rw [Int32.le_iff_toInt_le]; omega)
theorem own_staI {C n d : String} {Z : State} {args : Array Value} {k : Int32} (hi : (Jvm.Cond.initializedFor C n d).before args Z = true) (hx : (Jvm.Cond.eq (.static C n d) (.int k)).value args Z none Z [] = some true) : Sta Z Z.heap C n d (.int k) := by
  obtain ⟨x, y, h1, h2, k1, k2⟩ := cmp_v (Or.inl hx)
  have h2' : y = .int k := (Option.some.inj (h2.symm.trans (Term.int_eval k)))
  subst h2'
  obtain ⟨z, rfl⟩ : ∃ z, x = .int z := k2
  have hz : z = k := by simpa [Jvm.Cond.value, h1, h2] using hx
  subst hz
  exact Sta.start h1 (Or.inl hi)
section Own12
open Jvm.Free.SB Jvm.Free.SBG
variable {p : Program} {l : Launch} {e : Env} {R : Room} {s : State} {vm0 : Vm} {m : MethodId} {args : Array Value} {below : List Frame} {meth : Method} {c : Code} {T : State} {locs : List Loc} {cells slots : Nat} {Z : State} {a0 : Array Value} {h : Heap} {P : Outcome → State → Prop} {EL : List (String × Nat)}
/-- an empty String, read off its booking -/
theorem own_slRead {vm : Vm} {a : Addr} (hal : Z.vm.Alike vm) (F : Jvm.SlOf (Wst Z vm h) a #[]) : ∃ (b : Addr) (k : ClassId), Exa Z h a "java/lang/String" ∧ Fld Z h a "java/lang/String" "coder" "B" (.int 0) ∧ Fld Z h a "java/lang/String" "value" "[B" (.ref b) ∧ Arv Z h b k .byte 0 [] (.int 0) := by
  obtain ⟨q, cS, rfl, ⟨⟨t1, t2, t3, ⟨cv, kv, iv, tv, av⟩, ⟨cc, kc, ic, tc, ac⟩, nv, nc, sv, sc, td, ⟨ta1, ka, ta2, comp, ta3⟩, tu, -, -, -, -⟩, hf, hcl⟩, ⟨kS, e1, e2, e3⟩, hB, hbytes⟩ := F
  obtain ⟨kv', zv⟩ := ff_back (U := Wst Z vm h) hal tv
  obtain ⟨kc', zc⟩ := ff_back (U := Wst Z vm h) hal tc
  have f1 : Z.vm.findClass "java/lang/String" = some q.sC.cls := by rw [← hal.findClass, hcl]; exact hf
  obtain ⟨kz, z1, -⟩ := Vm.findClass_spec f1
  obtain ⟨kz', z2, z3⟩ := hal.2.2 _ _ z1
  have e4 : kz' = kS := Option.some.inj (z2.symm.trans (by rw [hcl]; exact e1))
  have f2 : Z.vm.findClass "[B" = some q.SA.cls := by rw [← hal.findClass]; exact hB
  obtain ⟨kb, b1, -⟩ := Vm.findClass_spec f2
  obtain ⟨kb', b2, b3⟩ := hal.2.2 _ _ b1
  have e5 : kb' = ka := Option.some.inj (b2.symm.trans ta2)
  have g1 : Z.vm.assignable q.sC.cls cv = true := by rw [← hal.assignable]; exact av
  have g2 : Z.vm.assignable q.sC.cls cc = true := by rw [← hal.assignable]; exact ac
  have hz : q.SA.slots.size = 0 := by rw [hbytes, SBG.stringBytes_lat (by simp)]; simp
  refine ⟨q.sd, q.SA.cls, ⟨q.sC, kz, t1, f1, z1, t3, fun _ => ?_⟩, ⟨q.sC, cc, kc', ic, q.fSC, t1, zc, nc, t2, t3, g2, sc⟩, ⟨q.sC, cv, kv', iv, q.fSV, t1, zv, nv, t2, t3, g1, sv⟩, q.SA, ⟨td, ⟨ta1, kb, b1, comp, ?_⟩, tu⟩, rfl, hz, by decide, fun i hi => ?_, fun i hi => ?_⟩
  · have q3 := e3
    rw [← e4, z3] at q3
    exact q3
  · have q3 := ta3
    rw [← e5, b3] at q3
    exact q3
  · rw [hz] at hi; exact absurd hi (Nat.not_lt_zero _)
  · rw [hz] at hi; exact absurd hi (Nat.not_lt_zero _)
/-- the tables with one text more at the intern table's end -/
def own_more (vm : Vm) (u : Array UInt16) (a : Addr) : Vm := { vm with interned := vm.interned.push (u, a) }
theorem own_moreF {vm : Vm} {u : Array UInt16} {a : Addr} (f : vm.interned.find? (fun q => q.1 == u) = none) : (own_more vm u a).interned.find? (fun q => q.1 == u) = some (u, a) := by
  show (vm.interned.push (u, a)).find? _ = _
  simp [Array.find?_push, f]
/-- 'ldc_w' of a String constant: its entry is resolved behind it; a text that is new in the intern table lies in two new cells that say it -/
theorem own_wStep (X : Stand p l e R s m args below meth c T locs cells slots) (hx : p.tables.exec = Jvm.exec) {own text : String} {index : Nat} (hown : s.vm.findClass own = some m.cls) (hl : (Jvm.Cond.stringLink own index text).before args s = true) (hS : ∀ a ∈ Bundle.stringAtoms, a.before args s = true)
    {g : JFrame} (hg : g.method = m) (hd : decode c.code g.pc = .ok (.ldc_w index, 3)) {n : Nat} (hn : 4 * text.toList.length ≤ n) (hbig : n ≤ 536870912) (hc : cells + 2 ≤ R.cells) (hs : slots + (n + 4) ≤ R.slots) :
    ∃ (a : Addr) (U : State), Stand p l e R (s.setVm U.vm) m args below meth c U locs (cells + 2) (slots + (n + 4)) ∧ s.Since U.vm U.heap.size ∧ T.Warmed39 U.vm ∧ (∀ b, b < T.heap.size → U.heap[b]? = T.heap[b]?) ∧ (∃ k, U.vm.classes[m.cls]? = some k ∧ k.resolved[index]? = some (some (.string a))) ∧
      (U.vm.interned = T.vm.interned ∨ ∃ u : Array UInt16, U.vm.interned = T.vm.interned.push (u, a) ∧ T.vm.interned.find? (fun q => q.1 == u) = none ∧ (u.all (· < 256) = true → SlIn 0 T.heap.size U a u)) ∧
      ∀ t, Steps p.tables e below (U.setTop { g with pc := g.pc + 3, stack := .ref a :: g.stack }) t → Steps p.tables e below (T.setTop g) t := by
  obtain ⟨k, cf, i, u, k1, k2, k3, k4, k5, k6, k7⟩ := Jvm.Cond.stringLink_spec hown hl
  obtain ⟨kT, t1, t2⟩ := X.warmed.alike.2.2 _ _ k1
  have t3 : kT.cf = some cf := by rw [t2]; exact k2
  subst hg
  by_cases o : ∃ a, kT.resolved[index]? = some (some (.string a))
  · obtain ⟨a, o⟩ := o
    refine ⟨a, T, (X.mono (Nat.le_add_right _ _) (Nat.le_add_right _ _)).retabled X.warmed.wide, X.warmed.since _, State.Warmed39.refl T, fun _ _ => rfl, ⟨kT, t1, o⟩, Or.inl rfl, fun t q => ?_⟩
    jvm_step X.here [hx, hd, ldc_w.wp_string (e := e) (s := T) (f := g) X.here.top t1 t3 k3 o]
    exact q
  have oo : kT.resolved[index]? = some none ∧ k.resolved[index]? = some none := by
    rcases X.warmed.entry k1 t1 index with z | ⟨-, r, -, z⟩
    · rcases k7 with y | ⟨a, y⟩
      · exact ⟨z.trans y, y⟩
      · exact absurd ⟨a, z.trans y⟩ o
    · cases r <;> simp [State.rightAt, k1, k2, k5] at z
  have b1 : ∀ {k' : Class}, k'.cf = some cf → k'.cf.bind (namesOf? ·.constantPool index) = some (.string text) ∧ k'.cf.bind (·.constantPool[index]?) = some (.string i) ∧ k'.cf.bind (·.constantPool.utf8? i) = some u := fun q => by
    rw [q]; exact ⟨k5, k3, by simp [ConstantPool.utf8?, k4]⟩
  -- the tables behind: those of before (vm2: or with one text more), the entry noted
  have book : ∀ {vm2 : Vm} {a : Addr}, vm2.classes = T.vm.classes → s.Warmed39 vm2 → T.Warmed39 vm2 → vm2.interned.find? (fun q => q.1 == u) = some (u, a) →
      s.Warmed39 (vm2.noted g.method.cls index (.string a)) ∧ T.Warmed39 (vm2.noted g.method.cls index (.string a)) ∧ ∃ k', (vm2.noted g.method.cls index (.string a)).classes[g.method.cls]? = some k' ∧ k'.resolved[index]? = some (some (.string a)) := fun ec w1 w2 f =>
    ⟨w1.notedString k1 (Or.inl oo.2) (b1 k2).1 (b1 k2).2.1 (b1 k2).2.2 f, w2.notedString t1 (Or.inl oo.1) (b1 t3).1 (b1 t3).2.1 (b1 t3).2.2 f, _, Vm.classes_note_self index _ (by rw [ec]; exact t1), Class.resolved_note_self _ oo.1⟩
  cases f : T.vm.interned.find? (fun q => q.1 == u) with
  | some pr =>
    obtain ⟨u', a⟩ := pr
    obtain rfl : u' = u := by simpa using Array.find?_some f
    obtain ⟨w1, w2, w3⟩ := book rfl X.warmed.wide (State.Warmed39.refl T) f
    refine ⟨a, T.setVm (T.vm.noted g.method.cls index (.string a)), (X.mono (Nat.le_add_right _ _) (Nat.le_add_right _ _)).retabled w1, ⟨w1, State.Booked.step (X.warmed.no_new_pair _) X.same.2.1 ⟨Nat.le_refl _, Or.inl rfl⟩⟩, w2, fun _ _ => rfl, w3, Or.inl rfl, fun t q => ?_⟩
    jvm_step X.here [hx, hd, ldc_w.wp_string_found (e := e) (s := T) (f := g) X.here.top t1 t3 k3 k4 oo.1 f]
    exact q
  | none =>
    obtain ⟨Q, LQ, q4, fitv, fitc⟩ := StringT.of_atoms (args := args) hS
    obtain ⟨kS, kB, LT, ty⟩ := LQ.warmer X.warmed.alike
    have fs : T.fitsSlot = s.fitsSlot := State.fitsSlot_setVm (s := s) X.warmed.alike
    have size : (stringBytes u).size ≤ n := Nat.le_trans (text_bytes_le k6) hn
    obtain ⟨w1, w2, w3⟩ := book (vm2 := own_more T.vm u (T.heap.size + 1)) rfl (X.warmed.wide.interns u _) ((State.Warmed39.refl T).interns u _) (own_moreF f)
    have X2 := (X.pushed (bytesOf Q.cB u)).pushed (stringAt Q.cS kS Q.fv Q.fc u T.heap.size)
    have z1 : (bytesOf Q.cB u).slots.size = (stringBytes u).size := by rw [(Cell.writeAll_facts _ _).2.2]; simp [bytes0]
    have z2 : (stringAt Q.cS kS Q.fv Q.fc u T.heap.size).slots.size = 4 := by simp [string0, Cell.setSlot, ty, q4]
    have hp : ∀ b, ((T.pushCell (bytesOf Q.cB u)).pushCell (stringAt Q.cS kS Q.fv Q.fc u T.heap.size)).heap[b]? = if b = T.heap.size + 1 then some (stringAt Q.cS kS Q.fv Q.fc u T.heap.size) else if b = T.heap.size then some (bytesOf Q.cB u) else T.heap[b]? := fun b => by
      show ((T.heap.push _).push _)[b]? = _
      simp only [Array.getElem?_push, Array.size_push]
    have hz : ((T.pushCell (bytesOf Q.cB u)).pushCell (stringAt Q.cS kS Q.fv Q.fc u T.heap.size)).heap.size = T.heap.size + 2 := by
      show ((T.heap.push _).push _).size = _
      simp only [Array.size_push]
    refine ⟨T.heap.size + 1, ((T.pushCell (bytesOf Q.cB u)).pushCell (stringAt Q.cS kS Q.fv Q.fc u T.heap.size)).setVm ((own_more T.vm u (T.heap.size + 1)).noted g.method.cls index (.string (T.heap.size + 1))), (X2.mono (by omega) (by rw [z1, z2]; omega)).retabled w1, ⟨w1, ?_⟩, w2, fun b hb => ?_, w3, Or.inr ⟨u, rfl, f, fun lat => ?_⟩, fun t q => ?_⟩
    · refine State.Booked.step (T := T) (X.warmed.no_new_pair _) X.same.2.1 ⟨?_, Or.inr ⟨u, _, rfl, Nat.le_succ _, ?_⟩⟩
      · show _ ≤ ((T.pushCell _).pushCell _).heap.size
        omega
      · show _ < ((T.pushCell _).pushCell _).heap.size
        omega
    · show ((T.pushCell _).pushCell _).heap[b]? = _
      rw [hp, if_neg (by omega), if_neg (by omega)]
    · refine made_sl hS LQ q4 ty w1.alike (n := T.heap.size) ?_ ?_ lat (by omega) 0
      · show ((T.pushCell _).pushCell _).heap[T.heap.size]? = _
        rw [hp, if_neg (by omega), if_pos rfl]
      · show ((T.pushCell _).pushCell _).heap[T.heap.size + 1]? = _
        rw [hp, if_pos rfl]
    · rw [← withString_eq] at q
      refine Steps.instr (c := _) (by simpa using X.here) ?_
      simp [jvm, wpRun, exec, X.here.top, hx, hd]
      refine ldc_w.wp_string_new (e := e) (s := T) (f := g) X.here.top t1 t3 k3 k4 oo.1 f LT.found LT.cls LT.initialized LT.ordinary LT.foundB LT.clsB LT.kindB LT.value LT.coder ?_ ?_ (X.cellsAbove hc) ?_ (stringBytes_fit LT.clsB LT.kindB u) LT.valueSlot LT.coderSlot (by rw [fs]; exact fitv _) (by rw [fs]; exact fitc _) (fun d' acts' => ?_)
      · rw [Launch.admits_arrayLengthLimit X.admits]; omega
      · rw [Launch.admits_maxHeapBytes X.admits]; simp only [componentBytes]; omega
      · have sa := X.slotsAbove hs
        show T.slotsUsed + (stringBytes u).size + kS.instanceTypes.size ≤ _
        rw [ty, q4]; omega
      · intro acts''
        have top : (withString T Q.cB Q.cS kS Q.fv Q.fc u).topJava?.isSome := by simpa [withString] using X.here.top
        have top' : ((withString T Q.cB Q.cS kS Q.fv Q.fc u).setVm ((own_more T.vm u (T.heap.size + 1)).noted g.method.cls index (.string (T.heap.size + 1)))).topJava?.isSome := by simpa using top
        have q' := q
        simp only [own_more] at q' top'
        simp [jvm, afterInstr, top, top']
        rw [State.modifyTopJava_setTop]
        exact q'
/-- 'ldc_w' of the constant "" that is read: the ldc_w of own_ldcH -/
theorem own_ldcW (X : Stand p l e R (s.setVm vm0) m args below meth c T locs cells slots) (hx : p.tables.exec = Jvm.exec) (hZ : Z.Warmed39 vm0) {own : String} {index pc : Nat} {Ls : Array Slot} {st : List Value} (hown : vm0.findClass own = some m.cls) (w : (Jvm.Cond.stringLink own index "").before a0 Z = true) (wS : ∀ a ∈ Bundle.stringAtoms, a.before a0 Z = true)
    (eT : T.heap = h) {k0 : Nat} (hS : s.Since vm0 k0) (hk : k0 ≤ h.size) (hEL : EW Z a0 EL) (hmem : (own, index) ∈ EL) (H : CHv Z EL vm0 h) (hd : decode c.code pc = .ok (.ldc_w index, 3)) (hc : cells + 2 ≤ R.cells) (hl : slots + (0 + 4) ≤ R.slots)
    (kk : ∀ (a : Addr) (T' : State) (h' : Heap) (k1 : Nat) (b : Addr) (k : ClassId), Stand p l e R (s.setVm T'.vm) m args below meth c T' locs (cells + 2) (slots + (0 + 4)) → T'.heap = h' → Ext h h' → s.Since T'.vm k1 → k1 ≤ h'.size → Z.Warmed39 (s.setVm T'.vm).vm → (s.setVm T'.vm).vm.findClass own = some m.cls →
      Exa Z h' a "java/lang/String" → Fld Z h' a "java/lang/String" "coder" "B" (.int 0) → Fld Z h' a "java/lang/String" "value" "[B" (.ref b) → Arv Z h' b k .byte 0 [] (.int 0) → CHr Z EL vm0 h T'.vm h' → own_Go p e below P T' (mkF m (pc + 3) Ls (.ref a :: st))) :
    own_Go p e below P T (mkF m pc Ls st) := by
  obtain ⟨a, U, X', hS', hTW, hb, ⟨kU, hkU, hrU⟩, hint, stp⟩ := own_wStep X hx hown (mvS hZ w) (fun d hd => by
    have q := wS d hd
    simp only [Bundle.stringAtoms, List.mem_cons, List.not_mem_nil, or_false] at hd
    rcases hd with rfl | rfl | rfl | rfl | rfl | rfl | rfl <;> first | exact mvA (s := s.setVm vm0) hZ q | exact mv (s := s.setVm vm0) hZ q) (g := mkF m pc Ls st) rfl hd (n := 0) (by decide) (by decide) hc hl
  subst eT
  have E : Ext T.heap U.heap := ext_of hb
  have hW : Z.Warmed39 U.vm := State.Warmed39.trans (t := s.setVm vm0) hZ hS'.1
  have hf : U.vm.findClass own = some m.cls := by rw [hS'.1.alike.findClass]; exact hown
  have A := CHv.at X hZ hEL H
  have B := CHv.later (vm := T.vm) (vm1 := U.vm) (h := T.heap) (h' := U.heap) (wtrans (s := s.setVm vm0) hZ X.warmed) (show (Wst Z T.vm T.heap).Warmed39 U.vm from hTW) hEL E
    (hint.imp id fun ⟨u, e1, e2, e3⟩ => ⟨u, a, e1, e2, fun lat => by
      obtain ⟨q, cS, hq, r1, r2, r3, r4, r5⟩ := e3 lat
      have F : SlB U q u := ⟨cS, r1, r2, r3, r4⟩
      exact ⟨q, hq, F.carry (V := Wst Z U.vm U.heap) (Vm.Alike.refl _) F.ha F.hd, r5.resolve_left fun z => Nat.not_lt_zero _ z.1⟩⟩) A.1
  have C := A.trans ⟨B.1, E.1, B.2⟩
  obtain ⟨k1, cf, i, u, g1, g2, g3, g4, -, g6, -⟩ := Jvm.Cond.stringLink_spec (s := Wst Z U.vm U.heap) hf (mvS (s := { Z with heap := U.heap }) (args := a0) hW w)
  have eu : u = #[] := Array.toList_inj.mp (Jvm.ClassFile.units_of_text g6 (by intro c hc; cases hc))
  have hk1 : k1 = kU := Option.some.inj (g1.symm.trans hkU)
  subst hk1 eu
  obtain ⟨b, k, q1, q2, q3, q4⟩ := own_slRead hW.alike (C.1 _ hmem #[] a ⟨m.cls, k1, cf, i, hf, g1, g2, g3, g4, Or.inl hrU⟩)
  exact own_go stp (kk a U _ _ b k X' rfl E (hS.trans hS' (Nat.le_trans hk E.1)) (Nat.le_refl _) hW hf q1 q2 q3 q4 C)
end Own12
theorem own_bytes : ∀ n : Fin 256, ((Int32.ofNat n.val).toInt8.toInt32 &&& 255) = Int32.ofNat n.val ∧ (Int32.ofNat n.val).toUInt32.toUInt16.toUInt32.toInt32 = Int32.ofNat n.val := by decide +kernel
theorem own_nat (c : Int32) (h : ¬ c < 0 ∧ ¬ (255 : Int32) < c) : ∃ n : Fin 256, c = Int32.ofNat n.val := by
  have e0 : (0 : Int32).toInt = 0 := rfl
  have e1 : (255 : Int32).toInt = 255 := rfl
  obtain ⟨h1, h2⟩ := h
  rw [Int32.lt_iff_toInt_lt, e0] at h1
  rw [Int32.lt_iff_toInt_lt, e1] at h2
  refine ⟨⟨c.toInt.toNat, by omega⟩, Int32.toInt_inj.mp ?_⟩
  rw [Int32.toInt_ofNat_small (by show c.toInt.toNat < 2 ^ 31; omega)]
  show c.toInt = (c.toInt.toNat : Int); omega
theorem own_rt (c : Int32) (h : ¬ c < 0 ∧ ¬ (255 : Int32) < c) : (c.toInt8.toInt32 &&& 255) = c := by obtain ⟨n, rfl⟩ := own_nat c h; exact (own_bytes n).1
theorem own_ic (c : Int32) (h : ¬ c < 0 ∧ ¬ (255 : Int32) < c) : c.toUInt32.toUInt16.toUInt32.toInt32 = c := by obtain ⟨n, rfl⟩ := own_nat c h; exact (own_bytes n).2
theorem own_nc (c : Int32) (h : ¬ c < 0 ∧ ¬ (255 : Int32) < c) : narrow .char (.int c) = .int c := by
  have q := own_ic c h
  show Value.int c.toUInt32.toUInt16.toUInt32.toInt32 = _
  rw [q]
theorem own_and255 (x : Int32) : 0 ≤ (x &&& 255).toInt ∧ (x &&& 255).toInt ≤ 255 := by
  have h : (x &&& 255).toInt = x.toInt % 2 ^ 8 := Jvm.Kit.i32_mask x 255 (k := 8) (by decide) (by decide)
  rw [h]; omega
theorem own_ch (x : Int32) : ¬ (x &&& 255) < 0 ∧ ¬ (255 : Int32) < (x &&& 255) := by
  have h := own_and255 x
  have e0 : (0 : Int32).toInt = 0 := rfl
  have e1 : (255 : Int32).toInt = 255 := rfl
  rw [Int32.lt_iff_toInt_lt, Int32.lt_iff_toInt_lt, e0, e1]; omega
def own_EL : List (String × Nat) := [("java/lang/String", 7), ("java/lang/StringUTF16", 295)]
theorem own_EW {Z : State} {a0 : Array Value} (hw : ∀ d ∈ tables_1, d.before a0 Z = true) : EW Z a0 own_EL := (EW.cons (own_hw hw 76 rfl) (by decide) (EW.cons (own_hw hw 176 rfl) (by decide) EW.nil))
def own_Gs (Z : State) (z : Int32) (sf : Value) : Prop := Sta Z Z.heap "java/lang/String" "COMPACT_STRINGS" "Z" (.int z) ∧ ¬ z = 0 ∧ Sta Z Z.heap "jdk/internal/util/Preconditions" "SIOOBE_FORMATTER" "Ljava/util/function/BiFunction;" sf ∧ sf.isRef = true
abbrev own_E (Z : State) (h : Heap) (t : Addr) : Prop := Exa Z h t "java/lang/String"
abbrev own_V (Z : State) (h : Heap) (t b : Addr) : Prop := Fld Z h t "java/lang/String" "value" "[B" (.ref b)
abbrev own_C (Z : State) (h : Heap) (t : Addr) : Prop := Fld Z h t "java/lang/String" "coder" "B" (.int 0)
theorem own_nc16 (c : Int32) (h : own_R c) : narrow .char (.int c) = .int c := by
  have q := own_ic16 c h
  show Value.int c.toUInt32.toUInt16.toUInt32.toInt32 = _
  rw [q]
theorem own_bb (c : Int32) : nar .byte (c.toInt8.toInt32) = c.toInt8.toInt32 := Int32.toInt_inj.mp (by
  have a := c_i2b c
  have b := c_i2b (c.toInt8.toInt32)
  show (c.toInt8.toInt32).toInt8.toInt32.toInt = _
  omega)
theorem own_mk {c : Int32} (q : c = 65279) : (255 : Int32) < c := by rw [q]; decide
theorem own_lt {c : Int32} (h : own_R c) (q : ¬ (255 : Int32) < c) : ¬ c < 0 ∧ ¬ (255 : Int32) < c := ⟨h.1, q⟩
def own_Us (Z : State) : Prop := Sta Z Z.heap "java/lang/StringUTF16" "$assertionsDisabled" "Z" (.int 1) ∧ Sta Z Z.heap "java/lang/StringUTF16" "HI_BYTE_SHIFT" "I" (.int 0) ∧ Sta Z Z.heap "java/lang/StringUTF16" "LO_BYTE_SHIFT" "I" (.int 8)
def own_cdf (n NN : Int32) : Int32 := ((((n - NN).toUInt32 >>> ((31 : Int32) &&& 31).toUInt32).toInt32).toInt8.toInt32)
def own_LN (NN : Int32) (vs : List Value) : Prop := (NN = 0 ∧ vs = []) ∨ (∃ y0 : Int32, NN = 1 ∧ vs = [.int y0]) ∨ (∃ y0 y1 : Int32, NN = 2 ∧ vs = [.int y0, .int y1]) ∨ (∃ y0 y1 y2 : Int32, NN = 3 ∧ vs = [.int y0, .int y1, .int y2]) ∨ (∃ y0 y1 y2 y3 : Int32, NN = 4 ∧ vs = [.int y0, .int y1, .int y2, .int y3]) ∨ (∃ y0 y1 y2 y3 y4 y5 : Int32, NN = 6 ∧ vs = [.int y0, .int y1, .int y2, .int y3, .int y4, .int y5])
def own_K1 (c0 NN : Int32) (vs : List Value) (cd : Int32) : Prop := (¬ (255 : Int32) < c0 ∧ NN = 1 ∧ vs = [(.int c0.toInt8.toInt32)] ∧ cd = 0) ∨ (((255 : Int32) < c0) ∧ NN = 2 ∧ vs = [(.int (own_lo c0)), (.int (own_hi c0))] ∧ cd = 1)
theorem own_kx1 (c0 : Int32) : ∃ NN vs cd, own_K1 c0 NN vs cd := by
  by_cases q : (255 : Int32) < c0
  · exact ⟨_, _, _, Or.inr ⟨q, rfl, rfl, rfl⟩⟩
  · exact ⟨_, _, _, Or.inl ⟨q, rfl, rfl, rfl⟩⟩
theorem own_kc1 {c0 NN : Int32} {vs : List Value} {cd : Int32} (hK : own_K1 c0 NN vs cd) : own_cdf 1 NN = cd ∧ narrow .byte (.int cd) = .int cd ∧ fits .byte (.int cd) = true := by
  rcases hK with ⟨-, rfl, rfl, rfl⟩ | ⟨-, rfl, rfl, rfl⟩
  · exact ⟨by decide, rfl, by decide⟩
  · exact ⟨by decide, rfl, by decide⟩
theorem own_kl1 {c0 NN : Int32} {vs : List Value} {cd : Int32} (hK : own_K1 c0 NN vs cd) : own_LN NN vs := by
  rcases hK with ⟨-, rfl, rfl, rfl⟩ | ⟨-, rfl, rfl, rfl⟩
  · exact Or.inr (Or.inl ⟨_, rfl, rfl⟩)
  · exact Or.inr (Or.inr (Or.inl ⟨_, _, rfl, rfl⟩))
def own_K2 (c0 c1 NN : Int32) (vs : List Value) (cd : Int32) : Prop := (¬ (255 : Int32) < c0 ∧ ¬ (255 : Int32) < c1 ∧ NN = 2 ∧ vs = [(.int c0.toInt8.toInt32), (.int c1.toInt8.toInt32)] ∧ cd = 0) ∨ (((255 : Int32) < c0 ∨ (255 : Int32) < c1) ∧ NN = 4 ∧ vs = [(.int (own_lo c0)), (.int (own_hi c0)), (.int (own_lo c1)), (.int (own_hi c1))] ∧ cd = 1)
theorem own_kx2 (c0 c1 : Int32) : ∃ NN vs cd, own_K2 c0 c1 NN vs cd := by
  by_cases q : (255 : Int32) < c0 ∨ (255 : Int32) < c1
  · exact ⟨_, _, _, Or.inr ⟨q, rfl, rfl, rfl⟩⟩
  · exact ⟨_, _, _, Or.inl ⟨(not_or.mp q).1, (not_or.mp q).2, rfl, rfl, rfl⟩⟩
theorem own_kc2 {c0 c1 NN : Int32} {vs : List Value} {cd : Int32} (hK : own_K2 c0 c1 NN vs cd) : own_cdf 2 NN = cd ∧ narrow .byte (.int cd) = .int cd ∧ fits .byte (.int cd) = true := by
  rcases hK with ⟨-, -, rfl, rfl, rfl⟩ | ⟨-, rfl, rfl, rfl⟩
  · exact ⟨by decide, rfl, by decide⟩
  · exact ⟨by decide, rfl, by decide⟩
theorem own_kl2 {c0 c1 NN : Int32} {vs : List Value} {cd : Int32} (hK : own_K2 c0 c1 NN vs cd) : own_LN NN vs := by
  rcases hK with ⟨-, -, rfl, rfl, rfl⟩ | ⟨-, rfl, rfl, rfl⟩
  · exact Or.inr (Or.inr (Or.inl ⟨_, _, rfl, rfl⟩))
  · exact Or.inr (Or.inr (Or.inr (Or.inr (Or.inl ⟨_, _, _, _, rfl, rfl⟩))))
def own_K3 (c0 c1 c2 NN : Int32) (vs : List Value) (cd : Int32) : Prop := (¬ (255 : Int32) < c0 ∧ ¬ (255 : Int32) < c1 ∧ ¬ (255 : Int32) < c2 ∧ NN = 3 ∧ vs = [(.int c0.toInt8.toInt32), (.int c1.toInt8.toInt32), (.int c2.toInt8.toInt32)] ∧ cd = 0) ∨ (((255 : Int32) < c0 ∨ (255 : Int32) < c1 ∨ (255 : Int32) < c2) ∧ NN = 6 ∧ vs = [(.int (own_lo c0)), (.int (own_hi c0)), (.int (own_lo c1)), (.int (own_hi c1)), (.int (own_lo c2)), (.int (own_hi c2))] ∧ cd = 1)
theorem own_kx3 (c0 c1 c2 : Int32) : ∃ NN vs cd, own_K3 c0 c1 c2 NN vs cd := by
  by_cases q : (255 : Int32) < c0 ∨ (255 : Int32) < c1 ∨ (255 : Int32) < c2
  · exact ⟨_, _, _, Or.inr ⟨q, rfl, rfl, rfl⟩⟩
  · exact ⟨_, _, _, Or.inl ⟨(not_or.mp q).1, (not_or.mp (not_or.mp q).2).1, (not_or.mp (not_or.mp q).2).2, rfl, rfl, rfl⟩⟩
theorem own_kc3 {c0 c1 c2 NN : Int32} {vs : List Value} {cd : Int32} (hK : own_K3 c0 c1 c2 NN vs cd) : own_cdf 3 NN = cd ∧ narrow .byte (.int cd) = .int cd ∧ fits .byte (.int cd) = true := by
  rcases hK with ⟨-, -, -, rfl, rfl, rfl⟩ | ⟨-, rfl, rfl, rfl⟩
  · exact ⟨by decide, rfl, by decide⟩
  · exact ⟨by decide, rfl, by decide⟩
theorem own_kl3 {c0 c1 c2 NN : Int32} {vs : List Value} {cd : Int32} (hK : own_K3 c0 c1 c2 NN vs cd) : own_LN NN vs := by
  rcases hK with ⟨-, -, -, rfl, rfl, rfl⟩ | ⟨-, rfl, rfl, rfl⟩
  · exact Or.inr (Or.inr (Or.inr (Or.inl ⟨_, _, _, rfl, rfl⟩)))
  · exact Or.inr (Or.inr (Or.inr (Or.inr (Or.inr ⟨_, _, _, _, _, _, rfl, rfl⟩))))
def own_Qp_0_1 (Z : State) (b : Addr) (kb : ClassId) (dv : Value) (ch : Int32) (v0 v1 : Value) (h0 : Heap) (n0 : Nat) (v : Option Value) (h : Heap) (L : List Loc) : Prop := v = none ∧ Fr n0 L ∧ Keep h0 h [b] ∧ Arv Z h b kb .byte 2 [(.int (own_lo ch)), (.int (own_hi ch))] dv
theorem d20_0 : decode jdk_52_method_4_code 0 = .ok (.getstatic 44, 3) := by decide +kernel
theorem d20_3 : decode jdk_52_method_4_code 3 = .ok (.ifCond .ne 25, 3) := by decide +kernel
theorem d20_28 : decode jdk_52_method_4_code 28 = .ok (.iload_n 1, 1) := by decide +kernel
theorem d20_29 : decode jdk_52_method_4_code 29 = .ok (.iconst 1, 1) := by decide +kernel
theorem d20_30 : decode jdk_52_method_4_code 30 = .ok (.ishl, 1) := by decide +kernel
theorem d20_31 : decode jdk_52_method_4_code 31 = .ok (.istore_n 1, 1) := by decide +kernel
theorem d20_32 : decode jdk_52_method_4_code 32 = .ok (.aload_n 0, 1) := by decide +kernel
theorem d20_33 : decode jdk_52_method_4_code 33 = .ok (.iload_n 1, 1) := by decide +kernel
theorem d20_34 : decode jdk_52_method_4_code 34 = .ok (.iinc 1 1, 3) := by decide +kernel
theorem d20_37 : decode jdk_52_method_4_code 37 = .ok (.iload_n 2, 1) := by decide +kernel
theorem d20_38 : decode jdk_52_method_4_code 38 = .ok (.getstatic 59, 3) := by decide +kernel
theorem d20_41 : decode jdk_52_method_4_code 41 = .ok (.ishr, 1) := by decide +kernel
theorem d20_42 : decode jdk_52_method_4_code 42 = .ok (.i2b, 1) := by decide +kernel
theorem d20_43 : decode jdk_52_method_4_code 43 = .ok (.bastore, 1) := by decide +kernel
theorem d20_44 : decode jdk_52_method_4_code 44 = .ok (.aload_n 0, 1) := by decide +kernel
theorem d20_45 : decode jdk_52_method_4_code 45 = .ok (.iload_n 1, 1) := by decide +kernel
theorem d20_46 : decode jdk_52_method_4_code 46 = .ok (.iload_n 2, 1) := by decide +kernel
theorem d20_47 : decode jdk_52_method_4_code 47 = .ok (.getstatic 63, 3) := by decide +kernel
theorem d20_50 : decode jdk_52_method_4_code 50 = .ok (.ishr, 1) := by decide +kernel
theorem d20_51 : decode jdk_52_method_4_code 51 = .ok (.i2b, 1) := by decide +kernel
theorem d20_52 : decode jdk_52_method_4_code 52 = .ok (.bastore, 1) := by decide +kernel
theorem d20_53 : decode jdk_52_method_4_code 53 = .ok (.return_, 1) := by decide +kernel
def own_r_own_pc_0_1 : Room := { frames := 0, cells := 0, slots := 0, locals := 0 }
theorem own_pc_0_1 (l : Launch) (Z : State) (a0 : Array Value) (hw : own_W a0 Z) (b : Addr) (kb : ClassId) (dv : Value) (ch : Int32) (v0 v1 : Value) (h0 : Heap) (n0 : Nat) (hO : Old Z n0 h0) (hU : own_Us Z) (gb : n0 ≤ b) (Ab : Arv Z h0 b kb .byte 2 [v0, v1] dv) :
    own_Met l Z (⟨"java/lang/StringUTF16", "putChar", "([BII)V"⟩ : MethodName) jdk_52_method_4_code 3 none own_r_own_pc_0_1 #[(.ref b), (.int 0), (.int ch)] h0 (own_Qp_0_1 Z b kb dv ch v0 v1 h0 n0) := by
  refine own_body (by decide +kernel) ?_
  intro p e s m below meth c T0 X0 hx hZ hby hml hown hnm hret hlk e0
  have N0 := Fr.nil n0
  refine own_cast (own_frame (L := [rv b, iv 0, iv ch]) (ls := #[rv b, iv 0, iv ch]) rfl rfl) ?_
  refine og_getS X0 hx hZ hown (own_hw hw 92 rfl) Via.refl e0 (hU.1.ext hO.2) (hb hby d20_0) ?_
  intro T1 X1 e1
  show own_Go p e below _ T1 (mkF m 3 #[rv b, iv 0, iv ch] [(.int 1)])
  refine og_ifY X1 hx 28 (hb hby d20_3) (feq (by decide)).2 (by decide) (by decide) ?_
  refine og_iloadN X1 hx (hb hby d20_28) rfl ?_
  refine og_iconst X1 hx (hb hby d20_29) ?_
  refine own_go (fun t k => XS.ishl X1.here hx rfl (hb hby d20_30) rfl k) ?_
  show own_Go p e below _ T1 (mkF m 31 #[rv b, iv 0, iv ch] [(.int 0)])
  refine og_istoreN X1 hx #[rv b, iv 0, iv ch] (hb hby d20_31) rfl ?_
  refine og_aloadN X1 hx (hb hby d20_32) rfl rfl ?_
  refine og_iloadN X1 hx (hb hby d20_33) rfl ?_
  refine own_go (fun t k => XS.iinc X1.here hx rfl (hb hby d20_34) rfl (l' := #[rv b, iv 1, iv ch]) rfl k) ?_
  show own_Go p e below _ T1 (mkF m 37 #[rv b, iv 1, iv ch] [(.int 0), (.ref b)])
  refine og_iloadN X1 hx (hb hby d20_37) rfl ?_
  refine og_getS X1 hx hZ hown (own_hw hw 93 rfl) Via.refl e1 (hU.2.1.ext hO.2) (hb hby d20_38) ?_
  intro T2 X2 e2
  show own_Go p e below _ T2 (mkF m 41 #[rv b, iv 1, iv ch] [(.int 0), (.int ch), (.int 0), (.ref b)])
  refine own_go (fun t k => XS.ishr X2.here hx rfl (hb hby d20_41) rfl k) ?_
  show own_Go p e below _ T2 (mkF m 42 #[rv b, iv 1, iv ch] [(.int (ch >>> ((0 : Int32) &&& 31))), (.int 0), (.ref b)])
  refine own_go (fun t k => XS.i2b X2.here hx rfl (hb hby d20_42) rfl k) ?_
  show own_Go p e below _ T2 (mkF m 43 #[rv b, iv 1, iv ch] [(.int ((ch >>> ((0 : Int32) &&& 31)).toInt8.toInt32)), (.int 0), (.ref b)])
  refine own_stB X2 hx hZ e2 Ab ⟨by decide, by decide⟩ 0 rfl (by show 0 < 2; decide) (hb hby d20_43) ?_
  intro T3 h3 X3 e3 W3 A3
  have O3 := hO.wr W3 gb
  have K3 := (Keep.refl h0 [b]).wr W3 (Or.inl (by simp))
  have N3 := Fr.snoc X3 N0 gb
  have A_b_3 : Arv Z h3 b kb .byte 2 [(.int (own_lo ch)), v1] dv := (by have q := A3; exact q)
  show own_Go p e below _ T3 (mkF m 44 #[rv b, iv 1, iv ch] [])
  refine og_aloadN X3 hx (hb hby d20_44) rfl rfl ?_
  refine og_iloadN X3 hx (hb hby d20_45) rfl ?_
  refine og_iloadN X3 hx (hb hby d20_46) rfl ?_
  refine og_getS X3 hx hZ hown (own_hw hw 94 rfl) Via.refl e3 (hU.2.2.ext O3.2) (hb hby d20_47) ?_
  intro T4 X4 e4
  show own_Go p e below _ T4 (mkF m 50 #[rv b, iv 1, iv ch] [(.int 8), (.int ch), (.int 1), (.ref b)])
  refine own_go (fun t k => XS.ishr X4.here hx rfl (hb hby d20_50) rfl k) ?_
  show own_Go p e below _ T4 (mkF m 51 #[rv b, iv 1, iv ch] [(.int (ch >>> ((8 : Int32) &&& 31))), (.int 1), (.ref b)])
  refine own_go (fun t k => XS.i2b X4.here hx rfl (hb hby d20_51) rfl k) ?_
  show own_Go p e below _ T4 (mkF m 52 #[rv b, iv 1, iv ch] [(.int ((ch >>> ((8 : Int32) &&& 31)).toInt8.toInt32)), (.int 1), (.ref b)])
  refine own_stB X4 hx hZ e4 A_b_3 ⟨by decide, by decide⟩ 1 rfl (by show 1 < 2; decide) (hb hby d20_52) ?_
  intro T5 h5 X5 e5 W5 A5
  have O5 := O3.wr W5 gb
  have K5 := K3.wr W5 (Or.inl (by simp))
  have N5 := Fr.snoc X5 N3 gb
  have A_b_5 : Arv Z h5 b kb .byte 2 [(.int (own_lo ch)), (.int (own_hi ch))] dv := (by have q := A5; exact q)
  show own_Go p e below _ T5 (mkF m 53 #[rv b, iv 1, iv ch] [])
  exact own_retV X5 hx hret hlk (hb hby d20_53) (by decide) (by decide) (by rw [e5]; exact ⟨rfl, N5, K5, A_b_5⟩)
def own_Qp_0_2 (Z : State) (b : Addr) (kb : ClassId) (dv : Value) (ch : Int32) (v0 v1 v2 v3 : Value) (h0 : Heap) (n0 : Nat) (v : Option Value) (h : Heap) (L : List Loc) : Prop := v = none ∧ Fr n0 L ∧ Keep h0 h [b] ∧ Arv Z h b kb .byte 4 [(.int (own_lo ch)), (.int (own_hi ch)), v2, v3] dv
def own_r_own_pc_0_2 : Room := { frames := 0, cells := 0, slots := 0, locals := 0 }
theorem own_pc_0_2 (l : Launch) (Z : State) (a0 : Array Value) (hw : own_W a0 Z) (b : Addr) (kb : ClassId) (dv : Value) (ch : Int32) (v0 v1 v2 v3 : Value) (h0 : Heap) (n0 : Nat) (hO : Old Z n0 h0) (hU : own_Us Z) (gb : n0 ≤ b) (Ab : Arv Z h0 b kb .byte 4 [v0, v1, v2, v3] dv) :
    own_Met l Z (⟨"java/lang/StringUTF16", "putChar", "([BII)V"⟩ : MethodName) jdk_52_method_4_code 3 none own_r_own_pc_0_2 #[(.ref b), (.int 0), (.int ch)] h0 (own_Qp_0_2 Z b kb dv ch v0 v1 v2 v3 h0 n0) := by
  refine own_body (by decide +kernel) ?_
  intro p e s m below meth c T0 X0 hx hZ hby hml hown hnm hret hlk e0
  have N0 := Fr.nil n0
  refine own_cast (own_frame (L := [rv b, iv 0, iv ch]) (ls := #[rv b, iv 0, iv ch]) rfl rfl) ?_
  refine og_getS X0 hx hZ hown (own_hw hw 92 rfl) Via.refl e0 (hU.1.ext hO.2) (hb hby d20_0) ?_
  intro T1 X1 e1
  show own_Go p e below _ T1 (mkF m 3 #[rv b, iv 0, iv ch] [(.int 1)])
  refine og_ifY X1 hx 28 (hb hby d20_3) (feq (by decide)).2 (by decide) (by decide) ?_
  refine og_iloadN X1 hx (hb hby d20_28) rfl ?_
  refine og_iconst X1 hx (hb hby d20_29) ?_
  refine own_go (fun t k => XS.ishl X1.here hx rfl (hb hby d20_30) rfl k) ?_
  show own_Go p e below _ T1 (mkF m 31 #[rv b, iv 0, iv ch] [(.int 0)])
  refine og_istoreN X1 hx #[rv b, iv 0, iv ch] (hb hby d20_31) rfl ?_
  refine og_aloadN X1 hx (hb hby d20_32) rfl rfl ?_
  refine og_iloadN X1 hx (hb hby d20_33) rfl ?_
  refine own_go (fun t k => XS.iinc X1.here hx rfl (hb hby d20_34) rfl (l' := #[rv b, iv 1, iv ch]) rfl k) ?_
  show own_Go p e below _ T1 (mkF m 37 #[rv b, iv 1, iv ch] [(.int 0), (.ref b)])
  refine og_iloadN X1 hx (hb hby d20_37) rfl ?_
  refine og_getS X1 hx hZ hown (own_hw hw 93 rfl) Via.refl e1 (hU.2.1.ext hO.2) (hb hby d20_38) ?_
  intro T2 X2 e2
  show own_Go p e below _ T2 (mkF m 41 #[rv b, iv 1, iv ch] [(.int 0), (.int ch), (.int 0), (.ref b)])
  refine own_go (fun t k => XS.ishr X2.here hx rfl (hb hby d20_41) rfl k) ?_
  show own_Go p e below _ T2 (mkF m 42 #[rv b, iv 1, iv ch] [(.int (ch >>> ((0 : Int32) &&& 31))), (.int 0), (.ref b)])
  refine own_go (fun t k => XS.i2b X2.here hx rfl (hb hby d20_42) rfl k) ?_
  show own_Go p e below _ T2 (mkF m 43 #[rv b, iv 1, iv ch] [(.int ((ch >>> ((0 : Int32) &&& 31)).toInt8.toInt32)), (.int 0), (.ref b)])
  refine own_stB X2 hx hZ e2 Ab ⟨by decide, by decide⟩ 0 rfl (by show 0 < 4; decide) (hb hby d20_43) ?_
  intro T3 h3 X3 e3 W3 A3
  have O3 := hO.wr W3 gb
  have K3 := (Keep.refl h0 [b]).wr W3 (Or.inl (by simp))
  have N3 := Fr.snoc X3 N0 gb
  have A_b_3 : Arv Z h3 b kb .byte 4 [(.int (own_lo ch)), v1, v2, v3] dv := (by have q := A3; exact q)
  show own_Go p e below _ T3 (mkF m 44 #[rv b, iv 1, iv ch] [])
  refine og_aloadN X3 hx (hb hby d20_44) rfl rfl ?_
  refine og_iloadN X3 hx (hb hby d20_45) rfl ?_
  refine og_iloadN X3 hx (hb hby d20_46) rfl ?_
  refine og_getS X3 hx hZ hown (own_hw hw 94 rfl) Via.refl e3 (hU.2.2.ext O3.2) (hb hby d20_47) ?_
  intro T4 X4 e4
  show own_Go p e below _ T4 (mkF m 50 #[rv b, iv 1, iv ch] [(.int 8), (.int ch), (.int 1), (.ref b)])
  refine own_go (fun t k => XS.ishr X4.here hx rfl (hb hby d20_50) rfl k) ?_
  show own_Go p e below _ T4 (mkF m 51 #[rv b, iv 1, iv ch] [(.int (ch >>> ((8 : Int32) &&& 31))), (.int 1), (.ref b)])
  refine own_go (fun t k => XS.i2b X4.here hx rfl (hb hby d20_51) rfl k) ?_
  show own_Go p e below _ T4 (mkF m 52 #[rv b, iv 1, iv ch] [(.int ((ch >>> ((8 : Int32) &&& 31)).toInt8.toInt32)), (.int 1), (.ref b)])
  refine own_stB X4 hx hZ e4 A_b_3 ⟨by decide, by decide⟩ 1 rfl (by show 1 < 4; decide) (hb hby d20_52) ?_
  intro T5 h5 X5 e5 W5 A5
  have O5 := O3.wr W5 gb
  have K5 := K3.wr W5 (Or.inl (by simp))
  have N5 := Fr.snoc X5 N3 gb
  have A_b_5 : Arv Z h5 b kb .byte 4 [(.int (own_lo ch)), (.int (own_hi ch)), v2, v3] dv := (by have q := A5; exact q)
  show own_Go p e below _ T5 (mkF m 53 #[rv b, iv 1, iv ch] [])
  exact own_retV X5 hx hret hlk (hb hby d20_53) (by decide) (by decide) (by rw [e5]; exact ⟨rfl, N5, K5, A_b_5⟩)
def own_Qp_1_2 (Z : State) (b : Addr) (kb : ClassId) (dv : Value) (ch : Int32) (v0 v1 v2 v3 : Value) (h0 : Heap) (n0 : Nat) (v : Option Value) (h : Heap) (L : List Loc) : Prop := v = none ∧ Fr n0 L ∧ Keep h0 h [b] ∧ Arv Z h b kb .byte 4 [v0, v1, (.int (own_lo ch)), (.int (own_hi ch))] dv
def own_r_own_pc_1_2 : Room := { frames := 0, cells := 0, slots := 0, locals := 0 }
theorem own_pc_1_2 (l : Launch) (Z : State) (a0 : Array Value) (hw : own_W a0 Z) (b : Addr) (kb : ClassId) (dv : Value) (ch : Int32) (v0 v1 v2 v3 : Value) (h0 : Heap) (n0 : Nat) (hO : Old Z n0 h0) (hU : own_Us Z) (gb : n0 ≤ b) (Ab : Arv Z h0 b kb .byte 4 [v0, v1, v2, v3] dv) :
    own_Met l Z (⟨"java/lang/StringUTF16", "putChar", "([BII)V"⟩ : MethodName) jdk_52_method_4_code 3 none own_r_own_pc_1_2 #[(.ref b), (.int 1), (.int ch)] h0 (own_Qp_1_2 Z b kb dv ch v0 v1 v2 v3 h0 n0) := by
  refine own_body (by decide +kernel) ?_
  intro p e s m below meth c T0 X0 hx hZ hby hml hown hnm hret hlk e0
  have N0 := Fr.nil n0
  refine own_cast (own_frame (L := [rv b, iv 1, iv ch]) (ls := #[rv b, iv 1, iv ch]) rfl rfl) ?_
  refine og_getS X0 hx hZ hown (own_hw hw 92 rfl) Via.refl e0 (hU.1.ext hO.2) (hb hby d20_0) ?_
  intro T1 X1 e1
  show own_Go p e below _ T1 (mkF m 3 #[rv b, iv 1, iv ch] [(.int 1)])
  refine og_ifY X1 hx 28 (hb hby d20_3) (feq (by decide)).2 (by decide) (by decide) ?_
  refine og_iloadN X1 hx (hb hby d20_28) rfl ?_
  refine og_iconst X1 hx (hb hby d20_29) ?_
  refine own_go (fun t k => XS.ishl X1.here hx rfl (hb hby d20_30) rfl k) ?_
  show own_Go p e below _ T1 (mkF m 31 #[rv b, iv 1, iv ch] [(.int 2)])
  refine og_istoreN X1 hx #[rv b, iv 2, iv ch] (hb hby d20_31) rfl ?_
  refine og_aloadN X1 hx (hb hby d20_32) rfl rfl ?_
  refine og_iloadN X1 hx (hb hby d20_33) rfl ?_
  refine own_go (fun t k => XS.iinc X1.here hx rfl (hb hby d20_34) rfl (l' := #[rv b, iv 3, iv ch]) rfl k) ?_
  show own_Go p e below _ T1 (mkF m 37 #[rv b, iv 3, iv ch] [(.int 2), (.ref b)])
  refine og_iloadN X1 hx (hb hby d20_37) rfl ?_
  refine og_getS X1 hx hZ hown (own_hw hw 93 rfl) Via.refl e1 (hU.2.1.ext hO.2) (hb hby d20_38) ?_
  intro T2 X2 e2
  show own_Go p e below _ T2 (mkF m 41 #[rv b, iv 3, iv ch] [(.int 0), (.int ch), (.int 2), (.ref b)])
  refine own_go (fun t k => XS.ishr X2.here hx rfl (hb hby d20_41) rfl k) ?_
  show own_Go p e below _ T2 (mkF m 42 #[rv b, iv 3, iv ch] [(.int (ch >>> ((0 : Int32) &&& 31))), (.int 2), (.ref b)])
  refine own_go (fun t k => XS.i2b X2.here hx rfl (hb hby d20_42) rfl k) ?_
  show own_Go p e below _ T2 (mkF m 43 #[rv b, iv 3, iv ch] [(.int ((ch >>> ((0 : Int32) &&& 31)).toInt8.toInt32)), (.int 2), (.ref b)])
  refine own_stB X2 hx hZ e2 Ab ⟨by decide, by decide⟩ 2 rfl (by show 2 < 4; decide) (hb hby d20_43) ?_
  intro T3 h3 X3 e3 W3 A3
  have O3 := hO.wr W3 gb
  have K3 := (Keep.refl h0 [b]).wr W3 (Or.inl (by simp))
  have N3 := Fr.snoc X3 N0 gb
  have A_b_3 : Arv Z h3 b kb .byte 4 [v0, v1, (.int (own_lo ch)), v3] dv := (by have q := A3; exact q)
  show own_Go p e below _ T3 (mkF m 44 #[rv b, iv 3, iv ch] [])
  refine og_aloadN X3 hx (hb hby d20_44) rfl rfl ?_
  refine og_iloadN X3 hx (hb hby d20_45) rfl ?_
  refine og_iloadN X3 hx (hb hby d20_46) rfl ?_
  refine og_getS X3 hx hZ hown (own_hw hw 94 rfl) Via.refl e3 (hU.2.2.ext O3.2) (hb hby d20_47) ?_
  intro T4 X4 e4
  show own_Go p e below _ T4 (mkF m 50 #[rv b, iv 3, iv ch] [(.int 8), (.int ch), (.int 3), (.ref b)])
  refine own_go (fun t k => XS.ishr X4.here hx rfl (hb hby d20_50) rfl k) ?_
  show own_Go p e below _ T4 (mkF m 51 #[rv b, iv 3, iv ch] [(.int (ch >>> ((8 : Int32) &&& 31))), (.int 3), (.ref b)])
  refine own_go (fun t k => XS.i2b X4.here hx rfl (hb hby d20_51) rfl k) ?_
  show own_Go p e below _ T4 (mkF m 52 #[rv b, iv 3, iv ch] [(.int ((ch >>> ((8 : Int32) &&& 31)).toInt8.toInt32)), (.int 3), (.ref b)])
  refine own_stB X4 hx hZ e4 A_b_3 ⟨by decide, by decide⟩ 3 rfl (by show 3 < 4; decide) (hb hby d20_52) ?_
  intro T5 h5 X5 e5 W5 A5
  have O5 := O3.wr W5 gb
  have K5 := K3.wr W5 (Or.inl (by simp))
  have N5 := Fr.snoc X5 N3 gb
  have A_b_5 : Arv Z h5 b kb .byte 4 [v0, v1, (.int (own_lo ch)), (.int (own_hi ch))] dv := (by have q := A5; exact q)
  show own_Go p e below _ T5 (mkF m 53 #[rv b, iv 3, iv ch] [])
  exact own_retV X5 hx hret hlk (hb hby d20_53) (by decide) (by decide) (by rw [e5]; exact ⟨rfl, N5, K5, A_b_5⟩)
def own_Qp_0_3 (Z : State) (b : Addr) (kb : ClassId) (dv : Value) (ch : Int32) (v0 v1 v2 v3 v4 v5 : Value) (h0 : Heap) (n0 : Nat) (v : Option Value) (h : Heap) (L : List Loc) : Prop := v = none ∧ Fr n0 L ∧ Keep h0 h [b] ∧ Arv Z h b kb .byte 6 [(.int (own_lo ch)), (.int (own_hi ch)), v2, v3, v4, v5] dv
def own_r_own_pc_0_3 : Room := { frames := 0, cells := 0, slots := 0, locals := 0 }
theorem own_pc_0_3 (l : Launch) (Z : State) (a0 : Array Value) (hw : own_W a0 Z) (b : Addr) (kb : ClassId) (dv : Value) (ch : Int32) (v0 v1 v2 v3 v4 v5 : Value) (h0 : Heap) (n0 : Nat) (hO : Old Z n0 h0) (hU : own_Us Z) (gb : n0 ≤ b) (Ab : Arv Z h0 b kb .byte 6 [v0, v1, v2, v3, v4, v5] dv) :
    own_Met l Z (⟨"java/lang/StringUTF16", "putChar", "([BII)V"⟩ : MethodName) jdk_52_method_4_code 3 none own_r_own_pc_0_3 #[(.ref b), (.int 0), (.int ch)] h0 (own_Qp_0_3 Z b kb dv ch v0 v1 v2 v3 v4 v5 h0 n0) := by
  refine own_body (by decide +kernel) ?_
  intro p e s m below meth c T0 X0 hx hZ hby hml hown hnm hret hlk e0
  have N0 := Fr.nil n0
  refine own_cast (own_frame (L := [rv b, iv 0, iv ch]) (ls := #[rv b, iv 0, iv ch]) rfl rfl) ?_
  refine og_getS X0 hx hZ hown (own_hw hw 92 rfl) Via.refl e0 (hU.1.ext hO.2) (hb hby d20_0) ?_
  intro T1 X1 e1
  show own_Go p e below _ T1 (mkF m 3 #[rv b, iv 0, iv ch] [(.int 1)])
  refine og_ifY X1 hx 28 (hb hby d20_3) (feq (by decide)).2 (by decide) (by decide) ?_
  refine og_iloadN X1 hx (hb hby d20_28) rfl ?_
  refine og_iconst X1 hx (hb hby d20_29) ?_
  refine own_go (fun t k => XS.ishl X1.here hx rfl (hb hby d20_30) rfl k) ?_
  show own_Go p e below _ T1 (mkF m 31 #[rv b, iv 0, iv ch] [(.int 0)])
  refine og_istoreN X1 hx #[rv b, iv 0, iv ch] (hb hby d20_31) rfl ?_
  refine og_aloadN X1 hx (hb hby d20_32) rfl rfl ?_
  refine og_iloadN X1 hx (hb hby d20_33) rfl ?_
  refine own_go (fun t k => XS.iinc X1.here hx rfl (hb hby d20_34) rfl (l' := #[rv b, iv 1, iv ch]) rfl k) ?_
  show own_Go p e below _ T1 (mkF m 37 #[rv b, iv 1, iv ch] [(.int 0), (.ref b)])
  refine og_iloadN X1 hx (hb hby d20_37) rfl ?_
  refine og_getS X1 hx hZ hown (own_hw hw 93 rfl) Via.refl e1 (hU.2.1.ext hO.2) (hb hby d20_38) ?_
  intro T2 X2 e2
  show own_Go p e below _ T2 (mkF m 41 #[rv b, iv 1, iv ch] [(.int 0), (.int ch), (.int 0), (.ref b)])
  refine own_go (fun t k => XS.ishr X2.here hx rfl (hb hby d20_41) rfl k) ?_
  show own_Go p e below _ T2 (mkF m 42 #[rv b, iv 1, iv ch] [(.int (ch >>> ((0 : Int32) &&& 31))), (.int 0), (.ref b)])
  refine own_go (fun t k => XS.i2b X2.here hx rfl (hb hby d20_42) rfl k) ?_
  show own_Go p e below _ T2 (mkF m 43 #[rv b, iv 1, iv ch] [(.int ((ch >>> ((0 : Int32) &&& 31)).toInt8.toInt32)), (.int 0), (.ref b)])
  refine own_stB X2 hx hZ e2 Ab ⟨by decide, by decide⟩ 0 rfl (by show 0 < 6; decide) (hb hby d20_43) ?_
  intro T3 h3 X3 e3 W3 A3
  have O3 := hO.wr W3 gb
  have K3 := (Keep.refl h0 [b]).wr W3 (Or.inl (by simp))
  have N3 := Fr.snoc X3 N0 gb
  have A_b_3 : Arv Z h3 b kb .byte 6 [(.int (own_lo ch)), v1, v2, v3, v4, v5] dv := (by have q := A3; exact q)
  show own_Go p e below _ T3 (mkF m 44 #[rv b, iv 1, iv ch] [])
  refine og_aloadN X3 hx (hb hby d20_44) rfl rfl ?_
  refine og_iloadN X3 hx (hb hby d20_45) rfl ?_
  refine og_iloadN X3 hx (hb hby d20_46) rfl ?_
  refine og_getS X3 hx hZ hown (own_hw hw 94 rfl) Via.refl e3 (hU.2.2.ext O3.2) (hb hby d20_47) ?_
  intro T4 X4 e4
  show own_Go p e below _ T4 (mkF m 50 #[rv b, iv 1, iv ch] [(.int 8), (.int ch), (.int 1), (.ref b)])
  refine own_go (fun t k => XS.ishr X4.here hx rfl (hb hby d20_50) rfl k) ?_
  show own_Go p e below _ T4 (mkF m 51 #[rv b, iv 1, iv ch] [(.int (ch >>> ((8 : Int32) &&& 31))), (.int 1), (.ref b)])
  refine own_go (fun t k => XS.i2b X4.here hx rfl (hb hby d20_51) rfl k) ?_
  show own_Go p e below _ T4 (mkF m 52 #[rv b, iv 1, iv ch] [(.int ((ch >>> ((8 : Int32) &&& 31)).toInt8.toInt32)), (.int 1), (.ref b)])
  refine own_stB X4 hx hZ e4 A_b_3 ⟨by decide, by decide⟩ 1 rfl (by show 1 < 6; decide) (hb hby d20_52) ?_
  intro T5 h5 X5 e5 W5 A5
  have O5 := O3.wr W5 gb
  have K5 := K3.wr W5 (Or.inl (by simp))
  have N5 := Fr.snoc X5 N3 gb
  have A_b_5 : Arv Z h5 b kb .byte 6 [(.int (own_lo ch)), (.int (own_hi ch)), v2, v3, v4, v5] dv := (by have q := A5; exact q)
  show own_Go p e below _ T5 (mkF m 53 #[rv b, iv 1, iv ch] [])
  exact own_retV X5 hx hret hlk (hb hby d20_53) (by decide) (by decide) (by rw [e5]; exact ⟨rfl, N5, K5, A_b_5⟩)
def own_Qp_1_3 (Z : State) (b : Addr) (kb : ClassId) (dv : Value) (ch : Int32) (v0 v1 v2 v3 v4 v5 : Value) (h0 : Heap) (n0 : Nat) (v : Option Value) (h : Heap) (L : List Loc) : Prop := v = none ∧ Fr n0 L ∧ Keep h0 h [b] ∧ Arv Z h b kb .byte 6 [v0, v1, (.int (own_lo ch)), (.int (own_hi ch)), v4, v5] dv
def own_r_own_pc_1_3 : Room := { frames := 0, cells := 0, slots := 0, locals := 0 }
theorem own_pc_1_3 (l : Launch) (Z : State) (a0 : Array Value) (hw : own_W a0 Z) (b : Addr) (kb : ClassId) (dv : Value) (ch : Int32) (v0 v1 v2 v3 v4 v5 : Value) (h0 : Heap) (n0 : Nat) (hO : Old Z n0 h0) (hU : own_Us Z) (gb : n0 ≤ b) (Ab : Arv Z h0 b kb .byte 6 [v0, v1, v2, v3, v4, v5] dv) :
    own_Met l Z (⟨"java/lang/StringUTF16", "putChar", "([BII)V"⟩ : MethodName) jdk_52_method_4_code 3 none own_r_own_pc_1_3 #[(.ref b), (.int 1), (.int ch)] h0 (own_Qp_1_3 Z b kb dv ch v0 v1 v2 v3 v4 v5 h0 n0) := by
  refine own_body (by decide +kernel) ?_
  intro p e s m below meth c T0 X0 hx hZ hby hml hown hnm hret hlk e0
  have N0 := Fr.nil n0
  refine own_cast (own_frame (L := [rv b, iv 1, iv ch]) (ls := #[rv b, iv 1, iv ch]) rfl rfl) ?_
  refine og_getS X0 hx hZ hown (own_hw hw 92 rfl) Via.refl e0 (hU.1.ext hO.2) (hb hby d20_0) ?_
  intro T1 X1 e1
  show own_Go p e below _ T1 (mkF m 3 #[rv b, iv 1, iv ch] [(.int 1)])
  refine og_ifY X1 hx 28 (hb hby d20_3) (feq (by decide)).2 (by decide) (by decide) ?_
  refine og_iloadN X1 hx (hb hby d20_28) rfl ?_
  refine og_iconst X1 hx (hb hby d20_29) ?_
  refine own_go (fun t k => XS.ishl X1.here hx rfl (hb hby d20_30) rfl k) ?_
  show own_Go p e below _ T1 (mkF m 31 #[rv b, iv 1, iv ch] [(.int 2)])
  refine og_istoreN X1 hx #[rv b, iv 2, iv ch] (hb hby d20_31) rfl ?_
  refine og_aloadN X1 hx (hb hby d20_32) rfl rfl ?_
  refine og_iloadN X1 hx (hb hby d20_33) rfl ?_
  refine own_go (fun t k => XS.iinc X1.here hx rfl (hb hby d20_34) rfl (l' := #[rv b, iv 3, iv ch]) rfl k) ?_
  show own_Go p e below _ T1 (mkF m 37 #[rv b, iv 3, iv ch] [(.int 2), (.ref b)])
  refine og_iloadN X1 hx (hb hby d20_37) rfl ?_
  refine og_getS X1 hx hZ hown (own_hw hw 93 rfl) Via.refl e1 (hU.2.1.ext hO.2) (hb hby d20_38) ?_
  intro T2 X2 e2
  show own_Go p e below _ T2 (mkF m 41 #[rv b, iv 3, iv ch] [(.int 0), (.int ch), (.int 2), (.ref b)])
  refine own_go (fun t k => XS.ishr X2.here hx rfl (hb hby d20_41) rfl k) ?_
  show own_Go p e below _ T2 (mkF m 42 #[rv b, iv 3, iv ch] [(.int (ch >>> ((0 : Int32) &&& 31))), (.int 2), (.ref b)])
  refine own_go (fun t k => XS.i2b X2.here hx rfl (hb hby d20_42) rfl k) ?_
  show own_Go p e below _ T2 (mkF m 43 #[rv b, iv 3, iv ch] [(.int ((ch >>> ((0 : Int32) &&& 31)).toInt8.toInt32)), (.int 2), (.ref b)])
  refine own_stB X2 hx hZ e2 Ab ⟨by decide, by decide⟩ 2 rfl (by show 2 < 6; decide) (hb hby d20_43) ?_
  intro T3 h3 X3 e3 W3 A3
  have O3 := hO.wr W3 gb
  have K3 := (Keep.refl h0 [b]).wr W3 (Or.inl (by simp))
  have N3 := Fr.snoc X3 N0 gb
  have A_b_3 : Arv Z h3 b kb .byte 6 [v0, v1, (.int (own_lo ch)), v3, v4, v5] dv := (by have q := A3; exact q)
  show own_Go p e below _ T3 (mkF m 44 #[rv b, iv 3, iv ch] [])
  refine og_aloadN X3 hx (hb hby d20_44) rfl rfl ?_
  refine og_iloadN X3 hx (hb hby d20_45) rfl ?_
  refine og_iloadN X3 hx (hb hby d20_46) rfl ?_
  refine og_getS X3 hx hZ hown (own_hw hw 94 rfl) Via.refl e3 (hU.2.2.ext O3.2) (hb hby d20_47) ?_
  intro T4 X4 e4
  show own_Go p e below _ T4 (mkF m 50 #[rv b, iv 3, iv ch] [(.int 8), (.int ch), (.int 3), (.ref b)])
  refine own_go (fun t k => XS.ishr X4.here hx rfl (hb hby d20_50) rfl k) ?_
  show own_Go p e below _ T4 (mkF m 51 #[rv b, iv 3, iv ch] [(.int (ch >>> ((8 : Int32) &&& 31))), (.int 3), (.ref b)])
  refine own_go (fun t k => XS.i2b X4.here hx rfl (hb hby d20_51) rfl k) ?_
  show own_Go p e below _ T4 (mkF m 52 #[rv b, iv 3, iv ch] [(.int ((ch >>> ((8 : Int32) &&& 31)).toInt8.toInt32)), (.int 3), (.ref b)])
  refine own_stB X4 hx hZ e4 A_b_3 ⟨by decide, by decide⟩ 3 rfl (by show 3 < 6; decide) (hb hby d20_52) ?_
  intro T5 h5 X5 e5 W5 A5
  have O5 := O3.wr W5 gb
  have K5 := K3.wr W5 (Or.inl (by simp))
  have N5 := Fr.snoc X5 N3 gb
  have A_b_5 : Arv Z h5 b kb .byte 6 [v0, v1, (.int (own_lo ch)), (.int (own_hi ch)), v4, v5] dv := (by have q := A5; exact q)
  show own_Go p e below _ T5 (mkF m 53 #[rv b, iv 3, iv ch] [])
  exact own_retV X5 hx hret hlk (hb hby d20_53) (by decide) (by decide) (by rw [e5]; exact ⟨rfl, N5, K5, A_b_5⟩)
def own_Qp_2_3 (Z : State) (b : Addr) (kb : ClassId) (dv : Value) (ch : Int32) (v0 v1 v2 v3 v4 v5 : Value) (h0 : Heap) (n0 : Nat) (v : Option Value) (h : Heap) (L : List Loc) : Prop := v = none ∧ Fr n0 L ∧ Keep h0 h [b] ∧ Arv Z h b kb .byte 6 [v0, v1, v2, v3, (.int (own_lo ch)), (.int (own_hi ch))] dv
def own_r_own_pc_2_3 : Room := { frames := 0, cells := 0, slots := 0, locals := 0 }
theorem own_pc_2_3 (l : Launch) (Z : State) (a0 : Array Value) (hw : own_W a0 Z) (b : Addr) (kb : ClassId) (dv : Value) (ch : Int32) (v0 v1 v2 v3 v4 v5 : Value) (h0 : Heap) (n0 : Nat) (hO : Old Z n0 h0) (hU : own_Us Z) (gb : n0 ≤ b) (Ab : Arv Z h0 b kb .byte 6 [v0, v1, v2, v3, v4, v5] dv) :
    own_Met l Z (⟨"java/lang/StringUTF16", "putChar", "([BII)V"⟩ : MethodName) jdk_52_method_4_code 3 none own_r_own_pc_2_3 #[(.ref b), (.int 2), (.int ch)] h0 (own_Qp_2_3 Z b kb dv ch v0 v1 v2 v3 v4 v5 h0 n0) := by
  refine own_body (by decide +kernel) ?_
  intro p e s m below meth c T0 X0 hx hZ hby hml hown hnm hret hlk e0
  have N0 := Fr.nil n0
  refine own_cast (own_frame (L := [rv b, iv 2, iv ch]) (ls := #[rv b, iv 2, iv ch]) rfl rfl) ?_
  refine og_getS X0 hx hZ hown (own_hw hw 92 rfl) Via.refl e0 (hU.1.ext hO.2) (hb hby d20_0) ?_
  intro T1 X1 e1
  show own_Go p e below _ T1 (mkF m 3 #[rv b, iv 2, iv ch] [(.int 1)])
  refine og_ifY X1 hx 28 (hb hby d20_3) (feq (by decide)).2 (by decide) (by decide) ?_
  refine og_iloadN X1 hx (hb hby d20_28) rfl ?_
  refine og_iconst X1 hx (hb hby d20_29) ?_
  refine own_go (fun t k => XS.ishl X1.here hx rfl (hb hby d20_30) rfl k) ?_
  show own_Go p e below _ T1 (mkF m 31 #[rv b, iv 2, iv ch] [(.int 4)])
  refine og_istoreN X1 hx #[rv b, iv 4, iv ch] (hb hby d20_31) rfl ?_
  refine og_aloadN X1 hx (hb hby d20_32) rfl rfl ?_
  refine og_iloadN X1 hx (hb hby d20_33) rfl ?_
  refine own_go (fun t k => XS.iinc X1.here hx rfl (hb hby d20_34) rfl (l' := #[rv b, iv 5, iv ch]) rfl k) ?_
  show own_Go p e below _ T1 (mkF m 37 #[rv b, iv 5, iv ch] [(.int 4), (.ref b)])
  refine og_iloadN X1 hx (hb hby d20_37) rfl ?_
  refine og_getS X1 hx hZ hown (own_hw hw 93 rfl) Via.refl e1 (hU.2.1.ext hO.2) (hb hby d20_38) ?_
  intro T2 X2 e2
  show own_Go p e below _ T2 (mkF m 41 #[rv b, iv 5, iv ch] [(.int 0), (.int ch), (.int 4), (.ref b)])
  refine own_go (fun t k => XS.ishr X2.here hx rfl (hb hby d20_41) rfl k) ?_
  show own_Go p e below _ T2 (mkF m 42 #[rv b, iv 5, iv ch] [(.int (ch >>> ((0 : Int32) &&& 31))), (.int 4), (.ref b)])
  refine own_go (fun t k => XS.i2b X2.here hx rfl (hb hby d20_42) rfl k) ?_
  show own_Go p e below _ T2 (mkF m 43 #[rv b, iv 5, iv ch] [(.int ((ch >>> ((0 : Int32) &&& 31)).toInt8.toInt32)), (.int 4), (.ref b)])
  refine own_stB X2 hx hZ e2 Ab ⟨by decide, by decide⟩ 4 rfl (by show 4 < 6; decide) (hb hby d20_43) ?_
  intro T3 h3 X3 e3 W3 A3
  have O3 := hO.wr W3 gb
  have K3 := (Keep.refl h0 [b]).wr W3 (Or.inl (by simp))
  have N3 := Fr.snoc X3 N0 gb
  have A_b_3 : Arv Z h3 b kb .byte 6 [v0, v1, v2, v3, (.int (own_lo ch)), v5] dv := (by have q := A3; exact q)
  show own_Go p e below _ T3 (mkF m 44 #[rv b, iv 5, iv ch] [])
  refine og_aloadN X3 hx (hb hby d20_44) rfl rfl ?_
  refine og_iloadN X3 hx (hb hby d20_45) rfl ?_
  refine og_iloadN X3 hx (hb hby d20_46) rfl ?_
  refine og_getS X3 hx hZ hown (own_hw hw 94 rfl) Via.refl e3 (hU.2.2.ext O3.2) (hb hby d20_47) ?_
  intro T4 X4 e4
  show own_Go p e below _ T4 (mkF m 50 #[rv b, iv 5, iv ch] [(.int 8), (.int ch), (.int 5), (.ref b)])
  refine own_go (fun t k => XS.ishr X4.here hx rfl (hb hby d20_50) rfl k) ?_
  show own_Go p e below _ T4 (mkF m 51 #[rv b, iv 5, iv ch] [(.int (ch >>> ((8 : Int32) &&& 31))), (.int 5), (.ref b)])
  refine own_go (fun t k => XS.i2b X4.here hx rfl (hb hby d20_51) rfl k) ?_
  show own_Go p e below _ T4 (mkF m 52 #[rv b, iv 5, iv ch] [(.int ((ch >>> ((8 : Int32) &&& 31)).toInt8.toInt32)), (.int 5), (.ref b)])
  refine own_stB X4 hx hZ e4 A_b_3 ⟨by decide, by decide⟩ 5 rfl (by show 5 < 6; decide) (hb hby d20_52) ?_
  intro T5 h5 X5 e5 W5 A5
  have O5 := O3.wr W5 gb
  have K5 := K3.wr W5 (Or.inl (by simp))
  have N5 := Fr.snoc X5 N3 gb
  have A_b_5 : Arv Z h5 b kb .byte 6 [v0, v1, v2, v3, (.int (own_lo ch)), (.int (own_hi ch))] dv := (by have q := A5; exact q)
  show own_Go p e below _ T5 (mkF m 53 #[rv b, iv 5, iv ch] [])
  exact own_retV X5 hx hret hlk (hb hby d20_53) (by decide) (by decide) (by rw [e5]; exact ⟨rfl, N5, K5, A_b_5⟩)
theorem d21_0 : decode jdk_52_method_5_code 0 = .ok (.getstatic 44, 3) := by decide +kernel
theorem d21_3 : decode jdk_52_method_5_code 3 = .ok (.ifCond .ne 25, 3) := by decide +kernel
theorem d21_28 : decode jdk_52_method_5_code 28 = .ok (.iload_n 1, 1) := by decide +kernel
theorem d21_29 : decode jdk_52_method_5_code 29 = .ok (.iconst 1, 1) := by decide +kernel
theorem d21_30 : decode jdk_52_method_5_code 30 = .ok (.ishl, 1) := by decide +kernel
theorem d21_31 : decode jdk_52_method_5_code 31 = .ok (.istore_n 1, 1) := by decide +kernel
theorem d21_32 : decode jdk_52_method_5_code 32 = .ok (.aload_n 0, 1) := by decide +kernel
theorem d21_33 : decode jdk_52_method_5_code 33 = .ok (.iload_n 1, 1) := by decide +kernel
theorem d21_34 : decode jdk_52_method_5_code 34 = .ok (.iinc 1 1, 3) := by decide +kernel
theorem d21_37 : decode jdk_52_method_5_code 37 = .ok (.baload, 1) := by decide +kernel
theorem d21_38 : decode jdk_52_method_5_code 38 = .ok (.sipush 255, 3) := by decide +kernel
theorem d21_41 : decode jdk_52_method_5_code 41 = .ok (.iand, 1) := by decide +kernel
theorem d21_42 : decode jdk_52_method_5_code 42 = .ok (.getstatic 59, 3) := by decide +kernel
theorem d21_45 : decode jdk_52_method_5_code 45 = .ok (.ishl, 1) := by decide +kernel
theorem d21_46 : decode jdk_52_method_5_code 46 = .ok (.aload_n 0, 1) := by decide +kernel
theorem d21_47 : decode jdk_52_method_5_code 47 = .ok (.iload_n 1, 1) := by decide +kernel
theorem d21_48 : decode jdk_52_method_5_code 48 = .ok (.baload, 1) := by decide +kernel
theorem d21_49 : decode jdk_52_method_5_code 49 = .ok (.sipush 255, 3) := by decide +kernel
theorem d21_52 : decode jdk_52_method_5_code 52 = .ok (.iand, 1) := by decide +kernel
theorem d21_53 : decode jdk_52_method_5_code 53 = .ok (.getstatic 63, 3) := by decide +kernel
theorem d21_56 : decode jdk_52_method_5_code 56 = .ok (.ishl, 1) := by decide +kernel
theorem d21_57 : decode jdk_52_method_5_code 57 = .ok (.ior, 1) := by decide +kernel
theorem d21_58 : decode jdk_52_method_5_code 58 = .ok (.i2c, 1) := by decide +kernel
theorem d21_59 : decode jdk_52_method_5_code 59 = .ok (.ireturn, 1) := by decide +kernel
def own_r_own_gt_0_1 : Room := { frames := 0, cells := 0, slots := 0, locals := 0 }
theorem own_gt_0_1 (l : Launch) (Z : State) (a0 : Array Value) (hw : own_W a0 Z) (b : Addr) (kb : ClassId) (dv : Value) (ch : Int32) (h0 : Heap) (n0 : Nat) (hO : Old Z n0 h0) (hU : own_Us Z) (hc : own_R ch) (Ab : Arv Z h0 b kb .byte 2 [(.int (own_lo ch)), (.int (own_hi ch))] dv) :
    own_Met l Z (⟨"java/lang/StringUTF16", "getChar", "([BI)C"⟩ : MethodName) jdk_52_method_5_code 2 (some .char) own_r_own_gt_0_1 #[(.ref b), (.int 0)] h0 (own_Qv (some (.int ch)) h0 n0) := by
  refine own_body (by decide +kernel) ?_
  intro p e s m below meth c T0 X0 hx hZ hby hml hown hnm hret hlk e0
  have N0 := Fr.nil n0
  refine own_cast (own_frame (L := [rv b, iv 0]) (ls := #[rv b, iv 0]) rfl rfl) ?_
  refine og_getS X0 hx hZ hown (own_hw hw 92 rfl) Via.refl e0 (hU.1.ext hO.2) (hb hby d21_0) ?_
  intro T1 X1 e1
  show own_Go p e below _ T1 (mkF m 3 #[rv b, iv 0] [(.int 1)])
  refine og_ifY X1 hx 28 (hb hby d21_3) (feq (by decide)).2 (by decide) (by decide) ?_
  refine og_iloadN X1 hx (hb hby d21_28) rfl ?_
  refine og_iconst X1 hx (hb hby d21_29) ?_
  refine own_go (fun t k => XS.ishl X1.here hx rfl (hb hby d21_30) rfl k) ?_
  show own_Go p e below _ T1 (mkF m 31 #[rv b, iv 0] [(.int 0)])
  refine og_istoreN X1 hx #[rv b, iv 0] (hb hby d21_31) rfl ?_
  refine og_aloadN X1 hx (hb hby d21_32) rfl rfl ?_
  refine og_iloadN X1 hx (hb hby d21_33) rfl ?_
  refine own_go (fun t k => XS.iinc X1.here hx rfl (hb hby d21_34) rfl (l' := #[rv b, iv 1]) rfl k) ?_
  show own_Go p e below _ T1 (mkF m 37 #[rv b, iv 1] [(.int 0), (.ref b)])
  refine own_ldB X1 hx hZ e1 Ab ⟨by decide, by decide⟩ rfl (hb hby d21_37) ?_
  show own_Go p e below _ T1 (mkF m 38 #[rv b, iv 1] [(.int (own_lo ch))])
  refine og_sipush X1 hx (hb hby d21_38) ?_
  refine og_iand X1 hx (hb hby d21_41) ?_
  refine og_getS X1 hx hZ hown (own_hw hw 93 rfl) Via.refl e1 (hU.2.1.ext hO.2) (hb hby d21_42) ?_
  intro T2 X2 e2
  show own_Go p e below _ T2 (mkF m 45 #[rv b, iv 1] [(.int 0), (.int ((own_lo ch) &&& 255))])
  refine own_go (fun t k => XS.ishl X2.here hx rfl (hb hby d21_45) rfl k) ?_
  show own_Go p e below _ T2 (mkF m 46 #[rv b, iv 1] [(.int (((own_lo ch) &&& 255) <<< ((0 : Int32) &&& 31)))])
  refine og_aloadN X2 hx (hb hby d21_46) rfl rfl ?_
  refine og_iloadN X2 hx (hb hby d21_47) rfl ?_
  refine own_ldB X2 hx hZ e2 Ab ⟨by decide, by decide⟩ rfl (hb hby d21_48) ?_
  show own_Go p e below _ T2 (mkF m 49 #[rv b, iv 1] [(.int (own_hi ch)), (.int (((own_lo ch) &&& 255) <<< ((0 : Int32) &&& 31)))])
  refine og_sipush X2 hx (hb hby d21_49) ?_
  refine og_iand X2 hx (hb hby d21_52) ?_
  refine og_getS X2 hx hZ hown (own_hw hw 94 rfl) Via.refl e2 (hU.2.2.ext hO.2) (hb hby d21_53) ?_
  intro T3 X3 e3
  show own_Go p e below _ T3 (mkF m 56 #[rv b, iv 1] [(.int 8), (.int ((own_hi ch) &&& 255)), (.int (((own_lo ch) &&& 255) <<< ((0 : Int32) &&& 31)))])
  refine own_go (fun t k => XS.ishl X3.here hx rfl (hb hby d21_56) rfl k) ?_
  show own_Go p e below _ T3 (mkF m 57 #[rv b, iv 1] [(.int (((own_hi ch) &&& 255) <<< ((8 : Int32) &&& 31))), (.int (((own_lo ch) &&& 255) <<< ((0 : Int32) &&& 31)))])
  refine og_ior X3 hx (hb hby d21_57) ?_
  show own_Go p e below _ T3 (mkF m 58 #[rv b, iv 1] [(.int ((((own_lo ch) &&& 255) <<< ((0 : Int32) &&& 31)) ||| (((own_hi ch) &&& 255) <<< ((8 : Int32) &&& 31))))])
  show own_Go p e below _ T3 (mkF m 58 #[rv b, iv 1] [(.int (own_gc ch))])
  rw [own_get ch hc]
  show own_Go p e below _ T3 (mkF m 58 #[rv b, iv 1] [(.int ch)])
  refine own_go (fun t k => XS.i2c X3.here hx rfl (hb hby d21_58) rfl k) ?_
  show own_Go p e below _ T3 (mkF m 59 #[rv b, iv 1] [(.int (ch.toUInt32.toUInt16.toUInt32.toInt32))])
  rw [own_ic16 ch hc]
  show own_Go p e below _ T3 (mkF m 59 #[rv b, iv 1] [(.int ch)])
  exact own_retI X3 hx hret hlk (hb hby d21_59) (own_nc16 ch hc) (by simp) (by decide) (by decide) (⟨rfl, N0, e3⟩)
def own_r_own_gt_0_2 : Room := { frames := 0, cells := 0, slots := 0, locals := 0 }
theorem own_gt_0_2 (l : Launch) (Z : State) (a0 : Array Value) (hw : own_W a0 Z) (b : Addr) (kb : ClassId) (dv : Value) (ch : Int32) (v2 v3 : Value) (h0 : Heap) (n0 : Nat) (hO : Old Z n0 h0) (hU : own_Us Z) (hc : own_R ch) (Ab : Arv Z h0 b kb .byte 4 [(.int (own_lo ch)), (.int (own_hi ch)), v2, v3] dv) :
    own_Met l Z (⟨"java/lang/StringUTF16", "getChar", "([BI)C"⟩ : MethodName) jdk_52_method_5_code 2 (some .char) own_r_own_gt_0_2 #[(.ref b), (.int 0)] h0 (own_Qv (some (.int ch)) h0 n0) := by
  refine own_body (by decide +kernel) ?_
  intro p e s m below meth c T0 X0 hx hZ hby hml hown hnm hret hlk e0
  have N0 := Fr.nil n0
  refine own_cast (own_frame (L := [rv b, iv 0]) (ls := #[rv b, iv 0]) rfl rfl) ?_
  refine og_getS X0 hx hZ hown (own_hw hw 92 rfl) Via.refl e0 (hU.1.ext hO.2) (hb hby d21_0) ?_
  intro T1 X1 e1
  show own_Go p e below _ T1 (mkF m 3 #[rv b, iv 0] [(.int 1)])
  refine og_ifY X1 hx 28 (hb hby d21_3) (feq (by decide)).2 (by decide) (by decide) ?_
  refine og_iloadN X1 hx (hb hby d21_28) rfl ?_
  refine og_iconst X1 hx (hb hby d21_29) ?_
  refine own_go (fun t k => XS.ishl X1.here hx rfl (hb hby d21_30) rfl k) ?_
  show own_Go p e below _ T1 (mkF m 31 #[rv b, iv 0] [(.int 0)])
  refine og_istoreN X1 hx #[rv b, iv 0] (hb hby d21_31) rfl ?_
  refine og_aloadN X1 hx (hb hby d21_32) rfl rfl ?_
  refine og_iloadN X1 hx (hb hby d21_33) rfl ?_
  refine own_go (fun t k => XS.iinc X1.here hx rfl (hb hby d21_34) rfl (l' := #[rv b, iv 1]) rfl k) ?_
  show own_Go p e below _ T1 (mkF m 37 #[rv b, iv 1] [(.int 0), (.ref b)])
  refine own_ldB X1 hx hZ e1 Ab ⟨by decide, by decide⟩ rfl (hb hby d21_37) ?_
  show own_Go p e below _ T1 (mkF m 38 #[rv b, iv 1] [(.int (own_lo ch))])
  refine og_sipush X1 hx (hb hby d21_38) ?_
  refine og_iand X1 hx (hb hby d21_41) ?_
  refine og_getS X1 hx hZ hown (own_hw hw 93 rfl) Via.refl e1 (hU.2.1.ext hO.2) (hb hby d21_42) ?_
  intro T2 X2 e2
  show own_Go p e below _ T2 (mkF m 45 #[rv b, iv 1] [(.int 0), (.int ((own_lo ch) &&& 255))])
  refine own_go (fun t k => XS.ishl X2.here hx rfl (hb hby d21_45) rfl k) ?_
  show own_Go p e below _ T2 (mkF m 46 #[rv b, iv 1] [(.int (((own_lo ch) &&& 255) <<< ((0 : Int32) &&& 31)))])
  refine og_aloadN X2 hx (hb hby d21_46) rfl rfl ?_
  refine og_iloadN X2 hx (hb hby d21_47) rfl ?_
  refine own_ldB X2 hx hZ e2 Ab ⟨by decide, by decide⟩ rfl (hb hby d21_48) ?_
  show own_Go p e below _ T2 (mkF m 49 #[rv b, iv 1] [(.int (own_hi ch)), (.int (((own_lo ch) &&& 255) <<< ((0 : Int32) &&& 31)))])
  refine og_sipush X2 hx (hb hby d21_49) ?_
  refine og_iand X2 hx (hb hby d21_52) ?_
  refine og_getS X2 hx hZ hown (own_hw hw 94 rfl) Via.refl e2 (hU.2.2.ext hO.2) (hb hby d21_53) ?_
  intro T3 X3 e3
  show own_Go p e below _ T3 (mkF m 56 #[rv b, iv 1] [(.int 8), (.int ((own_hi ch) &&& 255)), (.int (((own_lo ch) &&& 255) <<< ((0 : Int32) &&& 31)))])
  refine own_go (fun t k => XS.ishl X3.here hx rfl (hb hby d21_56) rfl k) ?_
  show own_Go p e below _ T3 (mkF m 57 #[rv b, iv 1] [(.int (((own_hi ch) &&& 255) <<< ((8 : Int32) &&& 31))), (.int (((own_lo ch) &&& 255) <<< ((0 : Int32) &&& 31)))])
  refine og_ior X3 hx (hb hby d21_57) ?_
  show own_Go p e below _ T3 (mkF m 58 #[rv b, iv 1] [(.int ((((own_lo ch) &&& 255) <<< ((0 : Int32) &&& 31)) ||| (((own_hi ch) &&& 255) <<< ((8 : Int32) &&& 31))))])
  show own_Go p e below _ T3 (mkF m 58 #[rv b, iv 1] [(.int (own_gc ch))])
  rw [own_get ch hc]
  show own_Go p e below _ T3 (mkF m 58 #[rv b, iv 1] [(.int ch)])
  refine own_go (fun t k => XS.i2c X3.here hx rfl (hb hby d21_58) rfl k) ?_
  show own_Go p e below _ T3 (mkF m 59 #[rv b, iv 1] [(.int (ch.toUInt32.toUInt16.toUInt32.toInt32))])
  rw [own_ic16 ch hc]
  show own_Go p e below _ T3 (mkF m 59 #[rv b, iv 1] [(.int ch)])
  exact own_retI X3 hx hret hlk (hb hby d21_59) (own_nc16 ch hc) (by simp) (by decide) (by decide) (⟨rfl, N0, e3⟩)
def own_r_own_gt_1_2 : Room := { frames := 0, cells := 0, slots := 0, locals := 0 }
theorem own_gt_1_2 (l : Launch) (Z : State) (a0 : Array Value) (hw : own_W a0 Z) (b : Addr) (kb : ClassId) (dv : Value) (ch : Int32) (v0 v1 : Value) (h0 : Heap) (n0 : Nat) (hO : Old Z n0 h0) (hU : own_Us Z) (hc : own_R ch) (Ab : Arv Z h0 b kb .byte 4 [v0, v1, (.int (own_lo ch)), (.int (own_hi ch))] dv) :
    own_Met l Z (⟨"java/lang/StringUTF16", "getChar", "([BI)C"⟩ : MethodName) jdk_52_method_5_code 2 (some .char) own_r_own_gt_1_2 #[(.ref b), (.int 1)] h0 (own_Qv (some (.int ch)) h0 n0) := by
  refine own_body (by decide +kernel) ?_
  intro p e s m below meth c T0 X0 hx hZ hby hml hown hnm hret hlk e0
  have N0 := Fr.nil n0
  refine own_cast (own_frame (L := [rv b, iv 1]) (ls := #[rv b, iv 1]) rfl rfl) ?_
  refine og_getS X0 hx hZ hown (own_hw hw 92 rfl) Via.refl e0 (hU.1.ext hO.2) (hb hby d21_0) ?_
  intro T1 X1 e1
  show own_Go p e below _ T1 (mkF m 3 #[rv b, iv 1] [(.int 1)])
  refine og_ifY X1 hx 28 (hb hby d21_3) (feq (by decide)).2 (by decide) (by decide) ?_
  refine og_iloadN X1 hx (hb hby d21_28) rfl ?_
  refine og_iconst X1 hx (hb hby d21_29) ?_
  refine own_go (fun t k => XS.ishl X1.here hx rfl (hb hby d21_30) rfl k) ?_
  show own_Go p e below _ T1 (mkF m 31 #[rv b, iv 1] [(.int 2)])
  refine og_istoreN X1 hx #[rv b, iv 2] (hb hby d21_31) rfl ?_
  refine og_aloadN X1 hx (hb hby d21_32) rfl rfl ?_
  refine og_iloadN X1 hx (hb hby d21_33) rfl ?_
  refine own_go (fun t k => XS.iinc X1.here hx rfl (hb hby d21_34) rfl (l' := #[rv b, iv 3]) rfl k) ?_
  show own_Go p e below _ T1 (mkF m 37 #[rv b, iv 3] [(.int 2), (.ref b)])
  refine own_ldB X1 hx hZ e1 Ab ⟨by decide, by decide⟩ rfl (hb hby d21_37) ?_
  show own_Go p e below _ T1 (mkF m 38 #[rv b, iv 3] [(.int (own_lo ch))])
  refine og_sipush X1 hx (hb hby d21_38) ?_
  refine og_iand X1 hx (hb hby d21_41) ?_
  refine og_getS X1 hx hZ hown (own_hw hw 93 rfl) Via.refl e1 (hU.2.1.ext hO.2) (hb hby d21_42) ?_
  intro T2 X2 e2
  show own_Go p e below _ T2 (mkF m 45 #[rv b, iv 3] [(.int 0), (.int ((own_lo ch) &&& 255))])
  refine own_go (fun t k => XS.ishl X2.here hx rfl (hb hby d21_45) rfl k) ?_
  show own_Go p e below _ T2 (mkF m 46 #[rv b, iv 3] [(.int (((own_lo ch) &&& 255) <<< ((0 : Int32) &&& 31)))])
  refine og_aloadN X2 hx (hb hby d21_46) rfl rfl ?_
  refine og_iloadN X2 hx (hb hby d21_47) rfl ?_
  refine own_ldB X2 hx hZ e2 Ab ⟨by decide, by decide⟩ rfl (hb hby d21_48) ?_
  show own_Go p e below _ T2 (mkF m 49 #[rv b, iv 3] [(.int (own_hi ch)), (.int (((own_lo ch) &&& 255) <<< ((0 : Int32) &&& 31)))])
  refine og_sipush X2 hx (hb hby d21_49) ?_
  refine og_iand X2 hx (hb hby d21_52) ?_
  refine og_getS X2 hx hZ hown (own_hw hw 94 rfl) Via.refl e2 (hU.2.2.ext hO.2) (hb hby d21_53) ?_
  intro T3 X3 e3
  show own_Go p e below _ T3 (mkF m 56 #[rv b, iv 3] [(.int 8), (.int ((own_hi ch) &&& 255)), (.int (((own_lo ch) &&& 255) <<< ((0 : Int32) &&& 31)))])
  refine own_go (fun t k => XS.ishl X3.here hx rfl (hb hby d21_56) rfl k) ?_
  show own_Go p e below _ T3 (mkF m 57 #[rv b, iv 3] [(.int (((own_hi ch) &&& 255) <<< ((8 : Int32) &&& 31))), (.int (((own_lo ch) &&& 255) <<< ((0 : Int32) &&& 31)))])
  refine og_ior X3 hx (hb hby d21_57) ?_
  show own_Go p e below _ T3 (mkF m 58 #[rv b, iv 3] [(.int ((((own_lo ch) &&& 255) <<< ((0 : Int32) &&& 31)) ||| (((own_hi ch) &&& 255) <<< ((8 : Int32) &&& 31))))])
  show own_Go p e below _ T3 (mkF m 58 #[rv b, iv 3] [(.int (own_gc ch))])
  rw [own_get ch hc]
  show own_Go p e below _ T3 (mkF m 58 #[rv b, iv 3] [(.int ch)])
  refine own_go (fun t k => XS.i2c X3.here hx rfl (hb hby d21_58) rfl k) ?_
  show own_Go p e below _ T3 (mkF m 59 #[rv b, iv 3] [(.int (ch.toUInt32.toUInt16.toUInt32.toInt32))])
  rw [own_ic16 ch hc]
  show own_Go p e below _ T3 (mkF m 59 #[rv b, iv 3] [(.int ch)])
  exact own_retI X3 hx hret hlk (hb hby d21_59) (own_nc16 ch hc) (by simp) (by decide) (by decide) (⟨rfl, N0, e3⟩)
def own_r_own_gt_0_3 : Room := { frames := 0, cells := 0, slots := 0, locals := 0 }
theorem own_gt_0_3 (l : Launch) (Z : State) (a0 : Array Value) (hw : own_W a0 Z) (b : Addr) (kb : ClassId) (dv : Value) (ch : Int32) (v2 v3 v4 v5 : Value) (h0 : Heap) (n0 : Nat) (hO : Old Z n0 h0) (hU : own_Us Z) (hc : own_R ch) (Ab : Arv Z h0 b kb .byte 6 [(.int (own_lo ch)), (.int (own_hi ch)), v2, v3, v4, v5] dv) :
    own_Met l Z (⟨"java/lang/StringUTF16", "getChar", "([BI)C"⟩ : MethodName) jdk_52_method_5_code 2 (some .char) own_r_own_gt_0_3 #[(.ref b), (.int 0)] h0 (own_Qv (some (.int ch)) h0 n0) := by
  refine own_body (by decide +kernel) ?_
  intro p e s m below meth c T0 X0 hx hZ hby hml hown hnm hret hlk e0
  have N0 := Fr.nil n0
  refine own_cast (own_frame (L := [rv b, iv 0]) (ls := #[rv b, iv 0]) rfl rfl) ?_
  refine og_getS X0 hx hZ hown (own_hw hw 92 rfl) Via.refl e0 (hU.1.ext hO.2) (hb hby d21_0) ?_
  intro T1 X1 e1
  show own_Go p e below _ T1 (mkF m 3 #[rv b, iv 0] [(.int 1)])
  refine og_ifY X1 hx 28 (hb hby d21_3) (feq (by decide)).2 (by decide) (by decide) ?_
  refine og_iloadN X1 hx (hb hby d21_28) rfl ?_
  refine og_iconst X1 hx (hb hby d21_29) ?_
  refine own_go (fun t k => XS.ishl X1.here hx rfl (hb hby d21_30) rfl k) ?_
  show own_Go p e below _ T1 (mkF m 31 #[rv b, iv 0] [(.int 0)])
  refine og_istoreN X1 hx #[rv b, iv 0] (hb hby d21_31) rfl ?_
  refine og_aloadN X1 hx (hb hby d21_32) rfl rfl ?_
  refine og_iloadN X1 hx (hb hby d21_33) rfl ?_
  refine own_go (fun t k => XS.iinc X1.here hx rfl (hb hby d21_34) rfl (l' := #[rv b, iv 1]) rfl k) ?_
  show own_Go p e below _ T1 (mkF m 37 #[rv b, iv 1] [(.int 0), (.ref b)])
  refine own_ldB X1 hx hZ e1 Ab ⟨by decide, by decide⟩ rfl (hb hby d21_37) ?_
  show own_Go p e below _ T1 (mkF m 38 #[rv b, iv 1] [(.int (own_lo ch))])
  refine og_sipush X1 hx (hb hby d21_38) ?_
  refine og_iand X1 hx (hb hby d21_41) ?_
  refine og_getS X1 hx hZ hown (own_hw hw 93 rfl) Via.refl e1 (hU.2.1.ext hO.2) (hb hby d21_42) ?_
  intro T2 X2 e2
  show own_Go p e below _ T2 (mkF m 45 #[rv b, iv 1] [(.int 0), (.int ((own_lo ch) &&& 255))])
  refine own_go (fun t k => XS.ishl X2.here hx rfl (hb hby d21_45) rfl k) ?_
  show own_Go p e below _ T2 (mkF m 46 #[rv b, iv 1] [(.int (((own_lo ch) &&& 255) <<< ((0 : Int32) &&& 31)))])
  refine og_aloadN X2 hx (hb hby d21_46) rfl rfl ?_
  refine og_iloadN X2 hx (hb hby d21_47) rfl ?_
  refine own_ldB X2 hx hZ e2 Ab ⟨by decide, by decide⟩ rfl (hb hby d21_48) ?_
  show own_Go p e below _ T2 (mkF m 49 #[rv b, iv 1] [(.int (own_hi ch)), (.int (((own_lo ch) &&& 255) <<< ((0 : Int32) &&& 31)))])
  refine og_sipush X2 hx (hb hby d21_49) ?_
  refine og_iand X2 hx (hb hby d21_52) ?_
  refine og_getS X2 hx hZ hown (own_hw hw 94 rfl) Via.refl e2 (hU.2.2.ext hO.2) (hb hby d21_53) ?_
  intro T3 X3 e3
  show own_Go p e below _ T3 (mkF m 56 #[rv b, iv 1] [(.int 8), (.int ((own_hi ch) &&& 255)), (.int (((own_lo ch) &&& 255) <<< ((0 : Int32) &&& 31)))])
  refine own_go (fun t k => XS.ishl X3.here hx rfl (hb hby d21_56) rfl k) ?_
  show own_Go p e below _ T3 (mkF m 57 #[rv b, iv 1] [(.int (((own_hi ch) &&& 255) <<< ((8 : Int32) &&& 31))), (.int (((own_lo ch) &&& 255) <<< ((0 : Int32) &&& 31)))])
  refine og_ior X3 hx (hb hby d21_57) ?_
  show own_Go p e below _ T3 (mkF m 58 #[rv b, iv 1] [(.int ((((own_lo ch) &&& 255) <<< ((0 : Int32) &&& 31)) ||| (((own_hi ch) &&& 255) <<< ((8 : Int32) &&& 31))))])
  show own_Go p e below _ T3 (mkF m 58 #[rv b, iv 1] [(.int (own_gc ch))])
  rw [own_get ch hc]
  show own_Go p e below _ T3 (mkF m 58 #[rv b, iv 1] [(.int ch)])
  refine own_go (fun t k => XS.i2c X3.here hx rfl (hb hby d21_58) rfl k) ?_
  show own_Go p e below _ T3 (mkF m 59 #[rv b, iv 1] [(.int (ch.toUInt32.toUInt16.toUInt32.toInt32))])
  rw [own_ic16 ch hc]
  show own_Go p e below _ T3 (mkF m 59 #[rv b, iv 1] [(.int ch)])
  exact own_retI X3 hx hret hlk (hb hby d21_59) (own_nc16 ch hc) (by simp) (by decide) (by decide) (⟨rfl, N0, e3⟩)
def own_r_own_gt_1_3 : Room := { frames := 0, cells := 0, slots := 0, locals := 0 }
theorem own_gt_1_3 (l : Launch) (Z : State) (a0 : Array Value) (hw : own_W a0 Z) (b : Addr) (kb : ClassId) (dv : Value) (ch : Int32) (v0 v1 v4 v5 : Value) (h0 : Heap) (n0 : Nat) (hO : Old Z n0 h0) (hU : own_Us Z) (hc : own_R ch) (Ab : Arv Z h0 b kb .byte 6 [v0, v1, (.int (own_lo ch)), (.int (own_hi ch)), v4, v5] dv) :
    own_Met l Z (⟨"java/lang/StringUTF16", "getChar", "([BI)C"⟩ : MethodName) jdk_52_method_5_code 2 (some .char) own_r_own_gt_1_3 #[(.ref b), (.int 1)] h0 (own_Qv (some (.int ch)) h0 n0) := by
  refine own_body (by decide +kernel) ?_
  intro p e s m below meth c T0 X0 hx hZ hby hml hown hnm hret hlk e0
  have N0 := Fr.nil n0
  refine own_cast (own_frame (L := [rv b, iv 1]) (ls := #[rv b, iv 1]) rfl rfl) ?_
  refine og_getS X0 hx hZ hown (own_hw hw 92 rfl) Via.refl e0 (hU.1.ext hO.2) (hb hby d21_0) ?_
  intro T1 X1 e1
  show own_Go p e below _ T1 (mkF m 3 #[rv b, iv 1] [(.int 1)])
  refine og_ifY X1 hx 28 (hb hby d21_3) (feq (by decide)).2 (by decide) (by decide) ?_
  refine og_iloadN X1 hx (hb hby d21_28) rfl ?_
  refine og_iconst X1 hx (hb hby d21_29) ?_
  refine own_go (fun t k => XS.ishl X1.here hx rfl (hb hby d21_30) rfl k) ?_
  show own_Go p e below _ T1 (mkF m 31 #[rv b, iv 1] [(.int 2)])
  refine og_istoreN X1 hx #[rv b, iv 2] (hb hby d21_31) rfl ?_
  refine og_aloadN X1 hx (hb hby d21_32) rfl rfl ?_
  refine og_iloadN X1 hx (hb hby d21_33) rfl ?_
  refine own_go (fun t k => XS.iinc X1.here hx rfl (hb hby d21_34) rfl (l' := #[rv b, iv 3]) rfl k) ?_
  show own_Go p e below _ T1 (mkF m 37 #[rv b, iv 3] [(.int 2), (.ref b)])
  refine own_ldB X1 hx hZ e1 Ab ⟨by decide, by decide⟩ rfl (hb hby d21_37) ?_
  show own_Go p e below _ T1 (mkF m 38 #[rv b, iv 3] [(.int (own_lo ch))])
  refine og_sipush X1 hx (hb hby d21_38) ?_
  refine og_iand X1 hx (hb hby d21_41) ?_
  refine og_getS X1 hx hZ hown (own_hw hw 93 rfl) Via.refl e1 (hU.2.1.ext hO.2) (hb hby d21_42) ?_
  intro T2 X2 e2
  show own_Go p e below _ T2 (mkF m 45 #[rv b, iv 3] [(.int 0), (.int ((own_lo ch) &&& 255))])
  refine own_go (fun t k => XS.ishl X2.here hx rfl (hb hby d21_45) rfl k) ?_
  show own_Go p e below _ T2 (mkF m 46 #[rv b, iv 3] [(.int (((own_lo ch) &&& 255) <<< ((0 : Int32) &&& 31)))])
  refine og_aloadN X2 hx (hb hby d21_46) rfl rfl ?_
  refine og_iloadN X2 hx (hb hby d21_47) rfl ?_
  refine own_ldB X2 hx hZ e2 Ab ⟨by decide, by decide⟩ rfl (hb hby d21_48) ?_
  show own_Go p e below _ T2 (mkF m 49 #[rv b, iv 3] [(.int (own_hi ch)), (.int (((own_lo ch) &&& 255) <<< ((0 : Int32) &&& 31)))])
  refine og_sipush X2 hx (hb hby d21_49) ?_
  refine og_iand X2 hx (hb hby d21_52) ?_
  refine og_getS X2 hx hZ hown (own_hw hw 94 rfl) Via.refl e2 (hU.2.2.ext hO.2) (hb hby d21_53) ?_
  intro T3 X3 e3
  show own_Go p e below _ T3 (mkF m 56 #[rv b, iv 3] [(.int 8), (.int ((own_hi ch) &&& 255)), (.int (((own_lo ch) &&& 255) <<< ((0 : Int32) &&& 31)))])
  refine own_go (fun t k => XS.ishl X3.here hx rfl (hb hby d21_56) rfl k) ?_
  show own_Go p e below _ T3 (mkF m 57 #[rv b, iv 3] [(.int (((own_hi ch) &&& 255) <<< ((8 : Int32) &&& 31))), (.int (((own_lo ch) &&& 255) <<< ((0 : Int32) &&& 31)))])
  refine og_ior X3 hx (hb hby d21_57) ?_
  show own_Go p e below _ T3 (mkF m 58 #[rv b, iv 3] [(.int ((((own_lo ch) &&& 255) <<< ((0 : Int32) &&& 31)) ||| (((own_hi ch) &&& 255) <<< ((8 : Int32) &&& 31))))])
  show own_Go p e below _ T3 (mkF m 58 #[rv b, iv 3] [(.int (own_gc ch))])
  rw [own_get ch hc]
  show own_Go p e below _ T3 (mkF m 58 #[rv b, iv 3] [(.int ch)])
  refine own_go (fun t k => XS.i2c X3.here hx rfl (hb hby d21_58) rfl k) ?_
  show own_Go p e below _ T3 (mkF m 59 #[rv b, iv 3] [(.int (ch.toUInt32.toUInt16.toUInt32.toInt32))])
  rw [own_ic16 ch hc]
  show own_Go p e below _ T3 (mkF m 59 #[rv b, iv 3] [(.int ch)])
  exact own_retI X3 hx hret hlk (hb hby d21_59) (own_nc16 ch hc) (by simp) (by decide) (by decide) (⟨rfl, N0, e3⟩)
def own_r_own_gt_2_3 : Room := { frames := 0, cells := 0, slots := 0, locals := 0 }
theorem own_gt_2_3 (l : Launch) (Z : State) (a0 : Array Value) (hw : own_W a0 Z) (b : Addr) (kb : ClassId) (dv : Value) (ch : Int32) (v0 v1 v2 v3 : Value) (h0 : Heap) (n0 : Nat) (hO : Old Z n0 h0) (hU : own_Us Z) (hc : own_R ch) (Ab : Arv Z h0 b kb .byte 6 [v0, v1, v2, v3, (.int (own_lo ch)), (.int (own_hi ch))] dv) :
    own_Met l Z (⟨"java/lang/StringUTF16", "getChar", "([BI)C"⟩ : MethodName) jdk_52_method_5_code 2 (some .char) own_r_own_gt_2_3 #[(.ref b), (.int 2)] h0 (own_Qv (some (.int ch)) h0 n0) := by
  refine own_body (by decide +kernel) ?_
  intro p e s m below meth c T0 X0 hx hZ hby hml hown hnm hret hlk e0
  have N0 := Fr.nil n0
  refine own_cast (own_frame (L := [rv b, iv 2]) (ls := #[rv b, iv 2]) rfl rfl) ?_
  refine og_getS X0 hx hZ hown (own_hw hw 92 rfl) Via.refl e0 (hU.1.ext hO.2) (hb hby d21_0) ?_
  intro T1 X1 e1
  show own_Go p e below _ T1 (mkF m 3 #[rv b, iv 2] [(.int 1)])
  refine og_ifY X1 hx 28 (hb hby d21_3) (feq (by decide)).2 (by decide) (by decide) ?_
  refine og_iloadN X1 hx (hb hby d21_28) rfl ?_
  refine og_iconst X1 hx (hb hby d21_29) ?_
  refine own_go (fun t k => XS.ishl X1.here hx rfl (hb hby d21_30) rfl k) ?_
  show own_Go p e below _ T1 (mkF m 31 #[rv b, iv 2] [(.int 4)])
  refine og_istoreN X1 hx #[rv b, iv 4] (hb hby d21_31) rfl ?_
  refine og_aloadN X1 hx (hb hby d21_32) rfl rfl ?_
  refine og_iloadN X1 hx (hb hby d21_33) rfl ?_
  refine own_go (fun t k => XS.iinc X1.here hx rfl (hb hby d21_34) rfl (l' := #[rv b, iv 5]) rfl k) ?_
  show own_Go p e below _ T1 (mkF m 37 #[rv b, iv 5] [(.int 4), (.ref b)])
  refine own_ldB X1 hx hZ e1 Ab ⟨by decide, by decide⟩ rfl (hb hby d21_37) ?_
  show own_Go p e below _ T1 (mkF m 38 #[rv b, iv 5] [(.int (own_lo ch))])
  refine og_sipush X1 hx (hb hby d21_38) ?_
  refine og_iand X1 hx (hb hby d21_41) ?_
  refine og_getS X1 hx hZ hown (own_hw hw 93 rfl) Via.refl e1 (hU.2.1.ext hO.2) (hb hby d21_42) ?_
  intro T2 X2 e2
  show own_Go p e below _ T2 (mkF m 45 #[rv b, iv 5] [(.int 0), (.int ((own_lo ch) &&& 255))])
  refine own_go (fun t k => XS.ishl X2.here hx rfl (hb hby d21_45) rfl k) ?_
  show own_Go p e below _ T2 (mkF m 46 #[rv b, iv 5] [(.int (((own_lo ch) &&& 255) <<< ((0 : Int32) &&& 31)))])
  refine og_aloadN X2 hx (hb hby d21_46) rfl rfl ?_
  refine og_iloadN X2 hx (hb hby d21_47) rfl ?_
  refine own_ldB X2 hx hZ e2 Ab ⟨by decide, by decide⟩ rfl (hb hby d21_48) ?_
  show own_Go p e below _ T2 (mkF m 49 #[rv b, iv 5] [(.int (own_hi ch)), (.int (((own_lo ch) &&& 255) <<< ((0 : Int32) &&& 31)))])
  refine og_sipush X2 hx (hb hby d21_49) ?_
  refine og_iand X2 hx (hb hby d21_52) ?_
  refine og_getS X2 hx hZ hown (own_hw hw 94 rfl) Via.refl e2 (hU.2.2.ext hO.2) (hb hby d21_53) ?_
  intro T3 X3 e3
  show own_Go p e below _ T3 (mkF m 56 #[rv b, iv 5] [(.int 8), (.int ((own_hi ch) &&& 255)), (.int (((own_lo ch) &&& 255) <<< ((0 : Int32) &&& 31)))])
  refine own_go (fun t k => XS.ishl X3.here hx rfl (hb hby d21_56) rfl k) ?_
  show own_Go p e below _ T3 (mkF m 57 #[rv b, iv 5] [(.int (((own_hi ch) &&& 255) <<< ((8 : Int32) &&& 31))), (.int (((own_lo ch) &&& 255) <<< ((0 : Int32) &&& 31)))])
  refine og_ior X3 hx (hb hby d21_57) ?_
  show own_Go p e below _ T3 (mkF m 58 #[rv b, iv 5] [(.int ((((own_lo ch) &&& 255) <<< ((0 : Int32) &&& 31)) ||| (((own_hi ch) &&& 255) <<< ((8 : Int32) &&& 31))))])
  show own_Go p e below _ T3 (mkF m 58 #[rv b, iv 5] [(.int (own_gc ch))])
  rw [own_get ch hc]
  show own_Go p e below _ T3 (mkF m 58 #[rv b, iv 5] [(.int ch)])
  refine own_go (fun t k => XS.i2c X3.here hx rfl (hb hby d21_58) rfl k) ?_
  show own_Go p e below _ T3 (mkF m 59 #[rv b, iv 5] [(.int (ch.toUInt32.toUInt16.toUInt32.toInt32))])
  rw [own_ic16 ch hc]
  show own_Go p e below _ T3 (mkF m 59 #[rv b, iv 5] [(.int ch)])
  exact own_retI X3 hx hret hlk (hb hby d21_59) (own_nc16 ch hc) (by simp) (by decide) (by decide) (⟨rfl, N0, e3⟩)
def own_Qb (Z : State) (NN : Int32) (vs : List Value) (h0 : Heap) (n0 : Nat) (v : Option Value) (h : Heap) (L : List Loc) : Prop := ∃ (b : Addr) (k : ClassId), v = some (.ref b) ∧ Fr n0 L ∧ Keep h0 h [] ∧ h0.size ≤ b ∧ n0 ≤ b ∧ Arv Z h b k .byte NN vs (.int (0 : Int32))
theorem d19_0 : decode jdk_52_method_3_code 0 = .ok (.iload_n 0, 1) := by decide +kernel
theorem d19_1 : decode jdk_52_method_3_code 1 = .ok (.ifCond .ge 11, 3) := by decide +kernel
theorem d19_12 : decode jdk_52_method_3_code 12 = .ok (.iload_n 0, 1) := by decide +kernel
theorem d19_13 : decode jdk_52_method_3_code 13 = .ok (.ldc 20, 2) := by decide +kernel
theorem d19_15 : decode jdk_52_method_3_code 15 = .ok (.if_icmp .lt 40, 3) := by decide +kernel
theorem d19_55 : decode jdk_52_method_3_code 55 = .ok (.iload_n 0, 1) := by decide +kernel
theorem d19_56 : decode jdk_52_method_3_code 56 = .ok (.iconst 1, 1) := by decide +kernel
theorem d19_57 : decode jdk_52_method_3_code 57 = .ok (.ishl, 1) := by decide +kernel
theorem d19_58 : decode jdk_52_method_3_code 58 = .ok (.ireturn, 1) := by decide +kernel
def own_r_own_nbl1 : Room := { frames := 0, cells := 0, slots := 0, locals := 0 }
theorem own_nbl1 (l : Launch) (Z : State) (a0 : Array Value) (hw : own_W a0 Z)  (h0 : Heap) (n0 : Nat)  :
    own_Met l Z (⟨"java/lang/StringUTF16", "newBytesLength", "(I)I"⟩ : MethodName) jdk_52_method_3_code 1 (some .int) own_r_own_nbl1 #[(.int 1)] h0 (own_Qv (some (.int 2)) h0 n0) := by
  refine own_body (by decide +kernel) ?_
  intro p e s m below meth c T0 X0 hx hZ hby hml hown hnm hret hlk e0
  have N0 := Fr.nil n0
  refine own_cast (own_frame (L := [iv 1]) (ls := #[iv 1]) rfl rfl) ?_
  refine og_iloadN X0 hx (hb hby d19_0) rfl ?_
  refine og_ifY X0 hx 12 (hb hby d19_1) (flt (by decide)).2.1 (by decide) (by decide) ?_
  refine og_iloadN X0 hx (hb hby d19_12) rfl ?_
  refine og_ldcI X0 hx hZ hown (own_hw hw 88 rfl) (hb hby d19_13) ?_
  show own_Go p e below _ T0 (mkF m 15 #[iv 1] [(.int 1073741823), (.int 1)])
  refine og_icY X0 hx 55 (hb hby d19_15) (tlt (by decide)).1 (by decide) (by decide) ?_
  refine og_iloadN X0 hx (hb hby d19_55) rfl ?_
  refine og_iconst X0 hx (hb hby d19_56) ?_
  refine own_go (fun t k => XS.ishl X0.here hx rfl (hb hby d19_57) rfl k) ?_
  show own_Go p e below _ T0 (mkF m 58 #[iv 1] [(.int 2)])
  exact own_retI X0 hx hret hlk (hb hby d19_58) rfl (by simp) (by decide) (by decide) (⟨rfl, N0, e0⟩)
theorem d18_0 : decode jdk_52_method_2_code 0 = .ok (.iload_n 0, 1) := by decide +kernel
theorem d18_1 : decode jdk_52_method_2_code 1 = .ok (.invokestatic 11, 3) := by decide +kernel
theorem d18_4 : decode jdk_52_method_2_code 4 = .ok (.newarray .byte, 2) := by decide +kernel
theorem d18_6 : decode jdk_52_method_2_code 6 = .ok (.areturn, 1) := by decide +kernel
theorem own_pd49053 : parseMethodDescriptor "(I)I" = some ⟨[.int], some .int⟩ := by decide +kernel
def own_r_own_nbf1 : Room := { frames := 1, cells := 1, slots := 2, locals := 12 }
theorem own_nbf1 (l : Launch) (Z : State) (a0 : Array Value) (hw : own_W a0 Z)  (h0 : Heap) (n0 : Nat) (hO : Old Z n0 h0) :
    own_Met l Z (⟨"java/lang/StringUTF16", "newBytesFor", "(I)[B"⟩ : MethodName) jdk_52_method_2_code 1 (some (.array .byte)) own_r_own_nbf1 #[(.int 1)] h0 (own_Qb Z 2 [(.int (0 : Int32)), (.int (0 : Int32))] h0 n0) := by
  refine own_body (by decide +kernel) ?_
  intro p e s m below meth c T0 X0 hx hZ hby hml hown hnm hret hlk e0
  have N0 := Fr.nil n0
  refine own_cast (own_frame (L := [iv 1]) (ls := #[iv 1]) rfl rfl) ?_
  refine og_iloadN X0 hx (hb hby d18_0) rfl ?_
  refine own_callS X0 hx hZ hown (own_hw hw 85 rfl) (own_hw hw 86 rfl) (own_hw hw 21 rfl) (own_hw hw 87 rfl) (by decide) (argsL := [(.int 1)]) (rest := []) (own_nbl1 l Z a0 hw h0 n0) e0 (by rw [hml]; rfl) (lenOf own_pd49053 rfl) rfl (hb hby d18_1) (W := 0) (Nat.le_of_eq rfl) (by decide) ?_
  intro v1 T1 L1 X1 q1
  obtain ⟨rfl, N1q, e1⟩ := q1
  have N1 := Fr.app N0 N1q
  show own_Go p e below _ T1 (mkF m 4 #[iv 1] [(.int 2)])
  refine own_newP X1 hx hZ (own_hw hw 23 rfl) e1 (hb hby d18_4) (by decide) 2 (by decide) (by decide) (by decide) (by decide) ?_
  intro T2 h2 k2 b2 g2 X2 e2 E2 A2
  have ge_b2 : n0 ≤ b2 := Nat.le_trans (own_oldle hO) (Nat.le_of_eq g2.symm)
  have sz_b2 : h0.size ≤ b2 := Nat.le_trans (Keep.refl h0 []).1 (Nat.le_of_eq g2.symm)
  have O2 := hO.ext E2
  have K2 := (Keep.refl h0 []).ext E2
  have A_b2_2 : Arv Z h2 b2 k2 .byte 2 [(.int (0 : Int32)), (.int (0 : Int32))] (.int (0 : Int32)) := A2
  show own_Go p e below _ T2 (mkF m 6 #[iv 1] [(.ref b2)])
  exact own_retA X2 hx hret hlk (hb hby d18_6) rfl rfl (by decide) (by decide) (by rw [e2]; exact ⟨b2, _, rfl, N1, K2, sz_b2, ge_b2, A_b2_2⟩)
theorem d17_0 : decode jdk_52_method_14_code 0 = .ok (.iload_n 2, 1) := by decide +kernel
theorem d17_1 : decode jdk_52_method_14_code 1 = .ok (.invokestatic 107, 3) := by decide +kernel
theorem d17_4 : decode jdk_52_method_14_code 4 = .ok (.astore_n 3, 1) := by decide +kernel
theorem d17_5 : decode jdk_52_method_14_code 5 = .ok (.iconst 0, 1) := by decide +kernel
theorem d17_6 : decode jdk_52_method_14_code 6 = .ok (.istore 4, 2) := by decide +kernel
theorem d17_8 : decode jdk_52_method_14_code 8 = .ok (.iload 4, 2) := by decide +kernel
theorem d17_10 : decode jdk_52_method_14_code 10 = .ok (.iload_n 2, 1) := by decide +kernel
theorem d17_11 : decode jdk_52_method_14_code 11 = .ok (.if_icmp .ge 21, 3) := by decide +kernel
theorem d17_14 : decode jdk_52_method_14_code 14 = .ok (.aload_n 3, 1) := by decide +kernel
theorem d17_15 : decode jdk_52_method_14_code 15 = .ok (.iload 4, 2) := by decide +kernel
theorem d17_17 : decode jdk_52_method_14_code 17 = .ok (.aload_n 0, 1) := by decide +kernel
theorem d17_18 : decode jdk_52_method_14_code 18 = .ok (.iload_n 1, 1) := by decide +kernel
theorem d17_19 : decode jdk_52_method_14_code 19 = .ok (.caload, 1) := by decide +kernel
theorem d17_20 : decode jdk_52_method_14_code 20 = .ok (.invokestatic 111, 3) := by decide +kernel
theorem d17_23 : decode jdk_52_method_14_code 23 = .ok (.iinc 1 1, 3) := by decide +kernel
theorem d17_26 : decode jdk_52_method_14_code 26 = .ok (.iinc 4 1, 3) := by decide +kernel
theorem d17_29 : decode jdk_52_method_14_code 29 = .ok (.goto (-21), 3) := by decide +kernel
theorem d17_32 : decode jdk_52_method_14_code 32 = .ok (.aload_n 3, 1) := by decide +kernel
theorem d17_33 : decode jdk_52_method_14_code 33 = .ok (.areturn, 1) := by decide +kernel
theorem own_pd41379 : parseMethodDescriptor "(I)[B" = some ⟨[.int], some (.array .byte)⟩ := by decide +kernel
theorem own_pd52394 : parseMethodDescriptor "([BII)V" = some ⟨[(.array .byte), .int, .int], none⟩ := by decide +kernel
def own_r_own_tb1 : Room := { frames := 2, cells := 1, slots := 2, locals := 24 }
theorem own_tb1 (l : Launch) (Z : State) (a0 : Array Value) (hw : own_W a0 Z) (ca : Addr) (kc : ClassId) (dc : Value) (c0 : Int32) (h0 : Heap) (n0 : Nat) (hO : Old Z n0 h0) (hU : own_Us Z) (Ac : Arv Z h0 ca kc .char 1 [(.int c0)] dc) :
    own_Met l Z (⟨"java/lang/StringUTF16", "toBytes", "([CII)[B"⟩ : MethodName) jdk_52_method_14_code 5 (some (.array .byte)) own_r_own_tb1 #[(.ref ca), (.int 0), (.int 1)] h0 (own_Qb Z 2 [(.int (own_lo c0)), (.int (own_hi c0))] h0 n0) := by
  refine own_body (by decide +kernel) ?_
  intro p e s m below meth c T0 X0 hx hZ hby hml hown hnm hret hlk e0
  have N0 := Fr.nil n0
  refine own_cast (own_frame (L := [rv ca, iv 0, iv 1]) (ls := #[rv ca, iv 0, iv 1, .unset, .unset]) rfl rfl) ?_
  refine og_iloadN X0 hx (hb hby d17_0) rfl ?_
  refine own_callS X0 hx hZ hown (own_hw hw 82 rfl) (own_hw hw 83 rfl) (own_hw hw 21 rfl) (own_hw hw 84 rfl) (by decide) (argsL := [(.int 1)]) (rest := []) (own_nbf1 l Z a0 hw h0 n0 hO) e0 (by rw [hml]; rfl) (lenOf own_pd41379 rfl) rfl (hb hby d17_1) (W := 0) (Nat.le_of_eq rfl) (by decide) ?_
  intro v1 T1 L1 X1 q1
  obtain ⟨b1, k1, rfl, N1q, K1q, z1q, g1q, A1q⟩ := q1
  have N1 := Fr.app N0 N1q
  have ne_ca_b1 : ca ≠ b1 := Nat.ne_of_lt (Nat.lt_of_lt_of_le Ac.lt z1q)
  have sz_b1 : h0.size ≤ b1 := Nat.le_trans (Keep.refl h0 []).1 z1q
  have A_ca_1 := Ac.keep K1q nin0
  have O1 := hO.keep K1q all0
  have K1 := (Keep.refl h0 []).trans K1q all0
  show own_Go p e below _ T1 (mkF m 4 #[rv ca, iv 0, iv 1, .unset, .unset] [(.ref b1)])
  refine og_astoreN X1 hx #[rv ca, iv 0, iv 1, rv b1, .unset] (hb hby d17_4) rfl rfl ?_
  refine og_iconst X1 hx (hb hby d17_5) ?_
  refine og_istore X1 hx #[rv ca, iv 0, iv 1, rv b1, iv 0] (hb hby d17_6) rfl ?_
  refine og_iload X1 hx (hb hby d17_8) rfl ?_
  refine og_iloadN X1 hx (hb hby d17_10) rfl ?_
  refine og_icN X1 hx (hb hby d17_11) (tlt (by decide)).2.1 ?_
  refine og_aloadN X1 hx (hb hby d17_14) rfl rfl ?_
  refine og_iload X1 hx (hb hby d17_15) rfl ?_
  refine og_aloadN X1 hx (hb hby d17_17) rfl rfl ?_
  refine og_iloadN X1 hx (hb hby d17_18) rfl ?_
  refine own_ldC X1 hx hZ rfl A_ca_1 ⟨by decide, by decide⟩ rfl (hb hby d17_19) ?_
  show own_Go p e below _ T1 (mkF m 20 #[rv ca, iv 0, iv 1, rv b1, iv 0] [(.int c0), (.int 0), (.ref b1)])
  refine own_callS X1 hx hZ hown (own_hw hw 89 rfl) (own_hw hw 90 rfl) (own_hw hw 21 rfl) (own_hw hw 91 rfl) (by decide) (argsL := [(.ref b1), (.int 0), (.int c0)]) (rest := []) (own_pc_0_1 l Z a0 hw b1 _ _ c0 (.int (0 : Int32)) (.int (0 : Int32)) T1.heap n0 O1 hU g1q A1q) rfl (by rw [hml]; rfl) (lenOf own_pd52394 rfl) rfl (hb hby d17_20) (W := 0) (Nat.le_of_eq rfl) (by decide) ?_
  intro v2 T2 L2 X2 q2
  obtain ⟨rfl, N2q, K2q, A2q⟩ := q2
  have N2 := Fr.app N1 N2q
  have A_ca_2 := A_ca_1.keep K2q (ninS ne_ca_b1 nin0)
  have O2 := O1.keep K2q (allS g1q all0)
  have K2 := K1.trans K2q (allS (Or.inr sz_b1) all0)
  show own_Go p e below _ T2 (mkF m 23 #[rv ca, iv 0, iv 1, rv b1, iv 0] [])
  refine own_go (fun t k => XS.iinc X2.here hx rfl (hb hby d17_23) rfl (l' := #[rv ca, iv 1, iv 1, rv b1, iv 0]) rfl k) ?_
  show own_Go p e below _ T2 (mkF m 26 #[rv ca, iv 1, iv 1, rv b1, iv 0] [])
  refine own_go (fun t k => XS.iinc X2.here hx rfl (hb hby d17_26) rfl (l' := #[rv ca, iv 1, iv 1, rv b1, iv 1]) rfl k) ?_
  show own_Go p e below _ T2 (mkF m 29 #[rv ca, iv 1, iv 1, rv b1, iv 1] [])
  refine og_goto X2 hx 8 (hb hby d17_29) (by decide) (by decide) ?_
  refine og_iload X2 hx (hb hby d17_8) rfl ?_
  refine og_iloadN X2 hx (hb hby d17_10) rfl ?_
  refine og_icY X2 hx 32 (hb hby d17_11) (flt (by decide)).2.1 (by decide) (by decide) ?_
  refine og_aloadN X2 hx (hb hby d17_32) rfl rfl ?_
  exact own_retA X2 hx hret hlk (hb hby d17_33) rfl rfl (by decide) (by decide) (⟨b1, _, rfl, N2, K2, sz_b1, g1q, A2q⟩)
def own_r_own_nbl2 : Room := { frames := 0, cells := 0, slots := 0, locals := 0 }
theorem own_nbl2 (l : Launch) (Z : State) (a0 : Array Value) (hw : own_W a0 Z)  (h0 : Heap) (n0 : Nat)  :
    own_Met l Z (⟨"java/lang/StringUTF16", "newBytesLength", "(I)I"⟩ : MethodName) jdk_52_method_3_code 1 (some .int) own_r_own_nbl2 #[(.int 2)] h0 (own_Qv (some (.int 4)) h0 n0) := by
  refine own_body (by decide +kernel) ?_
  intro p e s m below meth c T0 X0 hx hZ hby hml hown hnm hret hlk e0
  have N0 := Fr.nil n0
  refine own_cast (own_frame (L := [iv 2]) (ls := #[iv 2]) rfl rfl) ?_
  refine og_iloadN X0 hx (hb hby d19_0) rfl ?_
  refine og_ifY X0 hx 12 (hb hby d19_1) (flt (by decide)).2.1 (by decide) (by decide) ?_
  refine og_iloadN X0 hx (hb hby d19_12) rfl ?_
  refine og_ldcI X0 hx hZ hown (own_hw hw 88 rfl) (hb hby d19_13) ?_
  show own_Go p e below _ T0 (mkF m 15 #[iv 2] [(.int 1073741823), (.int 2)])
  refine og_icY X0 hx 55 (hb hby d19_15) (tlt (by decide)).1 (by decide) (by decide) ?_
  refine og_iloadN X0 hx (hb hby d19_55) rfl ?_
  refine og_iconst X0 hx (hb hby d19_56) ?_
  refine own_go (fun t k => XS.ishl X0.here hx rfl (hb hby d19_57) rfl k) ?_
  show own_Go p e below _ T0 (mkF m 58 #[iv 2] [(.int 4)])
  exact own_retI X0 hx hret hlk (hb hby d19_58) rfl (by simp) (by decide) (by decide) (⟨rfl, N0, e0⟩)
def own_r_own_nbf2 : Room := { frames := 1, cells := 1, slots := 4, locals := 12 }
theorem own_nbf2 (l : Launch) (Z : State) (a0 : Array Value) (hw : own_W a0 Z)  (h0 : Heap) (n0 : Nat) (hO : Old Z n0 h0) :
    own_Met l Z (⟨"java/lang/StringUTF16", "newBytesFor", "(I)[B"⟩ : MethodName) jdk_52_method_2_code 1 (some (.array .byte)) own_r_own_nbf2 #[(.int 2)] h0 (own_Qb Z 4 [(.int (0 : Int32)), (.int (0 : Int32)), (.int (0 : Int32)), (.int (0 : Int32))] h0 n0) := by
  refine own_body (by decide +kernel) ?_
  intro p e s m below meth c T0 X0 hx hZ hby hml hown hnm hret hlk e0
  have N0 := Fr.nil n0
  refine own_cast (own_frame (L := [iv 2]) (ls := #[iv 2]) rfl rfl) ?_
  refine og_iloadN X0 hx (hb hby d18_0) rfl ?_
  refine own_callS X0 hx hZ hown (own_hw hw 85 rfl) (own_hw hw 86 rfl) (own_hw hw 21 rfl) (own_hw hw 87 rfl) (by decide) (argsL := [(.int 2)]) (rest := []) (own_nbl2 l Z a0 hw h0 n0) e0 (by rw [hml]; rfl) (lenOf own_pd49053 rfl) rfl (hb hby d18_1) (W := 0) (Nat.le_of_eq rfl) (by decide) ?_
  intro v1 T1 L1 X1 q1
  obtain ⟨rfl, N1q, e1⟩ := q1
  have N1 := Fr.app N0 N1q
  show own_Go p e below _ T1 (mkF m 4 #[iv 2] [(.int 4)])
  refine own_newP X1 hx hZ (own_hw hw 23 rfl) e1 (hb hby d18_4) (by decide) 4 (by decide) (by decide) (by decide) (by decide) ?_
  intro T2 h2 k2 b2 g2 X2 e2 E2 A2
  have ge_b2 : n0 ≤ b2 := Nat.le_trans (own_oldle hO) (Nat.le_of_eq g2.symm)
  have sz_b2 : h0.size ≤ b2 := Nat.le_trans (Keep.refl h0 []).1 (Nat.le_of_eq g2.symm)
  have O2 := hO.ext E2
  have K2 := (Keep.refl h0 []).ext E2
  have A_b2_2 : Arv Z h2 b2 k2 .byte 4 [(.int (0 : Int32)), (.int (0 : Int32)), (.int (0 : Int32)), (.int (0 : Int32))] (.int (0 : Int32)) := A2
  show own_Go p e below _ T2 (mkF m 6 #[iv 2] [(.ref b2)])
  exact own_retA X2 hx hret hlk (hb hby d18_6) rfl rfl (by decide) (by decide) (by rw [e2]; exact ⟨b2, _, rfl, N1, K2, sz_b2, ge_b2, A_b2_2⟩)
def own_r_own_tb2 : Room := { frames := 2, cells := 1, slots := 4, locals := 24 }
theorem own_tb2 (l : Launch) (Z : State) (a0 : Array Value) (hw : own_W a0 Z) (ca : Addr) (kc : ClassId) (dc : Value) (c0 c1 : Int32) (h0 : Heap) (n0 : Nat) (hO : Old Z n0 h0) (hU : own_Us Z) (Ac : Arv Z h0 ca kc .char 2 [(.int c0), (.int c1)] dc) :
    own_Met l Z (⟨"java/lang/StringUTF16", "toBytes", "([CII)[B"⟩ : MethodName) jdk_52_method_14_code 5 (some (.array .byte)) own_r_own_tb2 #[(.ref ca), (.int 0), (.int 2)] h0 (own_Qb Z 4 [(.int (own_lo c0)), (.int (own_hi c0)), (.int (own_lo c1)), (.int (own_hi c1))] h0 n0) := by
  refine own_body (by decide +kernel) ?_
  intro p e s m below meth c T0 X0 hx hZ hby hml hown hnm hret hlk e0
  have N0 := Fr.nil n0
  refine own_cast (own_frame (L := [rv ca, iv 0, iv 2]) (ls := #[rv ca, iv 0, iv 2, .unset, .unset]) rfl rfl) ?_
  refine og_iloadN X0 hx (hb hby d17_0) rfl ?_
  refine own_callS X0 hx hZ hown (own_hw hw 82 rfl) (own_hw hw 83 rfl) (own_hw hw 21 rfl) (own_hw hw 84 rfl) (by decide) (argsL := [(.int 2)]) (rest := []) (own_nbf2 l Z a0 hw h0 n0 hO) e0 (by rw [hml]; rfl) (lenOf own_pd41379 rfl) rfl (hb hby d17_1) (W := 0) (Nat.le_of_eq rfl) (by decide) ?_
  intro v1 T1 L1 X1 q1
  obtain ⟨b1, k1, rfl, N1q, K1q, z1q, g1q, A1q⟩ := q1
  have N1 := Fr.app N0 N1q
  have ne_ca_b1 : ca ≠ b1 := Nat.ne_of_lt (Nat.lt_of_lt_of_le Ac.lt z1q)
  have sz_b1 : h0.size ≤ b1 := Nat.le_trans (Keep.refl h0 []).1 z1q
  have A_ca_1 := Ac.keep K1q nin0
  have O1 := hO.keep K1q all0
  have K1 := (Keep.refl h0 []).trans K1q all0
  show own_Go p e below _ T1 (mkF m 4 #[rv ca, iv 0, iv 2, .unset, .unset] [(.ref b1)])
  refine og_astoreN X1 hx #[rv ca, iv 0, iv 2, rv b1, .unset] (hb hby d17_4) rfl rfl ?_
  refine og_iconst X1 hx (hb hby d17_5) ?_
  refine og_istore X1 hx #[rv ca, iv 0, iv 2, rv b1, iv 0] (hb hby d17_6) rfl ?_
  refine og_iload X1 hx (hb hby d17_8) rfl ?_
  refine og_iloadN X1 hx (hb hby d17_10) rfl ?_
  refine og_icN X1 hx (hb hby d17_11) (tlt (by decide)).2.1 ?_
  refine og_aloadN X1 hx (hb hby d17_14) rfl rfl ?_
  refine og_iload X1 hx (hb hby d17_15) rfl ?_
  refine og_aloadN X1 hx (hb hby d17_17) rfl rfl ?_
  refine og_iloadN X1 hx (hb hby d17_18) rfl ?_
  refine own_ldC X1 hx hZ rfl A_ca_1 ⟨by decide, by decide⟩ rfl (hb hby d17_19) ?_
  show own_Go p e below _ T1 (mkF m 20 #[rv ca, iv 0, iv 2, rv b1, iv 0] [(.int c0), (.int 0), (.ref b1)])
  refine own_callS X1 hx hZ hown (own_hw hw 89 rfl) (own_hw hw 90 rfl) (own_hw hw 21 rfl) (own_hw hw 91 rfl) (by decide) (argsL := [(.ref b1), (.int 0), (.int c0)]) (rest := []) (own_pc_0_2 l Z a0 hw b1 _ _ c0 (.int (0 : Int32)) (.int (0 : Int32)) (.int (0 : Int32)) (.int (0 : Int32)) T1.heap n0 O1 hU g1q A1q) rfl (by rw [hml]; rfl) (lenOf own_pd52394 rfl) rfl (hb hby d17_20) (W := 0) (Nat.le_of_eq rfl) (by decide) ?_
  intro v2 T2 L2 X2 q2
  obtain ⟨rfl, N2q, K2q, A2q⟩ := q2
  have N2 := Fr.app N1 N2q
  have A_ca_2 := A_ca_1.keep K2q (ninS ne_ca_b1 nin0)
  have O2 := O1.keep K2q (allS g1q all0)
  have K2 := K1.trans K2q (allS (Or.inr sz_b1) all0)
  show own_Go p e below _ T2 (mkF m 23 #[rv ca, iv 0, iv 2, rv b1, iv 0] [])
  refine own_go (fun t k => XS.iinc X2.here hx rfl (hb hby d17_23) rfl (l' := #[rv ca, iv 1, iv 2, rv b1, iv 0]) rfl k) ?_
  show own_Go p e below _ T2 (mkF m 26 #[rv ca, iv 1, iv 2, rv b1, iv 0] [])
  refine own_go (fun t k => XS.iinc X2.here hx rfl (hb hby d17_26) rfl (l' := #[rv ca, iv 1, iv 2, rv b1, iv 1]) rfl k) ?_
  show own_Go p e below _ T2 (mkF m 29 #[rv ca, iv 1, iv 2, rv b1, iv 1] [])
  refine og_goto X2 hx 8 (hb hby d17_29) (by decide) (by decide) ?_
  refine og_iload X2 hx (hb hby d17_8) rfl ?_
  refine og_iloadN X2 hx (hb hby d17_10) rfl ?_
  refine og_icN X2 hx (hb hby d17_11) (tlt (by decide)).2.1 ?_
  refine og_aloadN X2 hx (hb hby d17_14) rfl rfl ?_
  refine og_iload X2 hx (hb hby d17_15) rfl ?_
  refine og_aloadN X2 hx (hb hby d17_17) rfl rfl ?_
  refine og_iloadN X2 hx (hb hby d17_18) rfl ?_
  refine own_ldC X2 hx hZ rfl A_ca_2 ⟨by decide, by decide⟩ rfl (hb hby d17_19) ?_
  show own_Go p e below _ T2 (mkF m 20 #[rv ca, iv 1, iv 2, rv b1, iv 1] [(.int c1), (.int 1), (.ref b1)])
  refine own_callS X2 hx hZ hown (own_hw hw 89 rfl) (own_hw hw 90 rfl) (own_hw hw 21 rfl) (own_hw hw 91 rfl) (by decide) (argsL := [(.ref b1), (.int 1), (.int c1)]) (rest := []) (own_pc_1_2 l Z a0 hw b1 _ _ c1 (.int (own_lo c0)) (.int (own_hi c0)) (.int (0 : Int32)) (.int (0 : Int32)) T2.heap n0 O2 hU g1q A2q) rfl (by rw [hml]; rfl) (lenOf own_pd52394 rfl) rfl (hb hby d17_20) (W := 0) (Nat.le_of_eq rfl) (by decide) ?_
  intro v3 T3 L3 X3 q3
  obtain ⟨rfl, N3q, K3q, A3q⟩ := q3
  have N3 := Fr.app N2 N3q
  have A_ca_3 := A_ca_2.keep K3q (ninS ne_ca_b1 nin0)
  have O3 := O2.keep K3q (allS g1q all0)
  have K3 := K2.trans K3q (allS (Or.inr sz_b1) all0)
  show own_Go p e below _ T3 (mkF m 23 #[rv ca, iv 1, iv 2, rv b1, iv 1] [])
  refine own_go (fun t k => XS.iinc X3.here hx rfl (hb hby d17_23) rfl (l' := #[rv ca, iv 2, iv 2, rv b1, iv 1]) rfl k) ?_
  show own_Go p e below _ T3 (mkF m 26 #[rv ca, iv 2, iv 2, rv b1, iv 1] [])
  refine own_go (fun t k => XS.iinc X3.here hx rfl (hb hby d17_26) rfl (l' := #[rv ca, iv 2, iv 2, rv b1, iv 2]) rfl k) ?_
  show own_Go p e below _ T3 (mkF m 29 #[rv ca, iv 2, iv 2, rv b1, iv 2] [])
  refine og_goto X3 hx 8 (hb hby d17_29) (by decide) (by decide) ?_
  refine og_iload X3 hx (hb hby d17_8) rfl ?_
  refine og_iloadN X3 hx (hb hby d17_10) rfl ?_
  refine og_icY X3 hx 32 (hb hby d17_11) (flt (by decide)).2.1 (by decide) (by decide) ?_
  refine og_aloadN X3 hx (hb hby d17_32) rfl rfl ?_
  exact own_retA X3 hx hret hlk (hb hby d17_33) rfl rfl (by decide) (by decide) (⟨b1, _, rfl, N3, K3, sz_b1, g1q, A3q⟩)
def own_r_own_nbl3 : Room := { frames := 0, cells := 0, slots := 0, locals := 0 }
theorem own_nbl3 (l : Launch) (Z : State) (a0 : Array Value) (hw : own_W a0 Z)  (h0 : Heap) (n0 : Nat)  :
    own_Met l Z (⟨"java/lang/StringUTF16", "newBytesLength", "(I)I"⟩ : MethodName) jdk_52_method_3_code 1 (some .int) own_r_own_nbl3 #[(.int 3)] h0 (own_Qv (some (.int 6)) h0 n0) := by
  refine own_body (by decide +kernel) ?_
  intro p e s m below meth c T0 X0 hx hZ hby hml hown hnm hret hlk e0
  have N0 := Fr.nil n0
  refine own_cast (own_frame (L := [iv 3]) (ls := #[iv 3]) rfl rfl) ?_
  refine og_iloadN X0 hx (hb hby d19_0) rfl ?_
  refine og_ifY X0 hx 12 (hb hby d19_1) (flt (by decide)).2.1 (by decide) (by decide) ?_
  refine og_iloadN X0 hx (hb hby d19_12) rfl ?_
  refine og_ldcI X0 hx hZ hown (own_hw hw 88 rfl) (hb hby d19_13) ?_
  show own_Go p e below _ T0 (mkF m 15 #[iv 3] [(.int 1073741823), (.int 3)])
  refine og_icY X0 hx 55 (hb hby d19_15) (tlt (by decide)).1 (by decide) (by decide) ?_
  refine og_iloadN X0 hx (hb hby d19_55) rfl ?_
  refine og_iconst X0 hx (hb hby d19_56) ?_
  refine own_go (fun t k => XS.ishl X0.here hx rfl (hb hby d19_57) rfl k) ?_
  show own_Go p e below _ T0 (mkF m 58 #[iv 3] [(.int 6)])
  exact own_retI X0 hx hret hlk (hb hby d19_58) rfl (by simp) (by decide) (by decide) (⟨rfl, N0, e0⟩)
def own_r_own_nbf3 : Room := { frames := 1, cells := 1, slots := 6, locals := 12 }
theorem own_nbf3 (l : Launch) (Z : State) (a0 : Array Value) (hw : own_W a0 Z)  (h0 : Heap) (n0 : Nat) (hO : Old Z n0 h0) :
    own_Met l Z (⟨"java/lang/StringUTF16", "newBytesFor", "(I)[B"⟩ : MethodName) jdk_52_method_2_code 1 (some (.array .byte)) own_r_own_nbf3 #[(.int 3)] h0 (own_Qb Z 6 [(.int (0 : Int32)), (.int (0 : Int32)), (.int (0 : Int32)), (.int (0 : Int32)), (.int (0 : Int32)), (.int (0 : Int32))] h0 n0) := by
  refine own_body (by decide +kernel) ?_
  intro p e s m below meth c T0 X0 hx hZ hby hml hown hnm hret hlk e0
  have N0 := Fr.nil n0
  refine own_cast (own_frame (L := [iv 3]) (ls := #[iv 3]) rfl rfl) ?_
  refine og_iloadN X0 hx (hb hby d18_0) rfl ?_
  refine own_callS X0 hx hZ hown (own_hw hw 85 rfl) (own_hw hw 86 rfl) (own_hw hw 21 rfl) (own_hw hw 87 rfl) (by decide) (argsL := [(.int 3)]) (rest := []) (own_nbl3 l Z a0 hw h0 n0) e0 (by rw [hml]; rfl) (lenOf own_pd49053 rfl) rfl (hb hby d18_1) (W := 0) (Nat.le_of_eq rfl) (by decide) ?_
  intro v1 T1 L1 X1 q1
  obtain ⟨rfl, N1q, e1⟩ := q1
  have N1 := Fr.app N0 N1q
  show own_Go p e below _ T1 (mkF m 4 #[iv 3] [(.int 6)])
  refine own_newP X1 hx hZ (own_hw hw 23 rfl) e1 (hb hby d18_4) (by decide) 6 (by decide) (by decide) (by decide) (by decide) ?_
  intro T2 h2 k2 b2 g2 X2 e2 E2 A2
  have ge_b2 : n0 ≤ b2 := Nat.le_trans (own_oldle hO) (Nat.le_of_eq g2.symm)
  have sz_b2 : h0.size ≤ b2 := Nat.le_trans (Keep.refl h0 []).1 (Nat.le_of_eq g2.symm)
  have O2 := hO.ext E2
  have K2 := (Keep.refl h0 []).ext E2
  have A_b2_2 : Arv Z h2 b2 k2 .byte 6 [(.int (0 : Int32)), (.int (0 : Int32)), (.int (0 : Int32)), (.int (0 : Int32)), (.int (0 : Int32)), (.int (0 : Int32))] (.int (0 : Int32)) := A2
  show own_Go p e below _ T2 (mkF m 6 #[iv 3] [(.ref b2)])
  exact own_retA X2 hx hret hlk (hb hby d18_6) rfl rfl (by decide) (by decide) (by rw [e2]; exact ⟨b2, _, rfl, N1, K2, sz_b2, ge_b2, A_b2_2⟩)
def own_r_own_tb3 : Room := { frames := 2, cells := 1, slots := 6, locals := 24 }
theorem own_tb3 (l : Launch) (Z : State) (a0 : Array Value) (hw : own_W a0 Z) (ca : Addr) (kc : ClassId) (dc : Value) (c0 c1 c2 : Int32) (h0 : Heap) (n0 : Nat) (hO : Old Z n0 h0) (hU : own_Us Z) (Ac : Arv Z h0 ca kc .char 3 [(.int c0), (.int c1), (.int c2)] dc) :
    own_Met l Z (⟨"java/lang/StringUTF16", "toBytes", "([CII)[B"⟩ : MethodName) jdk_52_method_14_code 5 (some (.array .byte)) own_r_own_tb3 #[(.ref ca), (.int 0), (.int 3)] h0 (own_Qb Z 6 [(.int (own_lo c0)), (.int (own_hi c0)), (.int (own_lo c1)), (.int (own_hi c1)), (.int (own_lo c2)), (.int (own_hi c2))] h0 n0) := by
  refine own_body (by decide +kernel) ?_
  intro p e s m below meth c T0 X0 hx hZ hby hml hown hnm hret hlk e0
  have N0 := Fr.nil n0
  refine own_cast (own_frame (L := [rv ca, iv 0, iv 3]) (ls := #[rv ca, iv 0, iv 3, .unset, .unset]) rfl rfl) ?_
  refine og_iloadN X0 hx (hb hby d17_0) rfl ?_
  refine own_callS X0 hx hZ hown (own_hw hw 82 rfl) (own_hw hw 83 rfl) (own_hw hw 21 rfl) (own_hw hw 84 rfl) (by decide) (argsL := [(.int 3)]) (rest := []) (own_nbf3 l Z a0 hw h0 n0 hO) e0 (by rw [hml]; rfl) (lenOf own_pd41379 rfl) rfl (hb hby d17_1) (W := 0) (Nat.le_of_eq rfl) (by decide) ?_
  intro v1 T1 L1 X1 q1
  obtain ⟨b1, k1, rfl, N1q, K1q, z1q, g1q, A1q⟩ := q1
  have N1 := Fr.app N0 N1q
  have ne_ca_b1 : ca ≠ b1 := Nat.ne_of_lt (Nat.lt_of_lt_of_le Ac.lt z1q)
  have sz_b1 : h0.size ≤ b1 := Nat.le_trans (Keep.refl h0 []).1 z1q
  have A_ca_1 := Ac.keep K1q nin0
  have O1 := hO.keep K1q all0
  have K1 := (Keep.refl h0 []).trans K1q all0
  show own_Go p e below _ T1 (mkF m 4 #[rv ca, iv 0, iv 3, .unset, .unset] [(.ref b1)])
  refine og_astoreN X1 hx #[rv ca, iv 0, iv 3, rv b1, .unset] (hb hby d17_4) rfl rfl ?_
  refine og_iconst X1 hx (hb hby d17_5) ?_
  refine og_istore X1 hx #[rv ca, iv 0, iv 3, rv b1, iv 0] (hb hby d17_6) rfl ?_
  refine og_iload X1 hx (hb hby d17_8) rfl ?_
  refine og_iloadN X1 hx (hb hby d17_10) rfl ?_
  refine og_icN X1 hx (hb hby d17_11) (tlt (by decide)).2.1 ?_
  refine og_aloadN X1 hx (hb hby d17_14) rfl rfl ?_
  refine og_iload X1 hx (hb hby d17_15) rfl ?_
  refine og_aloadN X1 hx (hb hby d17_17) rfl rfl ?_
  refine og_iloadN X1 hx (hb hby d17_18) rfl ?_
  refine own_ldC X1 hx hZ rfl A_ca_1 ⟨by decide, by decide⟩ rfl (hb hby d17_19) ?_
  show own_Go p e below _ T1 (mkF m 20 #[rv ca, iv 0, iv 3, rv b1, iv 0] [(.int c0), (.int 0), (.ref b1)])
  refine own_callS X1 hx hZ hown (own_hw hw 89 rfl) (own_hw hw 90 rfl) (own_hw hw 21 rfl) (own_hw hw 91 rfl) (by decide) (argsL := [(.ref b1), (.int 0), (.int c0)]) (rest := []) (own_pc_0_3 l Z a0 hw b1 _ _ c0 (.int (0 : Int32)) (.int (0 : Int32)) (.int (0 : Int32)) (.int (0 : Int32)) (.int (0 : Int32)) (.int (0 : Int32)) T1.heap n0 O1 hU g1q A1q) rfl (by rw [hml]; rfl) (lenOf own_pd52394 rfl) rfl (hb hby d17_20) (W := 0) (Nat.le_of_eq rfl) (by decide) ?_
  intro v2 T2 L2 X2 q2
  obtain ⟨rfl, N2q, K2q, A2q⟩ := q2
  have N2 := Fr.app N1 N2q
  have A_ca_2 := A_ca_1.keep K2q (ninS ne_ca_b1 nin0)
  have O2 := O1.keep K2q (allS g1q all0)
  have K2 := K1.trans K2q (allS (Or.inr sz_b1) all0)
  show own_Go p e below _ T2 (mkF m 23 #[rv ca, iv 0, iv 3, rv b1, iv 0] [])
  refine own_go (fun t k => XS.iinc X2.here hx rfl (hb hby d17_23) rfl (l' := #[rv ca, iv 1, iv 3, rv b1, iv 0]) rfl k) ?_
  show own_Go p e below _ T2 (mkF m 26 #[rv ca, iv 1, iv 3, rv b1, iv 0] [])
  refine own_go (fun t k => XS.iinc X2.here hx rfl (hb hby d17_26) rfl (l' := #[rv ca, iv 1, iv 3, rv b1, iv 1]) rfl k) ?_
  show own_Go p e below _ T2 (mkF m 29 #[rv ca, iv 1, iv 3, rv b1, iv 1] [])
  refine og_goto X2 hx 8 (hb hby d17_29) (by decide) (by decide) ?_
  refine og_iload X2 hx (hb hby d17_8) rfl ?_
  refine og_iloadN X2 hx (hb hby d17_10) rfl ?_
  refine og_icN X2 hx (hb hby d17_11) (tlt (by decide)).2.1 ?_
  refine og_aloadN X2 hx (hb hby d17_14) rfl rfl ?_
  refine og_iload X2 hx (hb hby d17_15) rfl ?_
  refine og_aloadN X2 hx (hb hby d17_17) rfl rfl ?_
  refine og_iloadN X2 hx (hb hby d17_18) rfl ?_
  refine own_ldC X2 hx hZ rfl A_ca_2 ⟨by decide, by decide⟩ rfl (hb hby d17_19) ?_
  show own_Go p e below _ T2 (mkF m 20 #[rv ca, iv 1, iv 3, rv b1, iv 1] [(.int c1), (.int 1), (.ref b1)])
  refine own_callS X2 hx hZ hown (own_hw hw 89 rfl) (own_hw hw 90 rfl) (own_hw hw 21 rfl) (own_hw hw 91 rfl) (by decide) (argsL := [(.ref b1), (.int 1), (.int c1)]) (rest := []) (own_pc_1_3 l Z a0 hw b1 _ _ c1 (.int (own_lo c0)) (.int (own_hi c0)) (.int (0 : Int32)) (.int (0 : Int32)) (.int (0 : Int32)) (.int (0 : Int32)) T2.heap n0 O2 hU g1q A2q) rfl (by rw [hml]; rfl) (lenOf own_pd52394 rfl) rfl (hb hby d17_20) (W := 0) (Nat.le_of_eq rfl) (by decide) ?_
  intro v3 T3 L3 X3 q3
  obtain ⟨rfl, N3q, K3q, A3q⟩ := q3
  have N3 := Fr.app N2 N3q
  have A_ca_3 := A_ca_2.keep K3q (ninS ne_ca_b1 nin0)
  have O3 := O2.keep K3q (allS g1q all0)
  have K3 := K2.trans K3q (allS (Or.inr sz_b1) all0)
  show own_Go p e below _ T3 (mkF m 23 #[rv ca, iv 1, iv 3, rv b1, iv 1] [])
  refine own_go (fun t k => XS.iinc X3.here hx rfl (hb hby d17_23) rfl (l' := #[rv ca, iv 2, iv 3, rv b1, iv 1]) rfl k) ?_
  show own_Go p e below _ T3 (mkF m 26 #[rv ca, iv 2, iv 3, rv b1, iv 1] [])
  refine own_go (fun t k => XS.iinc X3.here hx rfl (hb hby d17_26) rfl (l' := #[rv ca, iv 2, iv 3, rv b1, iv 2]) rfl k) ?_
  show own_Go p e below _ T3 (mkF m 29 #[rv ca, iv 2, iv 3, rv b1, iv 2] [])
  refine og_goto X3 hx 8 (hb hby d17_29) (by decide) (by decide) ?_
  refine og_iload X3 hx (hb hby d17_8) rfl ?_
  refine og_iloadN X3 hx (hb hby d17_10) rfl ?_
  refine og_icN X3 hx (hb hby d17_11) (tlt (by decide)).2.1 ?_
  refine og_aloadN X3 hx (hb hby d17_14) rfl rfl ?_
  refine og_iload X3 hx (hb hby d17_15) rfl ?_
  refine og_aloadN X3 hx (hb hby d17_17) rfl rfl ?_
  refine og_iloadN X3 hx (hb hby d17_18) rfl ?_
  refine own_ldC X3 hx hZ rfl A_ca_3 ⟨by decide, by decide⟩ rfl (hb hby d17_19) ?_
  show own_Go p e below _ T3 (mkF m 20 #[rv ca, iv 2, iv 3, rv b1, iv 2] [(.int c2), (.int 2), (.ref b1)])
  refine own_callS X3 hx hZ hown (own_hw hw 89 rfl) (own_hw hw 90 rfl) (own_hw hw 21 rfl) (own_hw hw 91 rfl) (by decide) (argsL := [(.ref b1), (.int 2), (.int c2)]) (rest := []) (own_pc_2_3 l Z a0 hw b1 _ _ c2 (.int (own_lo c0)) (.int (own_hi c0)) (.int (own_lo c1)) (.int (own_hi c1)) (.int (0 : Int32)) (.int (0 : Int32)) T3.heap n0 O3 hU g1q A3q) rfl (by rw [hml]; rfl) (lenOf own_pd52394 rfl) rfl (hb hby d17_20) (W := 0) (Nat.le_of_eq rfl) (by decide) ?_
  intro v4 T4 L4 X4 q4
  obtain ⟨rfl, N4q, K4q, A4q⟩ := q4
  have N4 := Fr.app N3 N4q
  have A_ca_4 := A_ca_3.keep K4q (ninS ne_ca_b1 nin0)
  have O4 := O3.keep K4q (allS g1q all0)
  have K4 := K3.trans K4q (allS (Or.inr sz_b1) all0)
  show own_Go p e below _ T4 (mkF m 23 #[rv ca, iv 2, iv 3, rv b1, iv 2] [])
  refine own_go (fun t k => XS.iinc X4.here hx rfl (hb hby d17_23) rfl (l' := #[rv ca, iv 3, iv 3, rv b1, iv 2]) rfl k) ?_
  show own_Go p e below _ T4 (mkF m 26 #[rv ca, iv 3, iv 3, rv b1, iv 2] [])
  refine own_go (fun t k => XS.iinc X4.here hx rfl (hb hby d17_26) rfl (l' := #[rv ca, iv 3, iv 3, rv b1, iv 3]) rfl k) ?_
  show own_Go p e below _ T4 (mkF m 29 #[rv ca, iv 3, iv 3, rv b1, iv 3] [])
  refine og_goto X4 hx 8 (hb hby d17_29) (by decide) (by decide) ?_
  refine og_iload X4 hx (hb hby d17_8) rfl ?_
  refine og_iloadN X4 hx (hb hby d17_10) rfl ?_
  refine og_icY X4 hx 32 (hb hby d17_11) (flt (by decide)).2.1 (by decide) (by decide) ?_
  refine og_aloadN X4 hx (hb hby d17_32) rfl rfl ?_
  exact own_retA X4 hx hret hlk (hb hby d17_33) rfl rfl (by decide) (by decide) (⟨b1, _, rfl, N4, K4, sz_b1, g1q, A4q⟩)
def own_Qc (Z : State) (d : Addr) (kd : ClassId) (r NN : Int32) (vs : List Value) (h0 : Heap) (n0 : Nat) (v : Option Value) (h : Heap) (L : List Loc) : Prop := v = some (.int r) ∧ Fr n0 L ∧ Keep h0 h [d] ∧ Arv Z h d kd .byte NN vs (.int (0 : Int32))
def own_r_cm : Room := { frames := 0, cells := 0, slots := 0, locals := 0 }
theorem d6_0 : decode jdk_52_method_21_code 0 = .ok (.iconst 0, 1) := by decide +kernel
theorem d6_1 : decode jdk_52_method_21_code 1 = .ok (.istore 5, 2) := by decide +kernel
theorem d6_3 : decode jdk_52_method_21_code 3 = .ok (.iload 5, 2) := by decide +kernel
theorem d6_5 : decode jdk_52_method_21_code 5 = .ok (.iload 4, 2) := by decide +kernel
theorem d6_7 : decode jdk_52_method_21_code 7 = .ok (.if_icmp .ge 37, 3) := by decide +kernel
theorem d6_10 : decode jdk_52_method_21_code 10 = .ok (.aload_n 0, 1) := by decide +kernel
theorem d6_11 : decode jdk_52_method_21_code 11 = .ok (.iload_n 1, 1) := by decide +kernel
theorem d6_12 : decode jdk_52_method_21_code 12 = .ok (.caload, 1) := by decide +kernel
theorem d6_13 : decode jdk_52_method_21_code 13 = .ok (.istore 6, 2) := by decide +kernel
theorem d6_15 : decode jdk_52_method_21_code 15 = .ok (.iload 6, 2) := by decide +kernel
theorem d6_17 : decode jdk_52_method_21_code 17 = .ok (.sipush 255, 3) := by decide +kernel
theorem d6_20 : decode jdk_52_method_21_code 20 = .ok (.if_icmp .le 6, 3) := by decide +kernel
theorem d6_23 : decode jdk_52_method_21_code 23 = .ok (.iload 5, 2) := by decide +kernel
theorem d6_25 : decode jdk_52_method_21_code 25 = .ok (.ireturn, 1) := by decide +kernel
theorem own_cm_3_0 (l : Launch) (Z : State) (a0 : Array Value) (hw : own_W a0 Z) (ca d : Addr) (kc kd : ClassId) (dc : Value) (c0 c1 c2 : Int32) (h0 : Heap) (n0 : Nat) (hO : Old Z n0 h0) (gd : n0 ≤ d) (ncd : ca ≠ d) (m0 : (255 : Int32) < c0) (Ac : Arv Z h0 ca kc .char 3 [(.int c0), (.int c1), (.int c2)] dc) (Ad : Arv Z h0 d kd .byte 3 [(.int (0 : Int32)), (.int (0 : Int32)), (.int (0 : Int32))] (.int (0 : Int32))) :
    own_Met l Z (⟨"java/lang/StringUTF16", "compress", "([CI[BII)I"⟩ : MethodName) jdk_52_method_21_code 7 (some .int) own_r_cm #[(.ref ca), (.int 0), (.ref d), (.int 0), (.int 3)] h0 (own_Qc Z d kd 0 3 [(.int (0 : Int32)), (.int (0 : Int32)), (.int (0 : Int32))] h0 n0) := by
  refine own_body (by decide +kernel) ?_
  intro p e s m below meth c T0 X0 hx hZ hby hml hown hnm hret hlk e0
  have N0 := Fr.nil n0
  refine own_cast (own_frame (L := [rv ca, iv 0, rv d, iv 0, iv 3]) (ls := #[rv ca, iv 0, rv d, iv 0, iv 3, .unset, .unset]) rfl rfl) ?_
  refine og_iconst X0 hx (hb hby d6_0) ?_
  refine og_istore X0 hx #[rv ca, iv 0, rv d, iv 0, iv 3, iv 0, .unset] (hb hby d6_1) rfl ?_
  refine og_iload X0 hx (hb hby d6_3) rfl ?_
  refine og_iload X0 hx (hb hby d6_5) rfl ?_
  refine og_icN X0 hx (hb hby d6_7) (tlt (by decide)).2.1 ?_
  refine og_aloadN X0 hx (hb hby d6_10) rfl rfl ?_
  refine og_iloadN X0 hx (hb hby d6_11) rfl ?_
  refine own_ldC X0 hx hZ e0 Ac ⟨by decide, by decide⟩ rfl (hb hby d6_12) ?_
  show own_Go p e below _ T0 (mkF m 13 #[rv ca, iv 0, rv d, iv 0, iv 3, iv 0, .unset] [(.int c0)])
  refine og_istore X0 hx #[rv ca, iv 0, rv d, iv 0, iv 3, iv 0, iv c0] (hb hby d6_13) rfl ?_
  refine og_iload X0 hx (hb hby d6_15) rfl ?_
  refine og_sipush X0 hx (hb hby d6_17) ?_
  refine og_icN X0 hx (hb hby d6_20) (tlt m0).2.2.2 ?_
  refine og_iload X0 hx (hb hby d6_23) rfl ?_
  exact own_retI X0 hx hret hlk (hb hby d6_25) rfl (by simp) (by decide) (by decide) (by rw [e0]; exact ⟨rfl, N0, (Keep.refl h0 [d]), Ad⟩)
theorem d6_26 : decode jdk_52_method_21_code 26 = .ok (.aload_n 2, 1) := by decide +kernel
theorem d6_27 : decode jdk_52_method_21_code 27 = .ok (.iload_n 3, 1) := by decide +kernel
theorem d6_28 : decode jdk_52_method_21_code 28 = .ok (.iload 6, 2) := by decide +kernel
theorem d6_30 : decode jdk_52_method_21_code 30 = .ok (.i2b, 1) := by decide +kernel
theorem d6_31 : decode jdk_52_method_21_code 31 = .ok (.bastore, 1) := by decide +kernel
theorem d6_32 : decode jdk_52_method_21_code 32 = .ok (.iinc 1 1, 3) := by decide +kernel
theorem d6_35 : decode jdk_52_method_21_code 35 = .ok (.iinc 3 1, 3) := by decide +kernel
theorem d6_38 : decode jdk_52_method_21_code 38 = .ok (.iinc 5 1, 3) := by decide +kernel
theorem d6_41 : decode jdk_52_method_21_code 41 = .ok (.goto (-38), 3) := by decide +kernel
theorem own_cm_3_1 (l : Launch) (Z : State) (a0 : Array Value) (hw : own_W a0 Z) (ca d : Addr) (kc kd : ClassId) (dc : Value) (c0 c1 c2 : Int32) (h0 : Heap) (n0 : Nat) (hO : Old Z n0 h0) (gd : n0 ≤ d) (ncd : ca ≠ d) (m0 : ¬ (255 : Int32) < c0) (m1 : (255 : Int32) < c1) (Ac : Arv Z h0 ca kc .char 3 [(.int c0), (.int c1), (.int c2)] dc) (Ad : Arv Z h0 d kd .byte 3 [(.int (0 : Int32)), (.int (0 : Int32)), (.int (0 : Int32))] (.int (0 : Int32))) :
    own_Met l Z (⟨"java/lang/StringUTF16", "compress", "([CI[BII)I"⟩ : MethodName) jdk_52_method_21_code 7 (some .int) own_r_cm #[(.ref ca), (.int 0), (.ref d), (.int 0), (.int 3)] h0 (own_Qc Z d kd 1 3 [(.int c0.toInt8.toInt32), (.int (0 : Int32)), (.int (0 : Int32))] h0 n0) := by
  refine own_body (by decide +kernel) ?_
  intro p e s m below meth c T0 X0 hx hZ hby hml hown hnm hret hlk e0
  have N0 := Fr.nil n0
  refine own_cast (own_frame (L := [rv ca, iv 0, rv d, iv 0, iv 3]) (ls := #[rv ca, iv 0, rv d, iv 0, iv 3, .unset, .unset]) rfl rfl) ?_
  refine og_iconst X0 hx (hb hby d6_0) ?_
  refine og_istore X0 hx #[rv ca, iv 0, rv d, iv 0, iv 3, iv 0, .unset] (hb hby d6_1) rfl ?_
  refine og_iload X0 hx (hb hby d6_3) rfl ?_
  refine og_iload X0 hx (hb hby d6_5) rfl ?_
  refine og_icN X0 hx (hb hby d6_7) (tlt (by decide)).2.1 ?_
  refine og_aloadN X0 hx (hb hby d6_10) rfl rfl ?_
  refine og_iloadN X0 hx (hb hby d6_11) rfl ?_
  refine own_ldC X0 hx hZ e0 Ac ⟨by decide, by decide⟩ rfl (hb hby d6_12) ?_
  show own_Go p e below _ T0 (mkF m 13 #[rv ca, iv 0, rv d, iv 0, iv 3, iv 0, .unset] [(.int c0)])
  refine og_istore X0 hx #[rv ca, iv 0, rv d, iv 0, iv 3, iv 0, iv c0] (hb hby d6_13) rfl ?_
  refine og_iload X0 hx (hb hby d6_15) rfl ?_
  refine og_sipush X0 hx (hb hby d6_17) ?_
  refine og_icY X0 hx 26 (hb hby d6_20) (flt m0).2.2.2 (by decide) (by decide) ?_
  refine og_aloadN X0 hx (hb hby d6_26) rfl rfl ?_
  refine og_iloadN X0 hx (hb hby d6_27) rfl ?_
  refine og_iload X0 hx (hb hby d6_28) rfl ?_
  refine own_go (fun t k => XS.i2b X0.here hx rfl (hb hby d6_30) rfl k) ?_
  show own_Go p e below _ T0 (mkF m 31 #[rv ca, iv 0, rv d, iv 0, iv 3, iv 0, iv c0] [(.int (c0.toInt8.toInt32)), (.int 0), (.ref d)])
  refine own_stB X0 hx hZ e0 Ad ⟨by decide, by decide⟩ 0 rfl (by show 0 < 3; decide) (hb hby d6_31) ?_
  intro T1 h1 X1 e1 W1 A1
  have A_ca_1 := Ac.other W1 ncd
  have O1 := hO.wr W1 gd
  have K1 := (Keep.refl h0 [d]).wr W1 (Or.inl (by simp))
  have N1 := Fr.snoc X1 N0 gd
  have A_d_1 : Arv Z h1 d kd .byte 3 [(.int c0.toInt8.toInt32), (.int (0 : Int32)), (.int (0 : Int32))] (.int (0 : Int32)) := (by have q := A1; rw [own_bb c0] at q; exact q)
  show own_Go p e below _ T1 (mkF m 32 #[rv ca, iv 0, rv d, iv 0, iv 3, iv 0, iv c0] [])
  refine own_go (fun t k => XS.iinc X1.here hx rfl (hb hby d6_32) rfl (l' := #[rv ca, iv 1, rv d, iv 0, iv 3, iv 0, iv c0]) rfl k) ?_
  show own_Go p e below _ T1 (mkF m 35 #[rv ca, iv 1, rv d, iv 0, iv 3, iv 0, iv c0] [])
  refine own_go (fun t k => XS.iinc X1.here hx rfl (hb hby d6_35) rfl (l' := #[rv ca, iv 1, rv d, iv 1, iv 3, iv 0, iv c0]) rfl k) ?_
  show own_Go p e below _ T1 (mkF m 38 #[rv ca, iv 1, rv d, iv 1, iv 3, iv 0, iv c0] [])
  refine own_go (fun t k => XS.iinc X1.here hx rfl (hb hby d6_38) rfl (l' := #[rv ca, iv 1, rv d, iv 1, iv 3, iv 1, iv c0]) rfl k) ?_
  show own_Go p e below _ T1 (mkF m 41 #[rv ca, iv 1, rv d, iv 1, iv 3, iv 1, iv c0] [])
  refine og_goto X1 hx 3 (hb hby d6_41) (by decide) (by decide) ?_
  refine og_iload X1 hx (hb hby d6_3) rfl ?_
  refine og_iload X1 hx (hb hby d6_5) rfl ?_
  refine og_icN X1 hx (hb hby d6_7) (tlt (by decide)).2.1 ?_
  refine og_aloadN X1 hx (hb hby d6_10) rfl rfl ?_
  refine og_iloadN X1 hx (hb hby d6_11) rfl ?_
  refine own_ldC X1 hx hZ e1 A_ca_1 ⟨by decide, by decide⟩ rfl (hb hby d6_12) ?_
  show own_Go p e below _ T1 (mkF m 13 #[rv ca, iv 1, rv d, iv 1, iv 3, iv 1, iv c0] [(.int c1)])
  refine og_istore X1 hx #[rv ca, iv 1, rv d, iv 1, iv 3, iv 1, iv c1] (hb hby d6_13) rfl ?_
  refine og_iload X1 hx (hb hby d6_15) rfl ?_
  refine og_sipush X1 hx (hb hby d6_17) ?_
  refine og_icN X1 hx (hb hby d6_20) (tlt m1).2.2.2 ?_
  refine og_iload X1 hx (hb hby d6_23) rfl ?_
  exact own_retI X1 hx hret hlk (hb hby d6_25) rfl (by simp) (by decide) (by decide) (by rw [e1]; exact ⟨rfl, N1, K1, A_d_1⟩)
theorem own_cm_3_2 (l : Launch) (Z : State) (a0 : Array Value) (hw : own_W a0 Z) (ca d : Addr) (kc kd : ClassId) (dc : Value) (c0 c1 c2 : Int32) (h0 : Heap) (n0 : Nat) (hO : Old Z n0 h0) (gd : n0 ≤ d) (ncd : ca ≠ d) (m0 : ¬ (255 : Int32) < c0) (m1 : ¬ (255 : Int32) < c1) (m2 : (255 : Int32) < c2) (Ac : Arv Z h0 ca kc .char 3 [(.int c0), (.int c1), (.int c2)] dc) (Ad : Arv Z h0 d kd .byte 3 [(.int (0 : Int32)), (.int (0 : Int32)), (.int (0 : Int32))] (.int (0 : Int32))) :
    own_Met l Z (⟨"java/lang/StringUTF16", "compress", "([CI[BII)I"⟩ : MethodName) jdk_52_method_21_code 7 (some .int) own_r_cm #[(.ref ca), (.int 0), (.ref d), (.int 0), (.int 3)] h0 (own_Qc Z d kd 2 3 [(.int c0.toInt8.toInt32), (.int c1.toInt8.toInt32), (.int (0 : Int32))] h0 n0) := by
  refine own_body (by decide +kernel) ?_
  intro p e s m below meth c T0 X0 hx hZ hby hml hown hnm hret hlk e0
  have N0 := Fr.nil n0
  refine own_cast (own_frame (L := [rv ca, iv 0, rv d, iv 0, iv 3]) (ls := #[rv ca, iv 0, rv d, iv 0, iv 3, .unset, .unset]) rfl rfl) ?_
  refine og_iconst X0 hx (hb hby d6_0) ?_
  refine og_istore X0 hx #[rv ca, iv 0, rv d, iv 0, iv 3, iv 0, .unset] (hb hby d6_1) rfl ?_
  refine og_iload X0 hx (hb hby d6_3) rfl ?_
  refine og_iload X0 hx (hb hby d6_5) rfl ?_
  refine og_icN X0 hx (hb hby d6_7) (tlt (by decide)).2.1 ?_
  refine og_aloadN X0 hx (hb hby d6_10) rfl rfl ?_
  refine og_iloadN X0 hx (hb hby d6_11) rfl ?_
  refine own_ldC X0 hx hZ e0 Ac ⟨by decide, by decide⟩ rfl (hb hby d6_12) ?_
  show own_Go p e below _ T0 (mkF m 13 #[rv ca, iv 0, rv d, iv 0, iv 3, iv 0, .unset] [(.int c0)])
  refine og_istore X0 hx #[rv ca, iv 0, rv d, iv 0, iv 3, iv 0, iv c0] (hb hby d6_13) rfl ?_
  refine og_iload X0 hx (hb hby d6_15) rfl ?_
  refine og_sipush X0 hx (hb hby d6_17) ?_
  refine og_icY X0 hx 26 (hb hby d6_20) (flt m0).2.2.2 (by decide) (by decide) ?_
  refine og_aloadN X0 hx (hb hby d6_26) rfl rfl ?_
  refine og_iloadN X0 hx (hb hby d6_27) rfl ?_
  refine og_iload X0 hx (hb hby d6_28) rfl ?_
  refine own_go (fun t k => XS.i2b X0.here hx rfl (hb hby d6_30) rfl k) ?_
  show own_Go p e below _ T0 (mkF m 31 #[rv ca, iv 0, rv d, iv 0, iv 3, iv 0, iv c0] [(.int (c0.toInt8.toInt32)), (.int 0), (.ref d)])
  refine own_stB X0 hx hZ e0 Ad ⟨by decide, by decide⟩ 0 rfl (by show 0 < 3; decide) (hb hby d6_31) ?_
  intro T1 h1 X1 e1 W1 A1
  have A_ca_1 := Ac.other W1 ncd
  have O1 := hO.wr W1 gd
  have K1 := (Keep.refl h0 [d]).wr W1 (Or.inl (by simp))
  have N1 := Fr.snoc X1 N0 gd
  have A_d_1 : Arv Z h1 d kd .byte 3 [(.int c0.toInt8.toInt32), (.int (0 : Int32)), (.int (0 : Int32))] (.int (0 : Int32)) := (by have q := A1; rw [own_bb c0] at q; exact q)
  show own_Go p e below _ T1 (mkF m 32 #[rv ca, iv 0, rv d, iv 0, iv 3, iv 0, iv c0] [])
  refine own_go (fun t k => XS.iinc X1.here hx rfl (hb hby d6_32) rfl (l' := #[rv ca, iv 1, rv d, iv 0, iv 3, iv 0, iv c0]) rfl k) ?_
  show own_Go p e below _ T1 (mkF m 35 #[rv ca, iv 1, rv d, iv 0, iv 3, iv 0, iv c0] [])
  refine own_go (fun t k => XS.iinc X1.here hx rfl (hb hby d6_35) rfl (l' := #[rv ca, iv 1, rv d, iv 1, iv 3, iv 0, iv c0]) rfl k) ?_
  show own_Go p e below _ T1 (mkF m 38 #[rv ca, iv 1, rv d, iv 1, iv 3, iv 0, iv c0] [])
  refine own_go (fun t k => XS.iinc X1.here hx rfl (hb hby d6_38) rfl (l' := #[rv ca, iv 1, rv d, iv 1, iv 3, iv 1, iv c0]) rfl k) ?_
  show own_Go p e below _ T1 (mkF m 41 #[rv ca, iv 1, rv d, iv 1, iv 3, iv 1, iv c0] [])
  refine og_goto X1 hx 3 (hb hby d6_41) (by decide) (by decide) ?_
  refine og_iload X1 hx (hb hby d6_3) rfl ?_
  refine og_iload X1 hx (hb hby d6_5) rfl ?_
  refine og_icN X1 hx (hb hby d6_7) (tlt (by decide)).2.1 ?_
  refine og_aloadN X1 hx (hb hby d6_10) rfl rfl ?_
  refine og_iloadN X1 hx (hb hby d6_11) rfl ?_
  refine own_ldC X1 hx hZ e1 A_ca_1 ⟨by decide, by decide⟩ rfl (hb hby d6_12) ?_
  show own_Go p e below _ T1 (mkF m 13 #[rv ca, iv 1, rv d, iv 1, iv 3, iv 1, iv c0] [(.int c1)])
  refine og_istore X1 hx #[rv ca, iv 1, rv d, iv 1, iv 3, iv 1, iv c1] (hb hby d6_13) rfl ?_
  refine og_iload X1 hx (hb hby d6_15) rfl ?_
  refine og_sipush X1 hx (hb hby d6_17) ?_
  refine og_icY X1 hx 26 (hb hby d6_20) (flt m1).2.2.2 (by decide) (by decide) ?_
  refine og_aloadN X1 hx (hb hby d6_26) rfl rfl ?_
  refine og_iloadN X1 hx (hb hby d6_27) rfl ?_
  refine og_iload X1 hx (hb hby d6_28) rfl ?_
  refine own_go (fun t k => XS.i2b X1.here hx rfl (hb hby d6_30) rfl k) ?_
  show own_Go p e below _ T1 (mkF m 31 #[rv ca, iv 1, rv d, iv 1, iv 3, iv 1, iv c1] [(.int (c1.toInt8.toInt32)), (.int 1), (.ref d)])
  refine own_stB X1 hx hZ e1 A_d_1 ⟨by decide, by decide⟩ 1 rfl (by show 1 < 3; decide) (hb hby d6_31) ?_
  intro T2 h2 X2 e2 W2 A2
  have A_ca_2 := A_ca_1.other W2 ncd
  have O2 := O1.wr W2 gd
  have K2 := K1.wr W2 (Or.inl (by simp))
  have N2 := Fr.snoc X2 N1 gd
  have A_d_2 : Arv Z h2 d kd .byte 3 [(.int c0.toInt8.toInt32), (.int c1.toInt8.toInt32), (.int (0 : Int32))] (.int (0 : Int32)) := (by have q := A2; rw [own_bb c1] at q; exact q)
  show own_Go p e below _ T2 (mkF m 32 #[rv ca, iv 1, rv d, iv 1, iv 3, iv 1, iv c1] [])
  refine own_go (fun t k => XS.iinc X2.here hx rfl (hb hby d6_32) rfl (l' := #[rv ca, iv 2, rv d, iv 1, iv 3, iv 1, iv c1]) rfl k) ?_
  show own_Go p e below _ T2 (mkF m 35 #[rv ca, iv 2, rv d, iv 1, iv 3, iv 1, iv c1] [])
  refine own_go (fun t k => XS.iinc X2.here hx rfl (hb hby d6_35) rfl (l' := #[rv ca, iv 2, rv d, iv 2, iv 3, iv 1, iv c1]) rfl k) ?_
  show own_Go p e below _ T2 (mkF m 38 #[rv ca, iv 2, rv d, iv 2, iv 3, iv 1, iv c1] [])
  refine own_go (fun t k => XS.iinc X2.here hx rfl (hb hby d6_38) rfl (l' := #[rv ca, iv 2, rv d, iv 2, iv 3, iv 2, iv c1]) rfl k) ?_
  show own_Go p e below _ T2 (mkF m 41 #[rv ca, iv 2, rv d, iv 2, iv 3, iv 2, iv c1] [])
  refine og_goto X2 hx 3 (hb hby d6_41) (by decide) (by decide) ?_
  refine og_iload X2 hx (hb hby d6_3) rfl ?_
  refine og_iload X2 hx (hb hby d6_5) rfl ?_
  refine og_icN X2 hx (hb hby d6_7) (tlt (by decide)).2.1 ?_
  refine og_aloadN X2 hx (hb hby d6_10) rfl rfl ?_
  refine og_iloadN X2 hx (hb hby d6_11) rfl ?_
  refine own_ldC X2 hx hZ e2 A_ca_2 ⟨by decide, by decide⟩ rfl (hb hby d6_12) ?_
  show own_Go p e below _ T2 (mkF m 13 #[rv ca, iv 2, rv d, iv 2, iv 3, iv 2, iv c1] [(.int c2)])
  refine og_istore X2 hx #[rv ca, iv 2, rv d, iv 2, iv 3, iv 2, iv c2] (hb hby d6_13) rfl ?_
  refine og_iload X2 hx (hb hby d6_15) rfl ?_
  refine og_sipush X2 hx (hb hby d6_17) ?_
  refine og_icN X2 hx (hb hby d6_20) (tlt m2).2.2.2 ?_
  refine og_iload X2 hx (hb hby d6_23) rfl ?_
  exact own_retI X2 hx hret hlk (hb hby d6_25) rfl (by simp) (by decide) (by decide) (by rw [e2]; exact ⟨rfl, N2, K2, A_d_2⟩)
theorem d6_44 : decode jdk_52_method_21_code 44 = .ok (.iload 4, 2) := by decide +kernel
theorem d6_46 : decode jdk_52_method_21_code 46 = .ok (.ireturn, 1) := by decide +kernel
theorem own_cm_3_3 (l : Launch) (Z : State) (a0 : Array Value) (hw : own_W a0 Z) (ca d : Addr) (kc kd : ClassId) (dc : Value) (c0 c1 c2 : Int32) (h0 : Heap) (n0 : Nat) (hO : Old Z n0 h0) (gd : n0 ≤ d) (ncd : ca ≠ d) (m0 : ¬ (255 : Int32) < c0) (m1 : ¬ (255 : Int32) < c1) (m2 : ¬ (255 : Int32) < c2) (Ac : Arv Z h0 ca kc .char 3 [(.int c0), (.int c1), (.int c2)] dc) (Ad : Arv Z h0 d kd .byte 3 [(.int (0 : Int32)), (.int (0 : Int32)), (.int (0 : Int32))] (.int (0 : Int32))) :
    own_Met l Z (⟨"java/lang/StringUTF16", "compress", "([CI[BII)I"⟩ : MethodName) jdk_52_method_21_code 7 (some .int) own_r_cm #[(.ref ca), (.int 0), (.ref d), (.int 0), (.int 3)] h0 (own_Qc Z d kd 3 3 [(.int c0.toInt8.toInt32), (.int c1.toInt8.toInt32), (.int c2.toInt8.toInt32)] h0 n0) := by
  refine own_body (by decide +kernel) ?_
  intro p e s m below meth c T0 X0 hx hZ hby hml hown hnm hret hlk e0
  have N0 := Fr.nil n0
  refine own_cast (own_frame (L := [rv ca, iv 0, rv d, iv 0, iv 3]) (ls := #[rv ca, iv 0, rv d, iv 0, iv 3, .unset, .unset]) rfl rfl) ?_
  refine og_iconst X0 hx (hb hby d6_0) ?_
  refine og_istore X0 hx #[rv ca, iv 0, rv d, iv 0, iv 3, iv 0, .unset] (hb hby d6_1) rfl ?_
  refine og_iload X0 hx (hb hby d6_3) rfl ?_
  refine og_iload X0 hx (hb hby d6_5) rfl ?_
  refine og_icN X0 hx (hb hby d6_7) (tlt (by decide)).2.1 ?_
  refine og_aloadN X0 hx (hb hby d6_10) rfl rfl ?_
  refine og_iloadN X0 hx (hb hby d6_11) rfl ?_
  refine own_ldC X0 hx hZ e0 Ac ⟨by decide, by decide⟩ rfl (hb hby d6_12) ?_
  show own_Go p e below _ T0 (mkF m 13 #[rv ca, iv 0, rv d, iv 0, iv 3, iv 0, .unset] [(.int c0)])
  refine og_istore X0 hx #[rv ca, iv 0, rv d, iv 0, iv 3, iv 0, iv c0] (hb hby d6_13) rfl ?_
  refine og_iload X0 hx (hb hby d6_15) rfl ?_
  refine og_sipush X0 hx (hb hby d6_17) ?_
  refine og_icY X0 hx 26 (hb hby d6_20) (flt m0).2.2.2 (by decide) (by decide) ?_
  refine og_aloadN X0 hx (hb hby d6_26) rfl rfl ?_
  refine og_iloadN X0 hx (hb hby d6_27) rfl ?_
  refine og_iload X0 hx (hb hby d6_28) rfl ?_
  refine own_go (fun t k => XS.i2b X0.here hx rfl (hb hby d6_30) rfl k) ?_
  show own_Go p e below _ T0 (mkF m 31 #[rv ca, iv 0, rv d, iv 0, iv 3, iv 0, iv c0] [(.int (c0.toInt8.toInt32)), (.int 0), (.ref d)])
  refine own_stB X0 hx hZ e0 Ad ⟨by decide, by decide⟩ 0 rfl (by show 0 < 3; decide) (hb hby d6_31) ?_
  intro T1 h1 X1 e1 W1 A1
  have A_ca_1 := Ac.other W1 ncd
  have O1 := hO.wr W1 gd
  have K1 := (Keep.refl h0 [d]).wr W1 (Or.inl (by simp))
  have N1 := Fr.snoc X1 N0 gd
  have A_d_1 : Arv Z h1 d kd .byte 3 [(.int c0.toInt8.toInt32), (.int (0 : Int32)), (.int (0 : Int32))] (.int (0 : Int32)) := (by have q := A1; rw [own_bb c0] at q; exact q)
  show own_Go p e below _ T1 (mkF m 32 #[rv ca, iv 0, rv d, iv 0, iv 3, iv 0, iv c0] [])
  refine own_go (fun t k => XS.iinc X1.here hx rfl (hb hby d6_32) rfl (l' := #[rv ca, iv 1, rv d, iv 0, iv 3, iv 0, iv c0]) rfl k) ?_
  show own_Go p e below _ T1 (mkF m 35 #[rv ca, iv 1, rv d, iv 0, iv 3, iv 0, iv c0] [])
  refine own_go (fun t k => XS.iinc X1.here hx rfl (hb hby d6_35) rfl (l' := #[rv ca, iv 1, rv d, iv 1, iv 3, iv 0, iv c0]) rfl k) ?_
  show own_Go p e below _ T1 (mkF m 38 #[rv ca, iv 1, rv d, iv 1, iv 3, iv 0, iv c0] [])
  refine own_go (fun t k => XS.iinc X1.here hx rfl (hb hby d6_38) rfl (l' := #[rv ca, iv 1, rv d, iv 1, iv 3, iv 1, iv c0]) rfl k) ?_
  show own_Go p e below _ T1 (mkF m 41 #[rv ca, iv 1, rv d, iv 1, iv 3, iv 1, iv c0] [])
  refine og_goto X1 hx 3 (hb hby d6_41) (by decide) (by decide) ?_
  refine og_iload X1 hx (hb hby d6_3) rfl ?_
  refine og_iload X1 hx (hb hby d6_5) rfl ?_
  refine og_icN X1 hx (hb hby d6_7) (tlt (by decide)).2.1 ?_
  refine og_aloadN X1 hx (hb hby d6_10) rfl rfl ?_
  refine og_iloadN X1 hx (hb hby d6_11) rfl ?_
  refine own_ldC X1 hx hZ e1 A_ca_1 ⟨by decide, by decide⟩ rfl (hb hby d6_12) ?_
  show own_Go p e below _ T1 (mkF m 13 #[rv ca, iv 1, rv d, iv 1, iv 3, iv 1, iv c0] [(.int c1)])
  refine og_istore X1 hx #[rv ca, iv 1, rv d, iv 1, iv 3, iv 1, iv c1] (hb hby d6_13) rfl ?_
  refine og_iload X1 hx (hb hby d6_15) rfl ?_
  refine og_sipush X1 hx (hb hby d6_17) ?_
  refine og_icY X1 hx 26 (hb hby d6_20) (flt m1).2.2.2 (by decide) (by decide) ?_
  refine og_aloadN X1 hx (hb hby d6_26) rfl rfl ?_
  refine og_iloadN X1 hx (hb hby d6_27) rfl ?_
  refine og_iload X1 hx (hb hby d6_28) rfl ?_
  refine own_go (fun t k => XS.i2b X1.here hx rfl (hb hby d6_30) rfl k) ?_
  show own_Go p e below _ T1 (mkF m 31 #[rv ca, iv 1, rv d, iv 1, iv 3, iv 1, iv c1] [(.int (c1.toInt8.toInt32)), (.int 1), (.ref d)])
  refine own_stB X1 hx hZ e1 A_d_1 ⟨by decide, by decide⟩ 1 rfl (by show 1 < 3; decide) (hb hby d6_31) ?_
  intro T2 h2 X2 e2 W2 A2
  have A_ca_2 := A_ca_1.other W2 ncd
  have O2 := O1.wr W2 gd
  have K2 := K1.wr W2 (Or.inl (by simp))
  have N2 := Fr.snoc X2 N1 gd
  have A_d_2 : Arv Z h2 d kd .byte 3 [(.int c0.toInt8.toInt32), (.int c1.toInt8.toInt32), (.int (0 : Int32))] (.int (0 : Int32)) := (by have q := A2; rw [own_bb c1] at q; exact q)
  show own_Go p e below _ T2 (mkF m 32 #[rv ca, iv 1, rv d, iv 1, iv 3, iv 1, iv c1] [])
  refine own_go (fun t k => XS.iinc X2.here hx rfl (hb hby d6_32) rfl (l' := #[rv ca, iv 2, rv d, iv 1, iv 3, iv 1, iv c1]) rfl k) ?_
  show own_Go p e below _ T2 (mkF m 35 #[rv ca, iv 2, rv d, iv 1, iv 3, iv 1, iv c1] [])
  refine own_go (fun t k => XS.iinc X2.here hx rfl (hb hby d6_35) rfl (l' := #[rv ca, iv 2, rv d, iv 2, iv 3, iv 1, iv c1]) rfl k) ?_
  show own_Go p e below _ T2 (mkF m 38 #[rv ca, iv 2, rv d, iv 2, iv 3, iv 1, iv c1] [])
  refine own_go (fun t k => XS.iinc X2.here hx rfl (hb hby d6_38) rfl (l' := #[rv ca, iv 2, rv d, iv 2, iv 3, iv 2, iv c1]) rfl k) ?_
  show own_Go p e below _ T2 (mkF m 41 #[rv ca, iv 2, rv d, iv 2, iv 3, iv 2, iv c1] [])
  refine og_goto X2 hx 3 (hb hby d6_41) (by decide) (by decide) ?_
  refine og_iload X2 hx (hb hby d6_3) rfl ?_
  refine og_iload X2 hx (hb hby d6_5) rfl ?_
  refine og_icN X2 hx (hb hby d6_7) (tlt (by decide)).2.1 ?_
  refine og_aloadN X2 hx (hb hby d6_10) rfl rfl ?_
  refine og_iloadN X2 hx (hb hby d6_11) rfl ?_
  refine own_ldC X2 hx hZ e2 A_ca_2 ⟨by decide, by decide⟩ rfl (hb hby d6_12) ?_
  show own_Go p e below _ T2 (mkF m 13 #[rv ca, iv 2, rv d, iv 2, iv 3, iv 2, iv c1] [(.int c2)])
  refine og_istore X2 hx #[rv ca, iv 2, rv d, iv 2, iv 3, iv 2, iv c2] (hb hby d6_13) rfl ?_
  refine og_iload X2 hx (hb hby d6_15) rfl ?_
  refine og_sipush X2 hx (hb hby d6_17) ?_
  refine og_icY X2 hx 26 (hb hby d6_20) (flt m2).2.2.2 (by decide) (by decide) ?_
  refine og_aloadN X2 hx (hb hby d6_26) rfl rfl ?_
  refine og_iloadN X2 hx (hb hby d6_27) rfl ?_
  refine og_iload X2 hx (hb hby d6_28) rfl ?_
  refine own_go (fun t k => XS.i2b X2.here hx rfl (hb hby d6_30) rfl k) ?_
  show own_Go p e below _ T2 (mkF m 31 #[rv ca, iv 2, rv d, iv 2, iv 3, iv 2, iv c2] [(.int (c2.toInt8.toInt32)), (.int 2), (.ref d)])
  refine own_stB X2 hx hZ e2 A_d_2 ⟨by decide, by decide⟩ 2 rfl (by show 2 < 3; decide) (hb hby d6_31) ?_
  intro T3 h3 X3 e3 W3 A3
  have A_ca_3 := A_ca_2.other W3 ncd
  have O3 := O2.wr W3 gd
  have K3 := K2.wr W3 (Or.inl (by simp))
  have N3 := Fr.snoc X3 N2 gd
  have A_d_3 : Arv Z h3 d kd .byte 3 [(.int c0.toInt8.toInt32), (.int c1.toInt8.toInt32), (.int c2.toInt8.toInt32)] (.int (0 : Int32)) := (by have q := A3; rw [own_bb c2] at q; exact q)
  show own_Go p e below _ T3 (mkF m 32 #[rv ca, iv 2, rv d, iv 2, iv 3, iv 2, iv c2] [])
  refine own_go (fun t k => XS.iinc X3.here hx rfl (hb hby d6_32) rfl (l' := #[rv ca, iv 3, rv d, iv 2, iv 3, iv 2, iv c2]) rfl k) ?_
  show own_Go p e below _ T3 (mkF m 35 #[rv ca, iv 3, rv d, iv 2, iv 3, iv 2, iv c2] [])
  refine own_go (fun t k => XS.iinc X3.here hx rfl (hb hby d6_35) rfl (l' := #[rv ca, iv 3, rv d, iv 3, iv 3, iv 2, iv c2]) rfl k) ?_
  show own_Go p e below _ T3 (mkF m 38 #[rv ca, iv 3, rv d, iv 3, iv 3, iv 2, iv c2] [])
  refine own_go (fun t k => XS.iinc X3.here hx rfl (hb hby d6_38) rfl (l' := #[rv ca, iv 3, rv d, iv 3, iv 3, iv 3, iv c2]) rfl k) ?_
  show own_Go p e below _ T3 (mkF m 41 #[rv ca, iv 3, rv d, iv 3, iv 3, iv 3, iv c2] [])
  refine og_goto X3 hx 3 (hb hby d6_41) (by decide) (by decide) ?_
  refine og_iload X3 hx (hb hby d6_3) rfl ?_
  refine og_iload X3 hx (hb hby d6_5) rfl ?_
  refine og_icY X3 hx 44 (hb hby d6_7) (flt (by decide)).2.1 (by decide) (by decide) ?_
  refine og_iload X3 hx (hb hby d6_44) rfl ?_
  exact own_retI X3 hx hret hlk (hb hby d6_46) rfl (by simp) (by decide) (by decide) (by rw [e3]; exact ⟨rfl, N3, K3, A_d_3⟩)
theorem d5_0 : decode jdk_52_method_16_code 0 = .ok (.iload_n 2, 1) := by decide +kernel
theorem d5_1 : decode jdk_52_method_16_code 1 = .ok (.newarray .byte, 2) := by decide +kernel
theorem d5_3 : decode jdk_52_method_16_code 3 = .ok (.astore_n 3, 1) := by decide +kernel
theorem d5_4 : decode jdk_52_method_16_code 4 = .ok (.aload_n 0, 1) := by decide +kernel
theorem d5_5 : decode jdk_52_method_16_code 5 = .ok (.iload_n 1, 1) := by decide +kernel
theorem d5_6 : decode jdk_52_method_16_code 6 = .ok (.aload_n 3, 1) := by decide +kernel
theorem d5_7 : decode jdk_52_method_16_code 7 = .ok (.iconst 0, 1) := by decide +kernel
theorem d5_8 : decode jdk_52_method_16_code 8 = .ok (.iload_n 2, 1) := by decide +kernel
theorem d5_9 : decode jdk_52_method_16_code 9 = .ok (.invokestatic 115, 3) := by decide +kernel
theorem d5_12 : decode jdk_52_method_16_code 12 = .ok (.istore 4, 2) := by decide +kernel
theorem d5_14 : decode jdk_52_method_16_code 14 = .ok (.iload 4, 2) := by decide +kernel
theorem d5_16 : decode jdk_52_method_16_code 16 = .ok (.iload_n 2, 1) := by decide +kernel
theorem d5_17 : decode jdk_52_method_16_code 17 = .ok (.if_icmp .eq 40, 3) := by decide +kernel
theorem d5_20 : decode jdk_52_method_16_code 20 = .ok (.aload_n 0, 1) := by decide +kernel
theorem d5_21 : decode jdk_52_method_16_code 21 = .ok (.iload_n 1, 1) := by decide +kernel
theorem d5_22 : decode jdk_52_method_16_code 22 = .ok (.iload_n 2, 1) := by decide +kernel
theorem d5_23 : decode jdk_52_method_16_code 23 = .ok (.invokestatic 119, 3) := by decide +kernel
theorem d5_26 : decode jdk_52_method_16_code 26 = .ok (.astore 5, 2) := by decide +kernel
theorem d5_28 : decode jdk_52_method_16_code 28 = .ok (.aload 5, 2) := by decide +kernel
theorem d5_30 : decode jdk_52_method_16_code 30 = .ok (.iload 4, 2) := by decide +kernel
theorem d5_32 : decode jdk_52_method_16_code 32 = .ok (.invokestatic 71, 3) := by decide +kernel
theorem d5_35 : decode jdk_52_method_16_code 35 = .ok (.sipush 255, 3) := by decide +kernel
theorem d5_38 : decode jdk_52_method_16_code 38 = .ok (.if_icmp .gt 16, 3) := by decide +kernel
theorem d5_54 : decode jdk_52_method_16_code 54 = .ok (.aload 5, 2) := by decide +kernel
theorem d5_56 : decode jdk_52_method_16_code 56 = .ok (.areturn, 1) := by decide +kernel
theorem own_pd58503 : parseMethodDescriptor "([CI[BII)I" = some ⟨[(.array .char), .int, (.array .byte), .int, .int], some .int⟩ := by decide +kernel
theorem own_pd56262 : parseMethodDescriptor "([CII)[B" = some ⟨[(.array .char), .int, .int], some (.array .byte)⟩ := by decide +kernel
theorem own_pd27418 : parseMethodDescriptor "([BI)C" = some ⟨[(.array .byte), .int], some .char⟩ := by decide +kernel
def own_r_own_cb_3_0 : Room := { frames := 3, cells := 2, slots := 9, locals := 40 }
theorem own_cb_3_0 (l : Launch) (Z : State) (a0 : Array Value) (hw : own_W a0 Z) (ca : Addr) (kc : ClassId) (dc : Value) (c0 c1 c2 : Int32) (h0 : Heap) (n0 : Nat) (hO : Old Z n0 h0) (hU : own_Us Z) (hR0 : own_R c0) (hR1 : own_R c1) (hR2 : own_R c2) (m0 : (255 : Int32) < c0) (Ac : Arv Z h0 ca kc .char 3 [(.int c0), (.int c1), (.int c2)] dc) :
    own_Met l Z (⟨"java/lang/StringUTF16", "compress", "([CII)[B"⟩ : MethodName) jdk_52_method_16_code 6 (some (.array .byte)) own_r_own_cb_3_0 #[(.ref ca), (.int 0), (.int 3)] h0 (own_Qb Z 6 [(.int (own_lo c0)), (.int (own_hi c0)), (.int (own_lo c1)), (.int (own_hi c1)), (.int (own_lo c2)), (.int (own_hi c2))] h0 n0) := by
  refine own_body (by decide +kernel) ?_
  intro p e s m below meth c T0 X0 hx hZ hby hml hown hnm hret hlk e0
  have N0 := Fr.nil n0
  refine own_cast (own_frame (L := [rv ca, iv 0, iv 3]) (ls := #[rv ca, iv 0, iv 3, .unset, .unset, .unset]) rfl rfl) ?_
  refine og_iloadN X0 hx (hb hby d5_0) rfl ?_
  refine own_newP X0 hx hZ (own_hw hw 23 rfl) e0 (hb hby d5_1) (by decide) 3 (by decide) (by decide) (by decide) (by decide) ?_
  intro T1 h1 k1 b1 g1 X1 e1 E1 A1
  have ne_ca_b1 : ca ≠ b1 := Nat.ne_of_lt (Nat.lt_of_lt_of_eq Ac.lt g1.symm)
  have ge_b1 : n0 ≤ b1 := Nat.le_trans (own_oldle hO) (Nat.le_of_eq g1.symm)
  have sz_b1 : h0.size ≤ b1 := Nat.le_trans (Keep.refl h0 []).1 (Nat.le_of_eq g1.symm)
  have A_ca_1 := Ac.ext E1
  have O1 := hO.ext E1
  have K1 := (Keep.refl h0 []).ext E1
  have A_b1_1 : Arv Z h1 b1 k1 .byte 3 [(.int (0 : Int32)), (.int (0 : Int32)), (.int (0 : Int32))] (.int (0 : Int32)) := A1
  show own_Go p e below _ T1 (mkF m 3 #[rv ca, iv 0, iv 3, .unset, .unset, .unset] [(.ref b1)])
  refine og_astoreN X1 hx #[rv ca, iv 0, iv 3, rv b1, .unset, .unset] (hb hby d5_3) rfl rfl ?_
  refine og_aloadN X1 hx (hb hby d5_4) rfl rfl ?_
  refine og_iloadN X1 hx (hb hby d5_5) rfl ?_
  refine og_aloadN X1 hx (hb hby d5_6) rfl rfl ?_
  refine og_iconst X1 hx (hb hby d5_7) ?_
  refine og_iloadN X1 hx (hb hby d5_8) rfl ?_
  refine own_callS X1 hx hZ hown (own_hw hw 24 rfl) (own_hw hw 25 rfl) (own_hw hw 21 rfl) (own_hw hw 26 rfl) (by decide) (argsL := [(.ref ca), (.int 0), (.ref b1), (.int 0), (.int 3)]) (rest := []) (own_cm_3_0 l Z a0 hw ca b1 _ _ _ c0 c1 c2 h1 n0 O1 ge_b1 ne_ca_b1 m0 A_ca_1 A_b1_1) e1 (by rw [hml]; rfl) (lenOf own_pd58503 rfl) rfl (hb hby d5_9) (W := 0) (Nat.le_of_eq rfl) (by decide) ?_
  intro v2 T2 L2 X2 q2
  obtain ⟨rfl, N2q, K2q, A2q⟩ := q2
  have N2 := Fr.app N0 N2q
  have A_ca_2 := A_ca_1.keep K2q (ninS ne_ca_b1 nin0)
  have O2 := O1.keep K2q (allS ge_b1 all0)
  have K2 := K1.trans K2q (allS (Or.inr sz_b1) all0)
  show own_Go p e below _ T2 (mkF m 12 #[rv ca, iv 0, iv 3, rv b1, .unset, .unset] [(.int 0)])
  refine og_istore X2 hx #[rv ca, iv 0, iv 3, rv b1, iv 0, .unset] (hb hby d5_12) rfl ?_
  refine og_iload X2 hx (hb hby d5_14) rfl ?_
  refine og_iloadN X2 hx (hb hby d5_16) rfl ?_
  refine og_icN X2 hx (hb hby d5_17) (feq (by decide)).1 ?_
  refine og_aloadN X2 hx (hb hby d5_20) rfl rfl ?_
  refine og_iloadN X2 hx (hb hby d5_21) rfl ?_
  refine og_iloadN X2 hx (hb hby d5_22) rfl ?_
  refine own_callS X2 hx hZ hown (own_hw hw 79 rfl) (own_hw hw 80 rfl) (own_hw hw 21 rfl) (own_hw hw 81 rfl) (by decide) (argsL := [(.ref ca), (.int 0), (.int 3)]) (rest := []) (own_tb3 l Z a0 hw ca _ _ c0 c1 c2 T2.heap n0 O2 hU A_ca_2) rfl (by rw [hml]; rfl) (lenOf own_pd56262 rfl) rfl (hb hby d5_23) (W := 0) (Nat.le_of_eq rfl) (by decide) ?_
  intro v3 T3 L3 X3 q3
  obtain ⟨b3, k3, rfl, N3q, K3q, z3q, g3q, A3q⟩ := q3
  have N3 := Fr.app N2 N3q
  have ne_b1_b3 : b1 ≠ b3 := Nat.ne_of_lt (Nat.lt_of_lt_of_le A2q.lt z3q)
  have ne_ca_b3 : ca ≠ b3 := Nat.ne_of_lt (Nat.lt_of_lt_of_le A_ca_2.lt z3q)
  have sz_b3 : h0.size ≤ b3 := Nat.le_trans K2.1 z3q
  have A_ca_3 := A_ca_2.keep K3q nin0
  have A_b1_3 := A2q.keep K3q nin0
  have O3 := O2.keep K3q all0
  have K3 := K2.trans K3q all0
  show own_Go p e below _ T3 (mkF m 26 #[rv ca, iv 0, iv 3, rv b1, iv 0, .unset] [(.ref b3)])
  refine og_astore X3 hx #[rv ca, iv 0, iv 3, rv b1, iv 0, rv b3] (hb hby d5_26) rfl rfl ?_
  refine og_aload X3 hx (hb hby d5_28) rfl rfl ?_
  refine og_iload X3 hx (hb hby d5_30) rfl ?_
  refine own_callS X3 hx hZ hown (own_hw hw 95 rfl) (own_hw hw 96 rfl) (own_hw hw 21 rfl) (own_hw hw 97 rfl) (by decide) (argsL := [(.ref b3), (.int 0)]) (rest := []) (own_gt_0_3 l Z a0 hw b3 _ _ c0 (.int (own_lo c1)) (.int (own_hi c1)) (.int (own_lo c2)) (.int (own_hi c2)) T3.heap n0 O3 hU hR0 A3q) rfl (by rw [hml]; rfl) (lenOf own_pd27418 rfl) rfl (hb hby d5_32) (W := 0) (Nat.le_of_eq rfl) (by decide) ?_
  intro v4 T4 L4 X4 q4
  obtain ⟨rfl, N4q, e4⟩ := q4
  have N4 := Fr.app N3 N4q
  show own_Go p e below _ T4 (mkF m 35 #[rv ca, iv 0, iv 3, rv b1, iv 0, rv b3] [(.int c0)])
  refine og_sipush X4 hx (hb hby d5_35) ?_
  refine og_icY X4 hx 54 (hb hby d5_38) (tlt m0).2.2.1 (by decide) (by decide) ?_
  refine og_aload X4 hx (hb hby d5_54) rfl rfl ?_
  exact own_retA X4 hx hret hlk (hb hby d5_56) rfl rfl (by decide) (by decide) (by rw [e4]; exact ⟨b3, _, rfl, N4, K3, sz_b3, g3q, A3q⟩)
theorem own_cb_3_1 (l : Launch) (Z : State) (a0 : Array Value) (hw : own_W a0 Z) (ca : Addr) (kc : ClassId) (dc : Value) (c0 c1 c2 : Int32) (h0 : Heap) (n0 : Nat) (hO : Old Z n0 h0) (hU : own_Us Z) (hR0 : own_R c0) (hR1 : own_R c1) (hR2 : own_R c2) (m0 : ¬ (255 : Int32) < c0) (m1 : (255 : Int32) < c1) (Ac : Arv Z h0 ca kc .char 3 [(.int c0), (.int c1), (.int c2)] dc) :
    own_Met l Z (⟨"java/lang/StringUTF16", "compress", "([CII)[B"⟩ : MethodName) jdk_52_method_16_code 6 (some (.array .byte)) own_r_own_cb_3_0 #[(.ref ca), (.int 0), (.int 3)] h0 (own_Qb Z 6 [(.int (own_lo c0)), (.int (own_hi c0)), (.int (own_lo c1)), (.int (own_hi c1)), (.int (own_lo c2)), (.int (own_hi c2))] h0 n0) := by
  refine own_body (by decide +kernel) ?_
  intro p e s m below meth c T0 X0 hx hZ hby hml hown hnm hret hlk e0
  have N0 := Fr.nil n0
  refine own_cast (own_frame (L := [rv ca, iv 0, iv 3]) (ls := #[rv ca, iv 0, iv 3, .unset, .unset, .unset]) rfl rfl) ?_
  refine og_iloadN X0 hx (hb hby d5_0) rfl ?_
  refine own_newP X0 hx hZ (own_hw hw 23 rfl) e0 (hb hby d5_1) (by decide) 3 (by decide) (by decide) (by decide) (by decide) ?_
  intro T1 h1 k1 b1 g1 X1 e1 E1 A1
  have ne_ca_b1 : ca ≠ b1 := Nat.ne_of_lt (Nat.lt_of_lt_of_eq Ac.lt g1.symm)
  have ge_b1 : n0 ≤ b1 := Nat.le_trans (own_oldle hO) (Nat.le_of_eq g1.symm)
  have sz_b1 : h0.size ≤ b1 := Nat.le_trans (Keep.refl h0 []).1 (Nat.le_of_eq g1.symm)
  have A_ca_1 := Ac.ext E1
  have O1 := hO.ext E1
  have K1 := (Keep.refl h0 []).ext E1
  have A_b1_1 : Arv Z h1 b1 k1 .byte 3 [(.int (0 : Int32)), (.int (0 : Int32)), (.int (0 : Int32))] (.int (0 : Int32)) := A1
  show own_Go p e below _ T1 (mkF m 3 #[rv ca, iv 0, iv 3, .unset, .unset, .unset] [(.ref b1)])
  refine og_astoreN X1 hx #[rv ca, iv 0, iv 3, rv b1, .unset, .unset] (hb hby d5_3) rfl rfl ?_
  refine og_aloadN X1 hx (hb hby d5_4) rfl rfl ?_
  refine og_iloadN X1 hx (hb hby d5_5) rfl ?_
  refine og_aloadN X1 hx (hb hby d5_6) rfl rfl ?_
  refine og_iconst X1 hx (hb hby d5_7) ?_
  refine og_iloadN X1 hx (hb hby d5_8) rfl ?_
  refine own_callS X1 hx hZ hown (own_hw hw 24 rfl) (own_hw hw 25 rfl) (own_hw hw 21 rfl) (own_hw hw 26 rfl) (by decide) (argsL := [(.ref ca), (.int 0), (.ref b1), (.int 0), (.int 3)]) (rest := []) (own_cm_3_1 l Z a0 hw ca b1 _ _ _ c0 c1 c2 h1 n0 O1 ge_b1 ne_ca_b1 m0 m1 A_ca_1 A_b1_1) e1 (by rw [hml]; rfl) (lenOf own_pd58503 rfl) rfl (hb hby d5_9) (W := 0) (Nat.le_of_eq rfl) (by decide) ?_
  intro v2 T2 L2 X2 q2
  obtain ⟨rfl, N2q, K2q, A2q⟩ := q2
  have N2 := Fr.app N0 N2q
  have A_ca_2 := A_ca_1.keep K2q (ninS ne_ca_b1 nin0)
  have O2 := O1.keep K2q (allS ge_b1 all0)
  have K2 := K1.trans K2q (allS (Or.inr sz_b1) all0)
  show own_Go p e below _ T2 (mkF m 12 #[rv ca, iv 0, iv 3, rv b1, .unset, .unset] [(.int 1)])
  refine og_istore X2 hx #[rv ca, iv 0, iv 3, rv b1, iv 1, .unset] (hb hby d5_12) rfl ?_
  refine og_iload X2 hx (hb hby d5_14) rfl ?_
  refine og_iloadN X2 hx (hb hby d5_16) rfl ?_
  refine og_icN X2 hx (hb hby d5_17) (feq (by decide)).1 ?_
  refine og_aloadN X2 hx (hb hby d5_20) rfl rfl ?_
  refine og_iloadN X2 hx (hb hby d5_21) rfl ?_
  refine og_iloadN X2 hx (hb hby d5_22) rfl ?_
  refine own_callS X2 hx hZ hown (own_hw hw 79 rfl) (own_hw hw 80 rfl) (own_hw hw 21 rfl) (own_hw hw 81 rfl) (by decide) (argsL := [(.ref ca), (.int 0), (.int 3)]) (rest := []) (own_tb3 l Z a0 hw ca _ _ c0 c1 c2 T2.heap n0 O2 hU A_ca_2) rfl (by rw [hml]; rfl) (lenOf own_pd56262 rfl) rfl (hb hby d5_23) (W := 0) (Nat.le_of_eq rfl) (by decide) ?_
  intro v3 T3 L3 X3 q3
  obtain ⟨b3, k3, rfl, N3q, K3q, z3q, g3q, A3q⟩ := q3
  have N3 := Fr.app N2 N3q
  have ne_b1_b3 : b1 ≠ b3 := Nat.ne_of_lt (Nat.lt_of_lt_of_le A2q.lt z3q)
  have ne_ca_b3 : ca ≠ b3 := Nat.ne_of_lt (Nat.lt_of_lt_of_le A_ca_2.lt z3q)
  have sz_b3 : h0.size ≤ b3 := Nat.le_trans K2.1 z3q
  have A_ca_3 := A_ca_2.keep K3q nin0
  have A_b1_3 := A2q.keep K3q nin0
  have O3 := O2.keep K3q all0
  have K3 := K2.trans K3q all0
  show own_Go p e below _ T3 (mkF m 26 #[rv ca, iv 0, iv 3, rv b1, iv 1, .unset] [(.ref b3)])
  refine og_astore X3 hx #[rv ca, iv 0, iv 3, rv b1, iv 1, rv b3] (hb hby d5_26) rfl rfl ?_
  refine og_aload X3 hx (hb hby d5_28) rfl rfl ?_
  refine og_iload X3 hx (hb hby d5_30) rfl ?_
  refine own_callS X3 hx hZ hown (own_hw hw 95 rfl) (own_hw hw 96 rfl) (own_hw hw 21 rfl) (own_hw hw 97 rfl) (by decide) (argsL := [(.ref b3), (.int 1)]) (rest := []) (own_gt_1_3 l Z a0 hw b3 _ _ c1 (.int (own_lo c0)) (.int (own_hi c0)) (.int (own_lo c2)) (.int (own_hi c2)) T3.heap n0 O3 hU hR1 A3q) rfl (by rw [hml]; rfl) (lenOf own_pd27418 rfl) rfl (hb hby d5_32) (W := 0) (Nat.le_of_eq rfl) (by decide) ?_
  intro v4 T4 L4 X4 q4
  obtain ⟨rfl, N4q, e4⟩ := q4
  have N4 := Fr.app N3 N4q
  show own_Go p e below _ T4 (mkF m 35 #[rv ca, iv 0, iv 3, rv b1, iv 1, rv b3] [(.int c1)])
  refine og_sipush X4 hx (hb hby d5_35) ?_
  refine og_icY X4 hx 54 (hb hby d5_38) (tlt m1).2.2.1 (by decide) (by decide) ?_
  refine og_aload X4 hx (hb hby d5_54) rfl rfl ?_
  exact own_retA X4 hx hret hlk (hb hby d5_56) rfl rfl (by decide) (by decide) (by rw [e4]; exact ⟨b3, _, rfl, N4, K3, sz_b3, g3q, A3q⟩)
theorem own_cb_3_2 (l : Launch) (Z : State) (a0 : Array Value) (hw : own_W a0 Z) (ca : Addr) (kc : ClassId) (dc : Value) (c0 c1 c2 : Int32) (h0 : Heap) (n0 : Nat) (hO : Old Z n0 h0) (hU : own_Us Z) (hR0 : own_R c0) (hR1 : own_R c1) (hR2 : own_R c2) (m0 : ¬ (255 : Int32) < c0) (m1 : ¬ (255 : Int32) < c1) (m2 : (255 : Int32) < c2) (Ac : Arv Z h0 ca kc .char 3 [(.int c0), (.int c1), (.int c2)] dc) :
    own_Met l Z (⟨"java/lang/StringUTF16", "compress", "([CII)[B"⟩ : MethodName) jdk_52_method_16_code 6 (some (.array .byte)) own_r_own_cb_3_0 #[(.ref ca), (.int 0), (.int 3)] h0 (own_Qb Z 6 [(.int (own_lo c0)), (.int (own_hi c0)), (.int (own_lo c1)), (.int (own_hi c1)), (.int (own_lo c2)), (.int (own_hi c2))] h0 n0) := by
  refine own_body (by decide +kernel) ?_
  intro p e s m below meth c T0 X0 hx hZ hby hml hown hnm hret hlk e0
  have N0 := Fr.nil n0
  refine own_cast (own_frame (L := [rv ca, iv 0, iv 3]) (ls := #[rv ca, iv 0, iv 3, .unset, .unset, .unset]) rfl rfl) ?_
  refine og_iloadN X0 hx (hb hby d5_0) rfl ?_
  refine own_newP X0 hx hZ (own_hw hw 23 rfl) e0 (hb hby d5_1) (by decide) 3 (by decide) (by decide) (by decide) (by decide) ?_
  intro T1 h1 k1 b1 g1 X1 e1 E1 A1
  have ne_ca_b1 : ca ≠ b1 := Nat.ne_of_lt (Nat.lt_of_lt_of_eq Ac.lt g1.symm)
  have ge_b1 : n0 ≤ b1 := Nat.le_trans (own_oldle hO) (Nat.le_of_eq g1.symm)
  have sz_b1 : h0.size ≤ b1 := Nat.le_trans (Keep.refl h0 []).1 (Nat.le_of_eq g1.symm)
  have A_ca_1 := Ac.ext E1
  have O1 := hO.ext E1
  have K1 := (Keep.refl h0 []).ext E1
  have A_b1_1 : Arv Z h1 b1 k1 .byte 3 [(.int (0 : Int32)), (.int (0 : Int32)), (.int (0 : Int32))] (.int (0 : Int32)) := A1
  show own_Go p e below _ T1 (mkF m 3 #[rv ca, iv 0, iv 3, .unset, .unset, .unset] [(.ref b1)])
  refine og_astoreN X1 hx #[rv ca, iv 0, iv 3, rv b1, .unset, .unset] (hb hby d5_3) rfl rfl ?_
  refine og_aloadN X1 hx (hb hby d5_4) rfl rfl ?_
  refine og_iloadN X1 hx (hb hby d5_5) rfl ?_
  refine og_aloadN X1 hx (hb hby d5_6) rfl rfl ?_
  refine og_iconst X1 hx (hb hby d5_7) ?_
  refine og_iloadN X1 hx (hb hby d5_8) rfl ?_
  refine own_callS X1 hx hZ hown (own_hw hw 24 rfl) (own_hw hw 25 rfl) (own_hw hw 21 rfl) (own_hw hw 26 rfl) (by decide) (argsL := [(.ref ca), (.int 0), (.ref b1), (.int 0), (.int 3)]) (rest := []) (own_cm_3_2 l Z a0 hw ca b1 _ _ _ c0 c1 c2 h1 n0 O1 ge_b1 ne_ca_b1 m0 m1 m2 A_ca_1 A_b1_1) e1 (by rw [hml]; rfl) (lenOf own_pd58503 rfl) rfl (hb hby d5_9) (W := 0) (Nat.le_of_eq rfl) (by decide) ?_
  intro v2 T2 L2 X2 q2
  obtain ⟨rfl, N2q, K2q, A2q⟩ := q2
  have N2 := Fr.app N0 N2q
  have A_ca_2 := A_ca_1.keep K2q (ninS ne_ca_b1 nin0)
  have O2 := O1.keep K2q (allS ge_b1 all0)
  have K2 := K1.trans K2q (allS (Or.inr sz_b1) all0)
  show own_Go p e below _ T2 (mkF m 12 #[rv ca, iv 0, iv 3, rv b1, .unset, .unset] [(.int 2)])
  refine og_istore X2 hx #[rv ca, iv 0, iv 3, rv b1, iv 2, .unset] (hb hby d5_12) rfl ?_
  refine og_iload X2 hx (hb hby d5_14) rfl ?_
  refine og_iloadN X2 hx (hb hby d5_16) rfl ?_
  refine og_icN X2 hx (hb hby d5_17) (feq (by decide)).1 ?_
  refine og_aloadN X2 hx (hb hby d5_20) rfl rfl ?_
  refine og_iloadN X2 hx (hb hby d5_21) rfl ?_
  refine og_iloadN X2 hx (hb hby d5_22) rfl ?_
  refine own_callS X2 hx hZ hown (own_hw hw 79 rfl) (own_hw hw 80 rfl) (own_hw hw 21 rfl) (own_hw hw 81 rfl) (by decide) (argsL := [(.ref ca), (.int 0), (.int 3)]) (rest := []) (own_tb3 l Z a0 hw ca _ _ c0 c1 c2 T2.heap n0 O2 hU A_ca_2) rfl (by rw [hml]; rfl) (lenOf own_pd56262 rfl) rfl (hb hby d5_23) (W := 0) (Nat.le_of_eq rfl) (by decide) ?_
  intro v3 T3 L3 X3 q3
  obtain ⟨b3, k3, rfl, N3q, K3q, z3q, g3q, A3q⟩ := q3
  have N3 := Fr.app N2 N3q
  have ne_b1_b3 : b1 ≠ b3 := Nat.ne_of_lt (Nat.lt_of_lt_of_le A2q.lt z3q)
  have ne_ca_b3 : ca ≠ b3 := Nat.ne_of_lt (Nat.lt_of_lt_of_le A_ca_2.lt z3q)
  have sz_b3 : h0.size ≤ b3 := Nat.le_trans K2.1 z3q
  have A_ca_3 := A_ca_2.keep K3q nin0
  have A_b1_3 := A2q.keep K3q nin0
  have O3 := O2.keep K3q all0
  have K3 := K2.trans K3q all0
  show own_Go p e below _ T3 (mkF m 26 #[rv ca, iv 0, iv 3, rv b1, iv 2, .unset] [(.ref b3)])
  refine og_astore X3 hx #[rv ca, iv 0, iv 3, rv b1, iv 2, rv b3] (hb hby d5_26) rfl rfl ?_
  refine og_aload X3 hx (hb hby d5_28) rfl rfl ?_
  refine og_iload X3 hx (hb hby d5_30) rfl ?_
  refine own_callS X3 hx hZ hown (own_hw hw 95 rfl) (own_hw hw 96 rfl) (own_hw hw 21 rfl) (own_hw hw 97 rfl) (by decide) (argsL := [(.ref b3), (.int 2)]) (rest := []) (own_gt_2_3 l Z a0 hw b3 _ _ c2 (.int (own_lo c0)) (.int (own_hi c0)) (.int (own_lo c1)) (.int (own_hi c1)) T3.heap n0 O3 hU hR2 A3q) rfl (by rw [hml]; rfl) (lenOf own_pd27418 rfl) rfl (hb hby d5_32) (W := 0) (Nat.le_of_eq rfl) (by decide) ?_
  intro v4 T4 L4 X4 q4
  obtain ⟨rfl, N4q, e4⟩ := q4
  have N4 := Fr.app N3 N4q
  show own_Go p e below _ T4 (mkF m 35 #[rv ca, iv 0, iv 3, rv b1, iv 2, rv b3] [(.int c2)])
  refine og_sipush X4 hx (hb hby d5_35) ?_
  refine og_icY X4 hx 54 (hb hby d5_38) (tlt m2).2.2.1 (by decide) (by decide) ?_
  refine og_aload X4 hx (hb hby d5_54) rfl rfl ?_
  exact own_retA X4 hx hret hlk (hb hby d5_56) rfl rfl (by decide) (by decide) (by rw [e4]; exact ⟨b3, _, rfl, N4, K3, sz_b3, g3q, A3q⟩)
theorem d5_57 : decode jdk_52_method_16_code 57 = .ok (.aload_n 3, 1) := by decide +kernel
theorem d5_58 : decode jdk_52_method_16_code 58 = .ok (.areturn, 1) := by decide +kernel
theorem own_cb_3_3 (l : Launch) (Z : State) (a0 : Array Value) (hw : own_W a0 Z) (ca : Addr) (kc : ClassId) (dc : Value) (c0 c1 c2 : Int32) (h0 : Heap) (n0 : Nat) (hO : Old Z n0 h0) (hU : own_Us Z) (hR0 : own_R c0) (hR1 : own_R c1) (hR2 : own_R c2) (m0 : ¬ (255 : Int32) < c0) (m1 : ¬ (255 : Int32) < c1) (m2 : ¬ (255 : Int32) < c2) (Ac : Arv Z h0 ca kc .char 3 [(.int c0), (.int c1), (.int c2)] dc) :
    own_Met l Z (⟨"java/lang/StringUTF16", "compress", "([CII)[B"⟩ : MethodName) jdk_52_method_16_code 6 (some (.array .byte)) own_r_own_cb_3_0 #[(.ref ca), (.int 0), (.int 3)] h0 (own_Qb Z 3 [(.int c0.toInt8.toInt32), (.int c1.toInt8.toInt32), (.int c2.toInt8.toInt32)] h0 n0) := by
  refine own_body (by decide +kernel) ?_
  intro p e s m below meth c T0 X0 hx hZ hby hml hown hnm hret hlk e0
  have N0 := Fr.nil n0
  refine own_cast (own_frame (L := [rv ca, iv 0, iv 3]) (ls := #[rv ca, iv 0, iv 3, .unset, .unset, .unset]) rfl rfl) ?_
  refine og_iloadN X0 hx (hb hby d5_0) rfl ?_
  refine own_newP X0 hx hZ (own_hw hw 23 rfl) e0 (hb hby d5_1) (by decide) 3 (by decide) (by decide) (by decide) (by decide) ?_
  intro T1 h1 k1 b1 g1 X1 e1 E1 A1
  have ne_ca_b1 : ca ≠ b1 := Nat.ne_of_lt (Nat.lt_of_lt_of_eq Ac.lt g1.symm)
  have ge_b1 : n0 ≤ b1 := Nat.le_trans (own_oldle hO) (Nat.le_of_eq g1.symm)
  have sz_b1 : h0.size ≤ b1 := Nat.le_trans (Keep.refl h0 []).1 (Nat.le_of_eq g1.symm)
  have A_ca_1 := Ac.ext E1
  have O1 := hO.ext E1
  have K1 := (Keep.refl h0 []).ext E1
  have A_b1_1 : Arv Z h1 b1 k1 .byte 3 [(.int (0 : Int32)), (.int (0 : Int32)), (.int (0 : Int32))] (.int (0 : Int32)) := A1
  show own_Go p e below _ T1 (mkF m 3 #[rv ca, iv 0, iv 3, .unset, .unset, .unset] [(.ref b1)])
  refine og_astoreN X1 hx #[rv ca, iv 0, iv 3, rv b1, .unset, .unset] (hb hby d5_3) rfl rfl ?_
  refine og_aloadN X1 hx (hb hby d5_4) rfl rfl ?_
  refine og_iloadN X1 hx (hb hby d5_5) rfl ?_
  refine og_aloadN X1 hx (hb hby d5_6) rfl rfl ?_
  refine og_iconst X1 hx (hb hby d5_7) ?_
  refine og_iloadN X1 hx (hb hby d5_8) rfl ?_
  refine own_callS X1 hx hZ hown (own_hw hw 24 rfl) (own_hw hw 25 rfl) (own_hw hw 21 rfl) (own_hw hw 26 rfl) (by decide) (argsL := [(.ref ca), (.int 0), (.ref b1), (.int 0), (.int 3)]) (rest := []) (own_cm_3_3 l Z a0 hw ca b1 _ _ _ c0 c1 c2 h1 n0 O1 ge_b1 ne_ca_b1 m0 m1 m2 A_ca_1 A_b1_1) e1 (by rw [hml]; rfl) (lenOf own_pd58503 rfl) rfl (hb hby d5_9) (W := 0) (Nat.le_of_eq rfl) (by decide) ?_
  intro v2 T2 L2 X2 q2
  obtain ⟨rfl, N2q, K2q, A2q⟩ := q2
  have N2 := Fr.app N0 N2q
  have A_ca_2 := A_ca_1.keep K2q (ninS ne_ca_b1 nin0)
  have O2 := O1.keep K2q (allS ge_b1 all0)
  have K2 := K1.trans K2q (allS (Or.inr sz_b1) all0)
  show own_Go p e below _ T2 (mkF m 12 #[rv ca, iv 0, iv 3, rv b1, .unset, .unset] [(.int 3)])
  refine og_istore X2 hx #[rv ca, iv 0, iv 3, rv b1, iv 3, .unset] (hb hby d5_12) rfl ?_
  refine og_iload X2 hx (hb hby d5_14) rfl ?_
  refine og_iloadN X2 hx (hb hby d5_16) rfl ?_
  refine og_icY X2 hx 57 (hb hby d5_17) (teq rfl).1 (by decide) (by decide) ?_
  refine og_aloadN X2 hx (hb hby d5_57) rfl rfl ?_
  exact own_retA X2 hx hret hlk (hb hby d5_58) rfl rfl (by decide) (by decide) (⟨b1, _, rfl, N2, K2, sz_b1, ge_b1, A2q⟩)
theorem own_cm_2_0 (l : Launch) (Z : State) (a0 : Array Value) (hw : own_W a0 Z) (ca d : Addr) (kc kd : ClassId) (dc : Value) (c0 c1 : Int32) (h0 : Heap) (n0 : Nat) (hO : Old Z n0 h0) (gd : n0 ≤ d) (ncd : ca ≠ d) (m0 : (255 : Int32) < c0) (Ac : Arv Z h0 ca kc .char 2 [(.int c0), (.int c1)] dc) (Ad : Arv Z h0 d kd .byte 2 [(.int (0 : Int32)), (.int (0 : Int32))] (.int (0 : Int32))) :
    own_Met l Z (⟨"java/lang/StringUTF16", "compress", "([CI[BII)I"⟩ : MethodName) jdk_52_method_21_code 7 (some .int) own_r_cm #[(.ref ca), (.int 0), (.ref d), (.int 0), (.int 2)] h0 (own_Qc Z d kd 0 2 [(.int (0 : Int32)), (.int (0 : Int32))] h0 n0) := by
  refine own_body (by decide +kernel) ?_
  intro p e s m below meth c T0 X0 hx hZ hby hml hown hnm hret hlk e0
  have N0 := Fr.nil n0
  refine own_cast (own_frame (L := [rv ca, iv 0, rv d, iv 0, iv 2]) (ls := #[rv ca, iv 0, rv d, iv 0, iv 2, .unset, .unset]) rfl rfl) ?_
  refine og_iconst X0 hx (hb hby d6_0) ?_
  refine og_istore X0 hx #[rv ca, iv 0, rv d, iv 0, iv 2, iv 0, .unset] (hb hby d6_1) rfl ?_
  refine og_iload X0 hx (hb hby d6_3) rfl ?_
  refine og_iload X0 hx (hb hby d6_5) rfl ?_
  refine og_icN X0 hx (hb hby d6_7) (tlt (by decide)).2.1 ?_
  refine og_aloadN X0 hx (hb hby d6_10) rfl rfl ?_
  refine og_iloadN X0 hx (hb hby d6_11) rfl ?_
  refine own_ldC X0 hx hZ e0 Ac ⟨by decide, by decide⟩ rfl (hb hby d6_12) ?_
  show own_Go p e below _ T0 (mkF m 13 #[rv ca, iv 0, rv d, iv 0, iv 2, iv 0, .unset] [(.int c0)])
  refine og_istore X0 hx #[rv ca, iv 0, rv d, iv 0, iv 2, iv 0, iv c0] (hb hby d6_13) rfl ?_
  refine og_iload X0 hx (hb hby d6_15) rfl ?_
  refine og_sipush X0 hx (hb hby d6_17) ?_
  refine og_icN X0 hx (hb hby d6_20) (tlt m0).2.2.2 ?_
  refine og_iload X0 hx (hb hby d6_23) rfl ?_
  exact own_retI X0 hx hret hlk (hb hby d6_25) rfl (by simp) (by decide) (by decide) (by rw [e0]; exact ⟨rfl, N0, (Keep.refl h0 [d]), Ad⟩)
theorem own_cm_2_1 (l : Launch) (Z : State) (a0 : Array Value) (hw : own_W a0 Z) (ca d : Addr) (kc kd : ClassId) (dc : Value) (c0 c1 : Int32) (h0 : Heap) (n0 : Nat) (hO : Old Z n0 h0) (gd : n0 ≤ d) (ncd : ca ≠ d) (m0 : ¬ (255 : Int32) < c0) (m1 : (255 : Int32) < c1) (Ac : Arv Z h0 ca kc .char 2 [(.int c0), (.int c1)] dc) (Ad : Arv Z h0 d kd .byte 2 [(.int (0 : Int32)), (.int (0 : Int32))] (.int (0 : Int32))) :
    own_Met l Z (⟨"java/lang/StringUTF16", "compress", "([CI[BII)I"⟩ : MethodName) jdk_52_method_21_code 7 (some .int) own_r_cm #[(.ref ca), (.int 0), (.ref d), (.int 0), (.int 2)] h0 (own_Qc Z d kd 1 2 [(.int c0.toInt8.toInt32), (.int (0 : Int32))] h0 n0) := by
  refine own_body (by decide +kernel) ?_
  intro p e s m below meth c T0 X0 hx hZ hby hml hown hnm hret hlk e0
  have N0 := Fr.nil n0
  refine own_cast (own_frame (L := [rv ca, iv 0, rv d, iv 0, iv 2]) (ls := #[rv ca, iv 0, rv d, iv 0, iv 2, .unset, .unset]) rfl rfl) ?_
  refine og_iconst X0 hx (hb hby d6_0) ?_
  refine og_istore X0 hx #[rv ca, iv 0, rv d, iv 0, iv 2, iv 0, .unset] (hb hby d6_1) rfl ?_
  refine og_iload X0 hx (hb hby d6_3) rfl ?_
  refine og_iload X0 hx (hb hby d6_5) rfl ?_
  refine og_icN X0 hx (hb hby d6_7) (tlt (by decide)).2.1 ?_
  refine og_aloadN X0 hx (hb hby d6_10) rfl rfl ?_
  refine og_iloadN X0 hx (hb hby d6_11) rfl ?_
  refine own_ldC X0 hx hZ e0 Ac ⟨by decide, by decide⟩ rfl (hb hby d6_12) ?_
  show own_Go p e below _ T0 (mkF m 13 #[rv ca, iv 0, rv d, iv 0, iv 2, iv 0, .unset] [(.int c0)])
  refine og_istore X0 hx #[rv ca, iv 0, rv d, iv 0, iv 2, iv 0, iv c0] (hb hby d6_13) rfl ?_
  refine og_iload X0 hx (hb hby d6_15) rfl ?_
  refine og_sipush X0 hx (hb hby d6_17) ?_
  refine og_icY X0 hx 26 (hb hby d6_20) (flt m0).2.2.2 (by decide) (by decide) ?_
  refine og_aloadN X0 hx (hb hby d6_26) rfl rfl ?_
  refine og_iloadN X0 hx (hb hby d6_27) rfl ?_
  refine og_iload X0 hx (hb hby d6_28) rfl ?_
  refine own_go (fun t k => XS.i2b X0.here hx rfl (hb hby d6_30) rfl k) ?_
  show own_Go p e below _ T0 (mkF m 31 #[rv ca, iv 0, rv d, iv 0, iv 2, iv 0, iv c0] [(.int (c0.toInt8.toInt32)), (.int 0), (.ref d)])
  refine own_stB X0 hx hZ e0 Ad ⟨by decide, by decide⟩ 0 rfl (by show 0 < 2; decide) (hb hby d6_31) ?_
  intro T1 h1 X1 e1 W1 A1
  have A_ca_1 := Ac.other W1 ncd
  have O1 := hO.wr W1 gd
  have K1 := (Keep.refl h0 [d]).wr W1 (Or.inl (by simp))
  have N1 := Fr.snoc X1 N0 gd
  have A_d_1 : Arv Z h1 d kd .byte 2 [(.int c0.toInt8.toInt32), (.int (0 : Int32))] (.int (0 : Int32)) := (by have q := A1; rw [own_bb c0] at q; exact q)
  show own_Go p e below _ T1 (mkF m 32 #[rv ca, iv 0, rv d, iv 0, iv 2, iv 0, iv c0] [])
  refine own_go (fun t k => XS.iinc X1.here hx rfl (hb hby d6_32) rfl (l' := #[rv ca, iv 1, rv d, iv 0, iv 2, iv 0, iv c0]) rfl k) ?_
  show own_Go p e below _ T1 (mkF m 35 #[rv ca, iv 1, rv d, iv 0, iv 2, iv 0, iv c0] [])
  refine own_go (fun t k => XS.iinc X1.here hx rfl (hb hby d6_35) rfl (l' := #[rv ca, iv 1, rv d, iv 1, iv 2, iv 0, iv c0]) rfl k) ?_
  show own_Go p e below _ T1 (mkF m 38 #[rv ca, iv 1, rv d, iv 1, iv 2, iv 0, iv c0] [])
  refine own_go (fun t k => XS.iinc X1.here hx rfl (hb hby d6_38) rfl (l' := #[rv ca, iv 1, rv d, iv 1, iv 2, iv 1, iv c0]) rfl k) ?_
  show own_Go p e below _ T1 (mkF m 41 #[rv ca, iv 1, rv d, iv 1, iv 2, iv 1, iv c0] [])
  refine og_goto X1 hx 3 (hb hby d6_41) (by decide) (by decide) ?_
  refine og_iload X1 hx (hb hby d6_3) rfl ?_
  refine og_iload X1 hx (hb hby d6_5) rfl ?_
  refine og_icN X1 hx (hb hby d6_7) (tlt (by decide)).2.1 ?_
  refine og_aloadN X1 hx (hb hby d6_10) rfl rfl ?_
  refine og_iloadN X1 hx (hb hby d6_11) rfl ?_
  refine own_ldC X1 hx hZ e1 A_ca_1 ⟨by decide, by decide⟩ rfl (hb hby d6_12) ?_
  show own_Go p e below _ T1 (mkF m 13 #[rv ca, iv 1, rv d, iv 1, iv 2, iv 1, iv c0] [(.int c1)])
  refine og_istore X1 hx #[rv ca, iv 1, rv d, iv 1, iv 2, iv 1, iv c1] (hb hby d6_13) rfl ?_
  refine og_iload X1 hx (hb hby d6_15) rfl ?_
  refine og_sipush X1 hx (hb hby d6_17) ?_
  refine og_icN X1 hx (hb hby d6_20) (tlt m1).2.2.2 ?_
  refine og_iload X1 hx (hb hby d6_23) rfl ?_
  exact own_retI X1 hx hret hlk (hb hby d6_25) rfl (by simp) (by decide) (by decide) (by rw [e1]; exact ⟨rfl, N1, K1, A_d_1⟩)
theorem own_cm_2_2 (l : Launch) (Z : State) (a0 : Array Value) (hw : own_W a0 Z) (ca d : Addr) (kc kd : ClassId) (dc : Value) (c0 c1 : Int32) (h0 : Heap) (n0 : Nat) (hO : Old Z n0 h0) (gd : n0 ≤ d) (ncd : ca ≠ d) (m0 : ¬ (255 : Int32) < c0) (m1 : ¬ (255 : Int32) < c1) (Ac : Arv Z h0 ca kc .char 2 [(.int c0), (.int c1)] dc) (Ad : Arv Z h0 d kd .byte 2 [(.int (0 : Int32)), (.int (0 : Int32))] (.int (0 : Int32))) :
    own_Met l Z (⟨"java/lang/StringUTF16", "compress", "([CI[BII)I"⟩ : MethodName) jdk_52_method_21_code 7 (some .int) own_r_cm #[(.ref ca), (.int 0), (.ref d), (.int 0), (.int 2)] h0 (own_Qc Z d kd 2 2 [(.int c0.toInt8.toInt32), (.int c1.toInt8.toInt32)] h0 n0) := by
  refine own_body (by decide +kernel) ?_
  intro p e s m below meth c T0 X0 hx hZ hby hml hown hnm hret hlk e0
  have N0 := Fr.nil n0
  refine own_cast (own_frame (L := [rv ca, iv 0, rv d, iv 0, iv 2]) (ls := #[rv ca, iv 0, rv d, iv 0, iv 2, .unset, .unset]) rfl rfl) ?_
  refine og_iconst X0 hx (hb hby d6_0) ?_
  refine og_istore X0 hx #[rv ca, iv 0, rv d, iv 0, iv 2, iv 0, .unset] (hb hby d6_1) rfl ?_
  refine og_iload X0 hx (hb hby d6_3) rfl ?_
  refine og_iload X0 hx (hb hby d6_5) rfl ?_
  refine og_icN X0 hx (hb hby d6_7) (tlt (by decide)).2.1 ?_
  refine og_aloadN X0 hx (hb hby d6_10) rfl rfl ?_
  refine og_iloadN X0 hx (hb hby d6_11) rfl ?_
  refine own_ldC X0 hx hZ e0 Ac ⟨by decide, by decide⟩ rfl (hb hby d6_12) ?_
  show own_Go p e below _ T0 (mkF m 13 #[rv ca, iv 0, rv d, iv 0, iv 2, iv 0, .unset] [(.int c0)])
  refine og_istore X0 hx #[rv ca, iv 0, rv d, iv 0, iv 2, iv 0, iv c0] (hb hby d6_13) rfl ?_
  refine og_iload X0 hx (hb hby d6_15) rfl ?_
  refine og_sipush X0 hx (hb hby d6_17) ?_
  refine og_icY X0 hx 26 (hb hby d6_20) (flt m0).2.2.2 (by decide) (by decide) ?_
  refine og_aloadN X0 hx (hb hby d6_26) rfl rfl ?_
  refine og_iloadN X0 hx (hb hby d6_27) rfl ?_
  refine og_iload X0 hx (hb hby d6_28) rfl ?_
  refine own_go (fun t k => XS.i2b X0.here hx rfl (hb hby d6_30) rfl k) ?_
  show own_Go p e below _ T0 (mkF m 31 #[rv ca, iv 0, rv d, iv 0, iv 2, iv 0, iv c0] [(.int (c0.toInt8.toInt32)), (.int 0), (.ref d)])
  refine own_stB X0 hx hZ e0 Ad ⟨by decide, by decide⟩ 0 rfl (by show 0 < 2; decide) (hb hby d6_31) ?_
  intro T1 h1 X1 e1 W1 A1
  have A_ca_1 := Ac.other W1 ncd
  have O1 := hO.wr W1 gd
  have K1 := (Keep.refl h0 [d]).wr W1 (Or.inl (by simp))
  have N1 := Fr.snoc X1 N0 gd
  have A_d_1 : Arv Z h1 d kd .byte 2 [(.int c0.toInt8.toInt32), (.int (0 : Int32))] (.int (0 : Int32)) := (by have q := A1; rw [own_bb c0] at q; exact q)
  show own_Go p e below _ T1 (mkF m 32 #[rv ca, iv 0, rv d, iv 0, iv 2, iv 0, iv c0] [])
  refine own_go (fun t k => XS.iinc X1.here hx rfl (hb hby d6_32) rfl (l' := #[rv ca, iv 1, rv d, iv 0, iv 2, iv 0, iv c0]) rfl k) ?_
  show own_Go p e below _ T1 (mkF m 35 #[rv ca, iv 1, rv d, iv 0, iv 2, iv 0, iv c0] [])
  refine own_go (fun t k => XS.iinc X1.here hx rfl (hb hby d6_35) rfl (l' := #[rv ca, iv 1, rv d, iv 1, iv 2, iv 0, iv c0]) rfl k) ?_
  show own_Go p e below _ T1 (mkF m 38 #[rv ca, iv 1, rv d, iv 1, iv 2, iv 0, iv c0] [])
  refine own_go (fun t k => XS.iinc X1.here hx rfl (hb hby d6_38) rfl (l' := #[rv ca, iv 1, rv d, iv 1, iv 2, iv 1, iv c0]) rfl k) ?_
  show own_Go p e below _ T1 (mkF m 41 #[rv ca, iv 1, rv d, iv 1, iv 2, iv 1, iv c0] [])
  refine og_goto X1 hx 3 (hb hby d6_41) (by decide) (by decide) ?_
  refine og_iload X1 hx (hb hby d6_3) rfl ?_
  refine og_iload X1 hx (hb hby d6_5) rfl ?_
  refine og_icN X1 hx (hb hby d6_7) (tlt (by decide)).2.1 ?_
  refine og_aloadN X1 hx (hb hby d6_10) rfl rfl ?_
  refine og_iloadN X1 hx (hb hby d6_11) rfl ?_
  refine own_ldC X1 hx hZ e1 A_ca_1 ⟨by decide, by decide⟩ rfl (hb hby d6_12) ?_
  show own_Go p e below _ T1 (mkF m 13 #[rv ca, iv 1, rv d, iv 1, iv 2, iv 1, iv c0] [(.int c1)])
  refine og_istore X1 hx #[rv ca, iv 1, rv d, iv 1, iv 2, iv 1, iv c1] (hb hby d6_13) rfl ?_
  refine og_iload X1 hx (hb hby d6_15) rfl ?_
  refine og_sipush X1 hx (hb hby d6_17) ?_
  refine og_icY X1 hx 26 (hb hby d6_20) (flt m1).2.2.2 (by decide) (by decide) ?_
  refine og_aloadN X1 hx (hb hby d6_26) rfl rfl ?_
  refine og_iloadN X1 hx (hb hby d6_27) rfl ?_
  refine og_iload X1 hx (hb hby d6_28) rfl ?_
  refine own_go (fun t k => XS.i2b X1.here hx rfl (hb hby d6_30) rfl k) ?_
  show own_Go p e below _ T1 (mkF m 31 #[rv ca, iv 1, rv d, iv 1, iv 2, iv 1, iv c1] [(.int (c1.toInt8.toInt32)), (.int 1), (.ref d)])
  refine own_stB X1 hx hZ e1 A_d_1 ⟨by decide, by decide⟩ 1 rfl (by show 1 < 2; decide) (hb hby d6_31) ?_
  intro T2 h2 X2 e2 W2 A2
  have A_ca_2 := A_ca_1.other W2 ncd
  have O2 := O1.wr W2 gd
  have K2 := K1.wr W2 (Or.inl (by simp))
  have N2 := Fr.snoc X2 N1 gd
  have A_d_2 : Arv Z h2 d kd .byte 2 [(.int c0.toInt8.toInt32), (.int c1.toInt8.toInt32)] (.int (0 : Int32)) := (by have q := A2; rw [own_bb c1] at q; exact q)
  show own_Go p e below _ T2 (mkF m 32 #[rv ca, iv 1, rv d, iv 1, iv 2, iv 1, iv c1] [])
  refine own_go (fun t k => XS.iinc X2.here hx rfl (hb hby d6_32) rfl (l' := #[rv ca, iv 2, rv d, iv 1, iv 2, iv 1, iv c1]) rfl k) ?_
  show own_Go p e below _ T2 (mkF m 35 #[rv ca, iv 2, rv d, iv 1, iv 2, iv 1, iv c1] [])
  refine own_go (fun t k => XS.iinc X2.here hx rfl (hb hby d6_35) rfl (l' := #[rv ca, iv 2, rv d, iv 2, iv 2, iv 1, iv c1]) rfl k) ?_
  show own_Go p e below _ T2 (mkF m 38 #[rv ca, iv 2, rv d, iv 2, iv 2, iv 1, iv c1] [])
  refine own_go (fun t k => XS.iinc X2.here hx rfl (hb hby d6_38) rfl (l' := #[rv ca, iv 2, rv d, iv 2, iv 2, iv 2, iv c1]) rfl k) ?_
  show own_Go p e below _ T2 (mkF m 41 #[rv ca, iv 2, rv d, iv 2, iv 2, iv 2, iv c1] [])
  refine og_goto X2 hx 3 (hb hby d6_41) (by decide) (by decide) ?_
  refine og_iload X2 hx (hb hby d6_3) rfl ?_
  refine og_iload X2 hx (hb hby d6_5) rfl ?_
  refine og_icY X2 hx 44 (hb hby d6_7) (flt (by decide)).2.1 (by decide) (by decide) ?_
  refine og_iload X2 hx (hb hby d6_44) rfl ?_
  exact own_retI X2 hx hret hlk (hb hby d6_46) rfl (by simp) (by decide) (by decide) (by rw [e2]; exact ⟨rfl, N2, K2, A_d_2⟩)
theorem own_cb_2_0 (l : Launch) (Z : State) (a0 : Array Value) (hw : own_W a0 Z) (ca : Addr) (kc : ClassId) (dc : Value) (c0 c1 : Int32) (h0 : Heap) (n0 : Nat) (hO : Old Z n0 h0) (hU : own_Us Z) (hR0 : own_R c0) (hR1 : own_R c1) (m0 : (255 : Int32) < c0) (Ac : Arv Z h0 ca kc .char 2 [(.int c0), (.int c1)] dc) :
    own_Met l Z (⟨"java/lang/StringUTF16", "compress", "([CII)[B"⟩ : MethodName) jdk_52_method_16_code 6 (some (.array .byte)) own_r_own_cb_3_0 #[(.ref ca), (.int 0), (.int 2)] h0 (own_Qb Z 4 [(.int (own_lo c0)), (.int (own_hi c0)), (.int (own_lo c1)), (.int (own_hi c1))] h0 n0) := by
  refine own_body (by decide +kernel) ?_
  intro p e s m below meth c T0 X0 hx hZ hby hml hown hnm hret hlk e0
  have N0 := Fr.nil n0
  refine own_cast (own_frame (L := [rv ca, iv 0, iv 2]) (ls := #[rv ca, iv 0, iv 2, .unset, .unset, .unset]) rfl rfl) ?_
  refine og_iloadN X0 hx (hb hby d5_0) rfl ?_
  refine own_newP X0 hx hZ (own_hw hw 23 rfl) e0 (hb hby d5_1) (by decide) 2 (by decide) (by decide) (by decide) (by decide) ?_
  intro T1 h1 k1 b1 g1 X1 e1 E1 A1
  have ne_ca_b1 : ca ≠ b1 := Nat.ne_of_lt (Nat.lt_of_lt_of_eq Ac.lt g1.symm)
  have ge_b1 : n0 ≤ b1 := Nat.le_trans (own_oldle hO) (Nat.le_of_eq g1.symm)
  have sz_b1 : h0.size ≤ b1 := Nat.le_trans (Keep.refl h0 []).1 (Nat.le_of_eq g1.symm)
  have A_ca_1 := Ac.ext E1
  have O1 := hO.ext E1
  have K1 := (Keep.refl h0 []).ext E1
  have A_b1_1 : Arv Z h1 b1 k1 .byte 2 [(.int (0 : Int32)), (.int (0 : Int32))] (.int (0 : Int32)) := A1
  show own_Go p e below _ T1 (mkF m 3 #[rv ca, iv 0, iv 2, .unset, .unset, .unset] [(.ref b1)])
  refine og_astoreN X1 hx #[rv ca, iv 0, iv 2, rv b1, .unset, .unset] (hb hby d5_3) rfl rfl ?_
  refine og_aloadN X1 hx (hb hby d5_4) rfl rfl ?_
  refine og_iloadN X1 hx (hb hby d5_5) rfl ?_
  refine og_aloadN X1 hx (hb hby d5_6) rfl rfl ?_
  refine og_iconst X1 hx (hb hby d5_7) ?_
  refine og_iloadN X1 hx (hb hby d5_8) rfl ?_
  refine own_callS X1 hx hZ hown (own_hw hw 24 rfl) (own_hw hw 25 rfl) (own_hw hw 21 rfl) (own_hw hw 26 rfl) (by decide) (argsL := [(.ref ca), (.int 0), (.ref b1), (.int 0), (.int 2)]) (rest := []) (own_cm_2_0 l Z a0 hw ca b1 _ _ _ c0 c1 h1 n0 O1 ge_b1 ne_ca_b1 m0 A_ca_1 A_b1_1) e1 (by rw [hml]; rfl) (lenOf own_pd58503 rfl) rfl (hb hby d5_9) (W := 0) (Nat.le_of_eq rfl) (by decide) ?_
  intro v2 T2 L2 X2 q2
  obtain ⟨rfl, N2q, K2q, A2q⟩ := q2
  have N2 := Fr.app N0 N2q
  have A_ca_2 := A_ca_1.keep K2q (ninS ne_ca_b1 nin0)
  have O2 := O1.keep K2q (allS ge_b1 all0)
  have K2 := K1.trans K2q (allS (Or.inr sz_b1) all0)
  show own_Go p e below _ T2 (mkF m 12 #[rv ca, iv 0, iv 2, rv b1, .unset, .unset] [(.int 0)])
  refine og_istore X2 hx #[rv ca, iv 0, iv 2, rv b1, iv 0, .unset] (hb hby d5_12) rfl ?_
  refine og_iload X2 hx (hb hby d5_14) rfl ?_
  refine og_iloadN X2 hx (hb hby d5_16) rfl ?_
  refine og_icN X2 hx (hb hby d5_17) (feq (by decide)).1 ?_
  refine og_aloadN X2 hx (hb hby d5_20) rfl rfl ?_
  refine og_iloadN X2 hx (hb hby d5_21) rfl ?_
  refine og_iloadN X2 hx (hb hby d5_22) rfl ?_
  refine own_callS X2 hx hZ hown (own_hw hw 79 rfl) (own_hw hw 80 rfl) (own_hw hw 21 rfl) (own_hw hw 81 rfl) (by decide) (argsL := [(.ref ca), (.int 0), (.int 2)]) (rest := []) (own_tb2 l Z a0 hw ca _ _ c0 c1 T2.heap n0 O2 hU A_ca_2) rfl (by rw [hml]; rfl) (lenOf own_pd56262 rfl) rfl (hb hby d5_23) (W := 0) (Nat.le_of_eq rfl) (by decide) ?_
  intro v3 T3 L3 X3 q3
  obtain ⟨b3, k3, rfl, N3q, K3q, z3q, g3q, A3q⟩ := q3
  have N3 := Fr.app N2 N3q
  have ne_b1_b3 : b1 ≠ b3 := Nat.ne_of_lt (Nat.lt_of_lt_of_le A2q.lt z3q)
  have ne_ca_b3 : ca ≠ b3 := Nat.ne_of_lt (Nat.lt_of_lt_of_le A_ca_2.lt z3q)
  have sz_b3 : h0.size ≤ b3 := Nat.le_trans K2.1 z3q
  have A_ca_3 := A_ca_2.keep K3q nin0
  have A_b1_3 := A2q.keep K3q nin0
  have O3 := O2.keep K3q all0
  have K3 := K2.trans K3q all0
  show own_Go p e below _ T3 (mkF m 26 #[rv ca, iv 0, iv 2, rv b1, iv 0, .unset] [(.ref b3)])
  refine og_astore X3 hx #[rv ca, iv 0, iv 2, rv b1, iv 0, rv b3] (hb hby d5_26) rfl rfl ?_
  refine og_aload X3 hx (hb hby d5_28) rfl rfl ?_
  refine og_iload X3 hx (hb hby d5_30) rfl ?_
  refine own_callS X3 hx hZ hown (own_hw hw 95 rfl) (own_hw hw 96 rfl) (own_hw hw 21 rfl) (own_hw hw 97 rfl) (by decide) (argsL := [(.ref b3), (.int 0)]) (rest := []) (own_gt_0_2 l Z a0 hw b3 _ _ c0 (.int (own_lo c1)) (.int (own_hi c1)) T3.heap n0 O3 hU hR0 A3q) rfl (by rw [hml]; rfl) (lenOf own_pd27418 rfl) rfl (hb hby d5_32) (W := 0) (Nat.le_of_eq rfl) (by decide) ?_
  intro v4 T4 L4 X4 q4
  obtain ⟨rfl, N4q, e4⟩ := q4
  have N4 := Fr.app N3 N4q
  show own_Go p e below _ T4 (mkF m 35 #[rv ca, iv 0, iv 2, rv b1, iv 0, rv b3] [(.int c0)])
  refine og_sipush X4 hx (hb hby d5_35) ?_
  refine og_icY X4 hx 54 (hb hby d5_38) (tlt m0).2.2.1 (by decide) (by decide) ?_
  refine og_aload X4 hx (hb hby d5_54) rfl rfl ?_
  exact own_retA X4 hx hret hlk (hb hby d5_56) rfl rfl (by decide) (by decide) (by rw [e4]; exact ⟨b3, _, rfl, N4, K3, sz_b3, g3q, A3q⟩)
theorem own_cb_2_1 (l : Launch) (Z : State) (a0 : Array Value) (hw : own_W a0 Z) (ca : Addr) (kc : ClassId) (dc : Value) (c0 c1 : Int32) (h0 : Heap) (n0 : Nat) (hO : Old Z n0 h0) (hU : own_Us Z) (hR0 : own_R c0) (hR1 : own_R c1) (m0 : ¬ (255 : Int32) < c0) (m1 : (255 : Int32) < c1) (Ac : Arv Z h0 ca kc .char 2 [(.int c0), (.int c1)] dc) :
    own_Met l Z (⟨"java/lang/StringUTF16", "compress", "([CII)[B"⟩ : MethodName) jdk_52_method_16_code 6 (some (.array .byte)) own_r_own_cb_3_0 #[(.ref ca), (.int 0), (.int 2)] h0 (own_Qb Z 4 [(.int (own_lo c0)), (.int (own_hi c0)), (.int (own_lo c1)), (.int (own_hi c1))] h0 n0) := by
  refine own_body (by decide +kernel) ?_
  intro p e s m below meth c T0 X0 hx hZ hby hml hown hnm hret hlk e0
  have N0 := Fr.nil n0
  refine own_cast (own_frame (L := [rv ca, iv 0, iv 2]) (ls := #[rv ca, iv 0, iv 2, .unset, .unset, .unset]) rfl rfl) ?_
  refine og_iloadN X0 hx (hb hby d5_0) rfl ?_
  refine own_newP X0 hx hZ (own_hw hw 23 rfl) e0 (hb hby d5_1) (by decide) 2 (by decide) (by decide) (by decide) (by decide) ?_
  intro T1 h1 k1 b1 g1 X1 e1 E1 A1
  have ne_ca_b1 : ca ≠ b1 := Nat.ne_of_lt (Nat.lt_of_lt_of_eq Ac.lt g1.symm)
  have ge_b1 : n0 ≤ b1 := Nat.le_trans (own_oldle hO) (Nat.le_of_eq g1.symm)
  have sz_b1 : h0.size ≤ b1 := Nat.le_trans (Keep.refl h0 []).1 (Nat.le_of_eq g1.symm)
  have A_ca_1 := Ac.ext E1
  have O1 := hO.ext E1
  have K1 := (Keep.refl h0 []).ext E1
  have A_b1_1 : Arv Z h1 b1 k1 .byte 2 [(.int (0 : Int32)), (.int (0 : Int32))] (.int (0 : Int32)) := A1
  show own_Go p e below _ T1 (mkF m 3 #[rv ca, iv 0, iv 2, .unset, .unset, .unset] [(.ref b1)])
  refine og_astoreN X1 hx #[rv ca, iv 0, iv 2, rv b1, .unset, .unset] (hb hby d5_3) rfl rfl ?_
  refine og_aloadN X1 hx (hb hby d5_4) rfl rfl ?_
  refine og_iloadN X1 hx (hb hby d5_5) rfl ?_
  refine og_aloadN X1 hx (hb hby d5_6) rfl rfl ?_
  refine og_iconst X1 hx (hb hby d5_7) ?_
  refine og_iloadN X1 hx (hb hby d5_8) rfl ?_
  refine own_callS X1 hx hZ hown (own_hw hw 24 rfl) (own_hw hw 25 rfl) (own_hw hw 21 rfl) (own_hw hw 26 rfl) (by decide) (argsL := [(.ref ca), (.int 0), (.ref b1), (.int 0), (.int 2)]) (rest := []) (own_cm_2_1 l Z a0 hw ca b1 _ _ _ c0 c1 h1 n0 O1 ge_b1 ne_ca_b1 m0 m1 A_ca_1 A_b1_1) e1 (by rw [hml]; rfl) (lenOf own_pd58503 rfl) rfl (hb hby d5_9) (W := 0) (Nat.le_of_eq rfl) (by decide) ?_
  intro v2 T2 L2 X2 q2
  obtain ⟨rfl, N2q, K2q, A2q⟩ := q2
  have N2 := Fr.app N0 N2q
  have A_ca_2 := A_ca_1.keep K2q (ninS ne_ca_b1 nin0)
  have O2 := O1.keep K2q (allS ge_b1 all0)
  have K2 := K1.trans K2q (allS (Or.inr sz_b1) all0)
  show own_Go p e below _ T2 (mkF m 12 #[rv ca, iv 0, iv 2, rv b1, .unset, .unset] [(.int 1)])
  refine og_istore X2 hx #[rv ca, iv 0, iv 2, rv b1, iv 1, .unset] (hb hby d5_12) rfl ?_
  refine og_iload X2 hx (hb hby d5_14) rfl ?_
  refine og_iloadN X2 hx (hb hby d5_16) rfl ?_
  refine og_icN X2 hx (hb hby d5_17) (feq (by decide)).1 ?_
  refine og_aloadN X2 hx (hb hby d5_20) rfl rfl ?_
  refine og_iloadN X2 hx (hb hby d5_21) rfl ?_
  refine og_iloadN X2 hx (hb hby d5_22) rfl ?_
  refine own_callS X2 hx hZ hown (own_hw hw 79 rfl) (own_hw hw 80 rfl) (own_hw hw 21 rfl) (own_hw hw 81 rfl) (by decide) (argsL := [(.ref ca), (.int 0), (.int 2)]) (rest := []) (own_tb2 l Z a0 hw ca _ _ c0 c1 T2.heap n0 O2 hU A_ca_2) rfl (by rw [hml]; rfl) (lenOf own_pd56262 rfl) rfl (hb hby d5_23) (W := 0) (Nat.le_of_eq rfl) (by decide) ?_
  intro v3 T3 L3 X3 q3
  obtain ⟨b3, k3, rfl, N3q, K3q, z3q, g3q, A3q⟩ := q3
  have N3 := Fr.app N2 N3q
  have ne_b1_b3 : b1 ≠ b3 := Nat.ne_of_lt (Nat.lt_of_lt_of_le A2q.lt z3q)
  have ne_ca_b3 : ca ≠ b3 := Nat.ne_of_lt (Nat.lt_of_lt_of_le A_ca_2.lt z3q)
  have sz_b3 : h0.size ≤ b3 := Nat.le_trans K2.1 z3q
  have A_ca_3 := A_ca_2.keep K3q nin0
  have A_b1_3 := A2q.keep K3q nin0
  have O3 := O2.keep K3q all0
  have K3 := K2.trans K3q all0
  show own_Go p e below _ T3 (mkF m 26 #[rv ca, iv 0, iv 2, rv b1, iv 1, .unset] [(.ref b3)])
  refine og_astore X3 hx #[rv ca, iv 0, iv 2, rv b1, iv 1, rv b3] (hb hby d5_26) rfl rfl ?_
  refine og_aload X3 hx (hb hby d5_28) rfl rfl ?_
  refine og_iload X3 hx (hb hby d5_30) rfl ?_
  refine own_callS X3 hx hZ hown (own_hw hw 95 rfl) (own_hw hw 96 rfl) (own_hw hw 21 rfl) (own_hw hw 97 rfl) (by decide) (argsL := [(.ref b3), (.int 1)]) (rest := []) (own_gt_1_2 l Z a0 hw b3 _ _ c1 (.int (own_lo c0)) (.int (own_hi c0)) T3.heap n0 O3 hU hR1 A3q) rfl (by rw [hml]; rfl) (lenOf own_pd27418 rfl) rfl (hb hby d5_32) (W := 0) (Nat.le_of_eq rfl) (by decide) ?_
  intro v4 T4 L4 X4 q4
  obtain ⟨rfl, N4q, e4⟩ := q4
  have N4 := Fr.app N3 N4q
  show own_Go p e below _ T4 (mkF m 35 #[rv ca, iv 0, iv 2, rv b1, iv 1, rv b3] [(.int c1)])
  refine og_sipush X4 hx (hb hby d5_35) ?_
  refine og_icY X4 hx 54 (hb hby d5_38) (tlt m1).2.2.1 (by decide) (by decide) ?_
  refine og_aload X4 hx (hb hby d5_54) rfl rfl ?_
  exact own_retA X4 hx hret hlk (hb hby d5_56) rfl rfl (by decide) (by decide) (by rw [e4]; exact ⟨b3, _, rfl, N4, K3, sz_b3, g3q, A3q⟩)
theorem own_cb_2_2 (l : Launch) (Z : State) (a0 : Array Value) (hw : own_W a0 Z) (ca : Addr) (kc : ClassId) (dc : Value) (c0 c1 : Int32) (h0 : Heap) (n0 : Nat) (hO : Old Z n0 h0) (hU : own_Us Z) (hR0 : own_R c0) (hR1 : own_R c1) (m0 : ¬ (255 : Int32) < c0) (m1 : ¬ (255 : Int32) < c1) (Ac : Arv Z h0 ca kc .char 2 [(.int c0), (.int c1)] dc) :
    own_Met l Z (⟨"java/lang/StringUTF16", "compress", "([CII)[B"⟩ : MethodName) jdk_52_method_16_code 6 (some (.array .byte)) own_r_own_cb_3_0 #[(.ref ca), (.int 0), (.int 2)] h0 (own_Qb Z 2 [(.int c0.toInt8.toInt32), (.int c1.toInt8.toInt32)] h0 n0) := by
  refine own_body (by decide +kernel) ?_
  intro p e s m below meth c T0 X0 hx hZ hby hml hown hnm hret hlk e0
  have N0 := Fr.nil n0
  refine own_cast (own_frame (L := [rv ca, iv 0, iv 2]) (ls := #[rv ca, iv 0, iv 2, .unset, .unset, .unset]) rfl rfl) ?_
  refine og_iloadN X0 hx (hb hby d5_0) rfl ?_
  refine own_newP X0 hx hZ (own_hw hw 23 rfl) e0 (hb hby d5_1) (by decide) 2 (by decide) (by decide) (by decide) (by decide) ?_
  intro T1 h1 k1 b1 g1 X1 e1 E1 A1
  have ne_ca_b1 : ca ≠ b1 := Nat.ne_of_lt (Nat.lt_of_lt_of_eq Ac.lt g1.symm)
  have ge_b1 : n0 ≤ b1 := Nat.le_trans (own_oldle hO) (Nat.le_of_eq g1.symm)
  have sz_b1 : h0.size ≤ b1 := Nat.le_trans (Keep.refl h0 []).1 (Nat.le_of_eq g1.symm)
  have A_ca_1 := Ac.ext E1
  have O1 := hO.ext E1
  have K1 := (Keep.refl h0 []).ext E1
  have A_b1_1 : Arv Z h1 b1 k1 .byte 2 [(.int (0 : Int32)), (.int (0 : Int32))] (.int (0 : Int32)) := A1
  show own_Go p e below _ T1 (mkF m 3 #[rv ca, iv 0, iv 2, .unset, .unset, .unset] [(.ref b1)])
  refine og_astoreN X1 hx #[rv ca, iv 0, iv 2, rv b1, .unset, .unset] (hb hby d5_3) rfl rfl ?_
  refine og_aloadN X1 hx (hb hby d5_4) rfl rfl ?_
  refine og_iloadN X1 hx (hb hby d5_5) rfl ?_
  refine og_aloadN X1 hx (hb hby d5_6) rfl rfl ?_
  refine og_iconst X1 hx (hb hby d5_7) ?_
  refine og_iloadN X1 hx (hb hby d5_8) rfl ?_
  refine own_callS X1 hx hZ hown (own_hw hw 24 rfl) (own_hw hw 25 rfl) (own_hw hw 21 rfl) (own_hw hw 26 rfl) (by decide) (argsL := [(.ref ca), (.int 0), (.ref b1), (.int 0), (.int 2)]) (rest := []) (own_cm_2_2 l Z a0 hw ca b1 _ _ _ c0 c1 h1 n0 O1 ge_b1 ne_ca_b1 m0 m1 A_ca_1 A_b1_1) e1 (by rw [hml]; rfl) (lenOf own_pd58503 rfl) rfl (hb hby d5_9) (W := 0) (Nat.le_of_eq rfl) (by decide) ?_
  intro v2 T2 L2 X2 q2
  obtain ⟨rfl, N2q, K2q, A2q⟩ := q2
  have N2 := Fr.app N0 N2q
  have A_ca_2 := A_ca_1.keep K2q (ninS ne_ca_b1 nin0)
  have O2 := O1.keep K2q (allS ge_b1 all0)
  have K2 := K1.trans K2q (allS (Or.inr sz_b1) all0)
  show own_Go p e below _ T2 (mkF m 12 #[rv ca, iv 0, iv 2, rv b1, .unset, .unset] [(.int 2)])
  refine og_istore X2 hx #[rv ca, iv 0, iv 2, rv b1, iv 2, .unset] (hb hby d5_12) rfl ?_
  refine og_iload X2 hx (hb hby d5_14) rfl ?_
  refine og_iloadN X2 hx (hb hby d5_16) rfl ?_
  refine og_icY X2 hx 57 (hb hby d5_17) (teq rfl).1 (by decide) (by decide) ?_
  refine og_aloadN X2 hx (hb hby d5_57) rfl rfl ?_
  exact own_retA X2 hx hret hlk (hb hby d5_58) rfl rfl (by decide) (by decide) (⟨b1, _, rfl, N2, K2, sz_b1, ge_b1, A2q⟩)
theorem own_cm_1_0 (l : Launch) (Z : State) (a0 : Array Value) (hw : own_W a0 Z) (ca d : Addr) (kc kd : ClassId) (dc : Value) (c0 : Int32) (h0 : Heap) (n0 : Nat) (hO : Old Z n0 h0) (gd : n0 ≤ d) (ncd : ca ≠ d) (m0 : (255 : Int32) < c0) (Ac : Arv Z h0 ca kc .char 1 [(.int c0)] dc) (Ad : Arv Z h0 d kd .byte 1 [(.int (0 : Int32))] (.int (0 : Int32))) :
    own_Met l Z (⟨"java/lang/StringUTF16", "compress", "([CI[BII)I"⟩ : MethodName) jdk_52_method_21_code 7 (some .int) own_r_cm #[(.ref ca), (.int 0), (.ref d), (.int 0), (.int 1)] h0 (own_Qc Z d kd 0 1 [(.int (0 : Int32))] h0 n0) := by
  refine own_body (by decide +kernel) ?_
  intro p e s m below meth c T0 X0 hx hZ hby hml hown hnm hret hlk e0
  have N0 := Fr.nil n0
  refine own_cast (own_frame (L := [rv ca, iv 0, rv d, iv 0, iv 1]) (ls := #[rv ca, iv 0, rv d, iv 0, iv 1, .unset, .unset]) rfl rfl) ?_
  refine og_iconst X0 hx (hb hby d6_0) ?_
  refine og_istore X0 hx #[rv ca, iv 0, rv d, iv 0, iv 1, iv 0, .unset] (hb hby d6_1) rfl ?_
  refine og_iload X0 hx (hb hby d6_3) rfl ?_
  refine og_iload X0 hx (hb hby d6_5) rfl ?_
  refine og_icN X0 hx (hb hby d6_7) (tlt (by decide)).2.1 ?_
  refine og_aloadN X0 hx (hb hby d6_10) rfl rfl ?_
  refine og_iloadN X0 hx (hb hby d6_11) rfl ?_
  refine own_ldC X0 hx hZ e0 Ac ⟨by decide, by decide⟩ rfl (hb hby d6_12) ?_
  show own_Go p e below _ T0 (mkF m 13 #[rv ca, iv 0, rv d, iv 0, iv 1, iv 0, .unset] [(.int c0)])
  refine og_istore X0 hx #[rv ca, iv 0, rv d, iv 0, iv 1, iv 0, iv c0] (hb hby d6_13) rfl ?_
  refine og_iload X0 hx (hb hby d6_15) rfl ?_
  refine og_sipush X0 hx (hb hby d6_17) ?_
  refine og_icN X0 hx (hb hby d6_20) (tlt m0).2.2.2 ?_
  refine og_iload X0 hx (hb hby d6_23) rfl ?_
  exact own_retI X0 hx hret hlk (hb hby d6_25) rfl (by simp) (by decide) (by decide) (by rw [e0]; exact ⟨rfl, N0, (Keep.refl h0 [d]), Ad⟩)
theorem own_cm_1_1 (l : Launch) (Z : State) (a0 : Array Value) (hw : own_W a0 Z) (ca d : Addr) (kc kd : ClassId) (dc : Value) (c0 : Int32) (h0 : Heap) (n0 : Nat) (hO : Old Z n0 h0) (gd : n0 ≤ d) (ncd : ca ≠ d) (m0 : ¬ (255 : Int32) < c0) (Ac : Arv Z h0 ca kc .char 1 [(.int c0)] dc) (Ad : Arv Z h0 d kd .byte 1 [(.int (0 : Int32))] (.int (0 : Int32))) :
    own_Met l Z (⟨"java/lang/StringUTF16", "compress", "([CI[BII)I"⟩ : MethodName) jdk_52_method_21_code 7 (some .int) own_r_cm #[(.ref ca), (.int 0), (.ref d), (.int 0), (.int 1)] h0 (own_Qc Z d kd 1 1 [(.int c0.toInt8.toInt32)] h0 n0) := by
  refine own_body (by decide +kernel) ?_
  intro p e s m below meth c T0 X0 hx hZ hby hml hown hnm hret hlk e0
  have N0 := Fr.nil n0
  refine own_cast (own_frame (L := [rv ca, iv 0, rv d, iv 0, iv 1]) (ls := #[rv ca, iv 0, rv d, iv 0, iv 1, .unset, .unset]) rfl rfl) ?_
  refine og_iconst X0 hx (hb hby d6_0) ?_
  refine og_istore X0 hx #[rv ca, iv 0, rv d, iv 0, iv 1, iv 0, .unset] (hb hby d6_1) rfl ?_
  refine og_iload X0 hx (hb hby d6_3) rfl ?_
  refine og_iload X0 hx (hb hby d6_5) rfl ?_
  refine og_icN X0 hx (hb hby d6_7) (tlt (by decide)).2.1 ?_
  refine og_aloadN X0 hx (hb hby d6_10) rfl rfl ?_
  refine og_iloadN X0 hx (hb hby d6_11) rfl ?_
  refine own_ldC X0 hx hZ e0 Ac ⟨by decide, by decide⟩ rfl (hb hby d6_12) ?_
  show own_Go p e below _ T0 (mkF m 13 #[rv ca, iv 0, rv d, iv 0, iv 1, iv 0, .unset] [(.int c0)])
  refine og_istore X0 hx #[rv ca, iv 0, rv d, iv 0, iv 1, iv 0, iv c0] (hb hby d6_13) rfl ?_
  refine og_iload X0 hx (hb hby d6_15) rfl ?_
  refine og_sipush X0 hx (hb hby d6_17) ?_
  refine og_icY X0 hx 26 (hb hby d6_20) (flt m0).2.2.2 (by decide) (by decide) ?_
  refine og_aloadN X0 hx (hb hby d6_26) rfl rfl ?_
  refine og_iloadN X0 hx (hb hby d6_27) rfl ?_
  refine og_iload X0 hx (hb hby d6_28) rfl ?_
  refine own_go (fun t k => XS.i2b X0.here hx rfl (hb hby d6_30) rfl k) ?_
  show own_Go p e below _ T0 (mkF m 31 #[rv ca, iv 0, rv d, iv 0, iv 1, iv 0, iv c0] [(.int (c0.toInt8.toInt32)), (.int 0), (.ref d)])
  refine own_stB X0 hx hZ e0 Ad ⟨by decide, by decide⟩ 0 rfl (by show 0 < 1; decide) (hb hby d6_31) ?_
  intro T1 h1 X1 e1 W1 A1
  have A_ca_1 := Ac.other W1 ncd
  have O1 := hO.wr W1 gd
  have K1 := (Keep.refl h0 [d]).wr W1 (Or.inl (by simp))
  have N1 := Fr.snoc X1 N0 gd
  have A_d_1 : Arv Z h1 d kd .byte 1 [(.int c0.toInt8.toInt32)] (.int (0 : Int32)) := (by have q := A1; rw [own_bb c0] at q; exact q)
  show own_Go p e below _ T1 (mkF m 32 #[rv ca, iv 0, rv d, iv 0, iv 1, iv 0, iv c0] [])
  refine own_go (fun t k => XS.iinc X1.here hx rfl (hb hby d6_32) rfl (l' := #[rv ca, iv 1, rv d, iv 0, iv 1, iv 0, iv c0]) rfl k) ?_
  show own_Go p e below _ T1 (mkF m 35 #[rv ca, iv 1, rv d, iv 0, iv 1, iv 0, iv c0] [])
  refine own_go (fun t k => XS.iinc X1.here hx rfl (hb hby d6_35) rfl (l' := #[rv ca, iv 1, rv d, iv 1, iv 1, iv 0, iv c0]) rfl k) ?_
  show own_Go p e below _ T1 (mkF m 38 #[rv ca, iv 1, rv d, iv 1, iv 1, iv 0, iv c0] [])
  refine own_go (fun t k => XS.iinc X1.here hx rfl (hb hby d6_38) rfl (l' := #[rv ca, iv 1, rv d, iv 1, iv 1, iv 1, iv c0]) rfl k) ?_
  show own_Go p e below _ T1 (mkF m 41 #[rv ca, iv 1, rv d, iv 1, iv 1, iv 1, iv c0] [])
  refine og_goto X1 hx 3 (hb hby d6_41) (by decide) (by decide) ?_
  refine og_iload X1 hx (hb hby d6_3) rfl ?_
  refine og_iload X1 hx (hb hby d6_5) rfl ?_
  refine og_icY X1 hx 44 (hb hby d6_7) (flt (by decide)).2.1 (by decide) (by decide) ?_
  refine og_iload X1 hx (hb hby d6_44) rfl ?_
  exact own_retI X1 hx hret hlk (hb hby d6_46) rfl (by simp) (by decide) (by decide) (by rw [e1]; exact ⟨rfl, N1, K1, A_d_1⟩)
theorem own_cb_1_0 (l : Launch) (Z : State) (a0 : Array Value) (hw : own_W a0 Z) (ca : Addr) (kc : ClassId) (dc : Value) (c0 : Int32) (h0 : Heap) (n0 : Nat) (hO : Old Z n0 h0) (hU : own_Us Z) (hR0 : own_R c0) (m0 : (255 : Int32) < c0) (Ac : Arv Z h0 ca kc .char 1 [(.int c0)] dc) :
    own_Met l Z (⟨"java/lang/StringUTF16", "compress", "([CII)[B"⟩ : MethodName) jdk_52_method_16_code 6 (some (.array .byte)) own_r_own_cb_3_0 #[(.ref ca), (.int 0), (.int 1)] h0 (own_Qb Z 2 [(.int (own_lo c0)), (.int (own_hi c0))] h0 n0) := by
  refine own_body (by decide +kernel) ?_
  intro p e s m below meth c T0 X0 hx hZ hby hml hown hnm hret hlk e0
  have N0 := Fr.nil n0
  refine own_cast (own_frame (L := [rv ca, iv 0, iv 1]) (ls := #[rv ca, iv 0, iv 1, .unset, .unset, .unset]) rfl rfl) ?_
  refine og_iloadN X0 hx (hb hby d5_0) rfl ?_
  refine own_newP X0 hx hZ (own_hw hw 23 rfl) e0 (hb hby d5_1) (by decide) 1 (by decide) (by decide) (by decide) (by decide) ?_
  intro T1 h1 k1 b1 g1 X1 e1 E1 A1
  have ne_ca_b1 : ca ≠ b1 := Nat.ne_of_lt (Nat.lt_of_lt_of_eq Ac.lt g1.symm)
  have ge_b1 : n0 ≤ b1 := Nat.le_trans (own_oldle hO) (Nat.le_of_eq g1.symm)
  have sz_b1 : h0.size ≤ b1 := Nat.le_trans (Keep.refl h0 []).1 (Nat.le_of_eq g1.symm)
  have A_ca_1 := Ac.ext E1
  have O1 := hO.ext E1
  have K1 := (Keep.refl h0 []).ext E1
  have A_b1_1 : Arv Z h1 b1 k1 .byte 1 [(.int (0 : Int32))] (.int (0 : Int32)) := A1
  show own_Go p e below _ T1 (mkF m 3 #[rv ca, iv 0, iv 1, .unset, .unset, .unset] [(.ref b1)])
  refine og_astoreN X1 hx #[rv ca, iv 0, iv 1, rv b1, .unset, .unset] (hb hby d5_3) rfl rfl ?_
  refine og_aloadN X1 hx (hb hby d5_4) rfl rfl ?_
  refine og_iloadN X1 hx (hb hby d5_5) rfl ?_
  refine og_aloadN X1 hx (hb hby d5_6) rfl rfl ?_
  refine og_iconst X1 hx (hb hby d5_7) ?_
  refine og_iloadN X1 hx (hb hby d5_8) rfl ?_
  refine own_callS X1 hx hZ hown (own_hw hw 24 rfl) (own_hw hw 25 rfl) (own_hw hw 21 rfl) (own_hw hw 26 rfl) (by decide) (argsL := [(.ref ca), (.int 0), (.ref b1), (.int 0), (.int 1)]) (rest := []) (own_cm_1_0 l Z a0 hw ca b1 _ _ _ c0 h1 n0 O1 ge_b1 ne_ca_b1 m0 A_ca_1 A_b1_1) e1 (by rw [hml]; rfl) (lenOf own_pd58503 rfl) rfl (hb hby d5_9) (W := 0) (Nat.le_of_eq rfl) (by decide) ?_
  intro v2 T2 L2 X2 q2
  obtain ⟨rfl, N2q, K2q, A2q⟩ := q2
  have N2 := Fr.app N0 N2q
  have A_ca_2 := A_ca_1.keep K2q (ninS ne_ca_b1 nin0)
  have O2 := O1.keep K2q (allS ge_b1 all0)
  have K2 := K1.trans K2q (allS (Or.inr sz_b1) all0)
  show own_Go p e below _ T2 (mkF m 12 #[rv ca, iv 0, iv 1, rv b1, .unset, .unset] [(.int 0)])
  refine og_istore X2 hx #[rv ca, iv 0, iv 1, rv b1, iv 0, .unset] (hb hby d5_12) rfl ?_
  refine og_iload X2 hx (hb hby d5_14) rfl ?_
  refine og_iloadN X2 hx (hb hby d5_16) rfl ?_
  refine og_icN X2 hx (hb hby d5_17) (feq (by decide)).1 ?_
  refine og_aloadN X2 hx (hb hby d5_20) rfl rfl ?_
  refine og_iloadN X2 hx (hb hby d5_21) rfl ?_
  refine og_iloadN X2 hx (hb hby d5_22) rfl ?_
  refine own_callS X2 hx hZ hown (own_hw hw 79 rfl) (own_hw hw 80 rfl) (own_hw hw 21 rfl) (own_hw hw 81 rfl) (by decide) (argsL := [(.ref ca), (.int 0), (.int 1)]) (rest := []) (own_tb1 l Z a0 hw ca _ _ c0 T2.heap n0 O2 hU A_ca_2) rfl (by rw [hml]; rfl) (lenOf own_pd56262 rfl) rfl (hb hby d5_23) (W := 0) (Nat.le_of_eq rfl) (by decide) ?_
  intro v3 T3 L3 X3 q3
  obtain ⟨b3, k3, rfl, N3q, K3q, z3q, g3q, A3q⟩ := q3
  have N3 := Fr.app N2 N3q
  have ne_b1_b3 : b1 ≠ b3 := Nat.ne_of_lt (Nat.lt_of_lt_of_le A2q.lt z3q)
  have ne_ca_b3 : ca ≠ b3 := Nat.ne_of_lt (Nat.lt_of_lt_of_le A_ca_2.lt z3q)
  have sz_b3 : h0.size ≤ b3 := Nat.le_trans K2.1 z3q
  have A_ca_3 := A_ca_2.keep K3q nin0
  have A_b1_3 := A2q.keep K3q nin0
  have O3 := O2.keep K3q all0
  have K3 := K2.trans K3q all0
  show own_Go p e below _ T3 (mkF m 26 #[rv ca, iv 0, iv 1, rv b1, iv 0, .unset] [(.ref b3)])
  refine og_astore X3 hx #[rv ca, iv 0, iv 1, rv b1, iv 0, rv b3] (hb hby d5_26) rfl rfl ?_
  refine og_aload X3 hx (hb hby d5_28) rfl rfl ?_
  refine og_iload X3 hx (hb hby d5_30) rfl ?_
  refine own_callS X3 hx hZ hown (own_hw hw 95 rfl) (own_hw hw 96 rfl) (own_hw hw 21 rfl) (own_hw hw 97 rfl) (by decide) (argsL := [(.ref b3), (.int 0)]) (rest := []) (own_gt_0_1 l Z a0 hw b3 _ _ c0 T3.heap n0 O3 hU hR0 A3q) rfl (by rw [hml]; rfl) (lenOf own_pd27418 rfl) rfl (hb hby d5_32) (W := 0) (Nat.le_of_eq rfl) (by decide) ?_
  intro v4 T4 L4 X4 q4
  obtain ⟨rfl, N4q, e4⟩ := q4
  have N4 := Fr.app N3 N4q
  show own_Go p e below _ T4 (mkF m 35 #[rv ca, iv 0, iv 1, rv b1, iv 0, rv b3] [(.int c0)])
  refine og_sipush X4 hx (hb hby d5_35) ?_
  refine og_icY X4 hx 54 (hb hby d5_38) (tlt m0).2.2.1 (by decide) (by decide) ?_
  refine og_aload X4 hx (hb hby d5_54) rfl rfl ?_
  exact own_retA X4 hx hret hlk (hb hby d5_56) rfl rfl (by decide) (by decide) (by rw [e4]; exact ⟨b3, _, rfl, N4, K3, sz_b3, g3q, A3q⟩)
theorem own_cb_1_1 (l : Launch) (Z : State) (a0 : Array Value) (hw : own_W a0 Z) (ca : Addr) (kc : ClassId) (dc : Value) (c0 : Int32) (h0 : Heap) (n0 : Nat) (hO : Old Z n0 h0) (hU : own_Us Z) (hR0 : own_R c0) (m0 : ¬ (255 : Int32) < c0) (Ac : Arv Z h0 ca kc .char 1 [(.int c0)] dc) :
    own_Met l Z (⟨"java/lang/StringUTF16", "compress", "([CII)[B"⟩ : MethodName) jdk_52_method_16_code 6 (some (.array .byte)) own_r_own_cb_3_0 #[(.ref ca), (.int 0), (.int 1)] h0 (own_Qb Z 1 [(.int c0.toInt8.toInt32)] h0 n0) := by
  refine own_body (by decide +kernel) ?_
  intro p e s m below meth c T0 X0 hx hZ hby hml hown hnm hret hlk e0
  have N0 := Fr.nil n0
  refine own_cast (own_frame (L := [rv ca, iv 0, iv 1]) (ls := #[rv ca, iv 0, iv 1, .unset, .unset, .unset]) rfl rfl) ?_
  refine og_iloadN X0 hx (hb hby d5_0) rfl ?_
  refine own_newP X0 hx hZ (own_hw hw 23 rfl) e0 (hb hby d5_1) (by decide) 1 (by decide) (by decide) (by decide) (by decide) ?_
  intro T1 h1 k1 b1 g1 X1 e1 E1 A1
  have ne_ca_b1 : ca ≠ b1 := Nat.ne_of_lt (Nat.lt_of_lt_of_eq Ac.lt g1.symm)
  have ge_b1 : n0 ≤ b1 := Nat.le_trans (own_oldle hO) (Nat.le_of_eq g1.symm)
  have sz_b1 : h0.size ≤ b1 := Nat.le_trans (Keep.refl h0 []).1 (Nat.le_of_eq g1.symm)
  have A_ca_1 := Ac.ext E1
  have O1 := hO.ext E1
  have K1 := (Keep.refl h0 []).ext E1
  have A_b1_1 : Arv Z h1 b1 k1 .byte 1 [(.int (0 : Int32))] (.int (0 : Int32)) := A1
  show own_Go p e below _ T1 (mkF m 3 #[rv ca, iv 0, iv 1, .unset, .unset, .unset] [(.ref b1)])
  refine og_astoreN X1 hx #[rv ca, iv 0, iv 1, rv b1, .unset, .unset] (hb hby d5_3) rfl rfl ?_
  refine og_aloadN X1 hx (hb hby d5_4) rfl rfl ?_
  refine og_iloadN X1 hx (hb hby d5_5) rfl ?_
  refine og_aloadN X1 hx (hb hby d5_6) rfl rfl ?_
  refine og_iconst X1 hx (hb hby d5_7) ?_
  refine og_iloadN X1 hx (hb hby d5_8) rfl ?_
  refine own_callS X1 hx hZ hown (own_hw hw 24 rfl) (own_hw hw 25 rfl) (own_hw hw 21 rfl) (own_hw hw 26 rfl) (by decide) (argsL := [(.ref ca), (.int 0), (.ref b1), (.int 0), (.int 1)]) (rest := []) (own_cm_1_1 l Z a0 hw ca b1 _ _ _ c0 h1 n0 O1 ge_b1 ne_ca_b1 m0 A_ca_1 A_b1_1) e1 (by rw [hml]; rfl) (lenOf own_pd58503 rfl) rfl (hb hby d5_9) (W := 0) (Nat.le_of_eq rfl) (by decide) ?_
  intro v2 T2 L2 X2 q2
  obtain ⟨rfl, N2q, K2q, A2q⟩ := q2
  have N2 := Fr.app N0 N2q
  have A_ca_2 := A_ca_1.keep K2q (ninS ne_ca_b1 nin0)
  have O2 := O1.keep K2q (allS ge_b1 all0)
  have K2 := K1.trans K2q (allS (Or.inr sz_b1) all0)
  show own_Go p e below _ T2 (mkF m 12 #[rv ca, iv 0, iv 1, rv b1, .unset, .unset] [(.int 1)])
  refine og_istore X2 hx #[rv ca, iv 0, iv 1, rv b1, iv 1, .unset] (hb hby d5_12) rfl ?_
  refine og_iload X2 hx (hb hby d5_14) rfl ?_
  refine og_iloadN X2 hx (hb hby d5_16) rfl ?_
  refine og_icY X2 hx 57 (hb hby d5_17) (teq rfl).1 (by decide) (by decide) ?_
  refine og_aloadN X2 hx (hb hby d5_57) rfl rfl ?_
  exact own_retA X2 hx hret hlk (hb hby d5_58) rfl rfl (by decide) (by decide) (⟨b1, _, rfl, N2, K2, sz_b1, ge_b1, A2q⟩)
theorem own_cb1 (l : Launch) (Z : State) (a0 : Array Value) (hw : own_W a0 Z) (ca : Addr) (kc : ClassId) (dc : Value) (c0 NN cd : Int32) (vs : List Value) (h0 : Heap) (n0 : Nat) (hO : Old Z n0 h0) (hU : own_Us Z) (hR0 : own_R c0) (hK : own_K1 c0 NN vs cd) (Ac : Arv Z h0 ca kc .char 1 [(.int c0)] dc) :
    own_Met l Z (⟨"java/lang/StringUTF16", "compress", "([CII)[B"⟩ : MethodName) jdk_52_method_16_code 6 (some (.array .byte)) own_r_own_cb_3_0 #[.ref ca, .int 0, .int 1] h0 (own_Qb Z NN vs h0 n0) := by
  rcases hK with ⟨m0, rfl, rfl, rfl⟩ | ⟨hq, rfl, rfl, rfl⟩
  · exact own_cb_1_1 l Z a0 hw ca kc dc c0 h0 n0 hO hU hR0 m0 Ac
  have m0 : (255 : Int32) < c0 := hq
  exact own_cb_1_0 l Z a0 hw ca kc dc c0 h0 n0 hO hU hR0 m0 Ac
theorem own_cb2 (l : Launch) (Z : State) (a0 : Array Value) (hw : own_W a0 Z) (ca : Addr) (kc : ClassId) (dc : Value) (c0 c1 NN cd : Int32) (vs : List Value) (h0 : Heap) (n0 : Nat) (hO : Old Z n0 h0) (hU : own_Us Z) (hR0 : own_R c0) (hR1 : own_R c1) (hK : own_K2 c0 c1 NN vs cd) (Ac : Arv Z h0 ca kc .char 2 [(.int c0), (.int c1)] dc) :
    own_Met l Z (⟨"java/lang/StringUTF16", "compress", "([CII)[B"⟩ : MethodName) jdk_52_method_16_code 6 (some (.array .byte)) own_r_own_cb_3_0 #[.ref ca, .int 0, .int 2] h0 (own_Qb Z NN vs h0 n0) := by
  rcases hK with ⟨m0, m1, rfl, rfl, rfl⟩ | ⟨hq, rfl, rfl, rfl⟩
  · exact own_cb_2_2 l Z a0 hw ca kc dc c0 c1 h0 n0 hO hU hR0 hR1 m0 m1 Ac
  by_cases m0 : (255 : Int32) < c0
  · exact own_cb_2_0 l Z a0 hw ca kc dc c0 c1 h0 n0 hO hU hR0 hR1 m0 Ac
  have m1 : (255 : Int32) < c1 := hq.resolve_left m0
  exact own_cb_2_1 l Z a0 hw ca kc dc c0 c1 h0 n0 hO hU hR0 hR1 m0 m1 Ac
theorem own_cb3 (l : Launch) (Z : State) (a0 : Array Value) (hw : own_W a0 Z) (ca : Addr) (kc : ClassId) (dc : Value) (c0 c1 c2 NN cd : Int32) (vs : List Value) (h0 : Heap) (n0 : Nat) (hO : Old Z n0 h0) (hU : own_Us Z) (hR0 : own_R c0) (hR1 : own_R c1) (hR2 : own_R c2) (hK : own_K3 c0 c1 c2 NN vs cd) (Ac : Arv Z h0 ca kc .char 3 [(.int c0), (.int c1), (.int c2)] dc) :
    own_Met l Z (⟨"java/lang/StringUTF16", "compress", "([CII)[B"⟩ : MethodName) jdk_52_method_16_code 6 (some (.array .byte)) own_r_own_cb_3_0 #[.ref ca, .int 0, .int 3] h0 (own_Qb Z NN vs h0 n0) := by
  rcases hK with ⟨m0, m1, m2, rfl, rfl, rfl⟩ | ⟨hq, rfl, rfl, rfl⟩
  · exact own_cb_3_3 l Z a0 hw ca kc dc c0 c1 c2 h0 n0 hO hU hR0 hR1 hR2 m0 m1 m2 Ac
  by_cases m0 : (255 : Int32) < c0
  · exact own_cb_3_0 l Z a0 hw ca kc dc c0 c1 c2 h0 n0 hO hU hR0 hR1 hR2 m0 Ac
  by_cases m1 : (255 : Int32) < c1
  · exact own_cb_3_1 l Z a0 hw ca kc dc c0 c1 c2 h0 n0 hO hU hR0 hR1 hR2 m0 m1 Ac
  have m2 : (255 : Int32) < c2 := (hq.resolve_left m0).resolve_left m1
  exact own_cb_3_2 l Z a0 hw ca kc dc c0 c1 c2 h0 n0 hO hU hR0 hR1 hR2 m0 m1 m2 Ac
theorem d7_0 : decode jdk_52_method_15_code 0 = .ok (.iload_n 1, 1) := by decide +kernel
theorem d7_1 : decode jdk_52_method_15_code 1 = .ok (.aload_n 0, 1) := by decide +kernel
theorem d7_2 : decode jdk_52_method_15_code 2 = .ok (.arraylength, 1) := by decide +kernel
theorem d7_3 : decode jdk_52_method_15_code 3 = .ok (.isub, 1) := by decide +kernel
theorem d7_4 : decode jdk_52_method_15_code 4 = .ok (.bipush 31, 2) := by decide +kernel
theorem d7_6 : decode jdk_52_method_15_code 6 = .ok (.iushr, 1) := by decide +kernel
theorem d7_7 : decode jdk_52_method_15_code 7 = .ok (.i2b, 1) := by decide +kernel
theorem d7_8 : decode jdk_52_method_15_code 8 = .ok (.ireturn, 1) := by decide +kernel
def own_r_own_cfl : Room := { frames := 0, cells := 0, slots := 0, locals := 0 }
theorem own_cfl (l : Launch) (Z : State) (a0 : Array Value) (hw : own_W a0 Z) (b : Addr) (kb : ClassId) (vs : List Value) (dv : Value) (n NN cd : Int32) (h0 : Heap) (n0 : Nat) (hcf : own_cdf n NN = cd ∧ narrow .byte (.int cd) = .int cd ∧ fits .byte (.int cd) = true) (Ab : Arv Z h0 b kb .byte NN vs dv) :
    own_Met l Z (⟨"java/lang/StringUTF16", "coderFromArrayLen", "([BI)B"⟩ : MethodName) jdk_52_method_15_code 2 (some .byte) own_r_own_cfl #[(.ref b), (.int n)] h0 (own_Qv (some (.int cd)) h0 n0) := by
  refine own_body (by decide +kernel) ?_
  intro p e s m below meth c T0 X0 hx hZ hby hml hown hnm hret hlk e0
  have N0 := Fr.nil n0
  refine own_cast (own_frame (L := [rv b, iv n]) (ls := #[rv b, iv n]) rfl rfl) ?_
  refine og_iloadN X0 hx (hb hby d7_0) rfl ?_
  refine og_aloadN X0 hx (hb hby d7_1) rfl rfl ?_
  refine own_len X0 hx hZ e0 Ab (hb hby d7_2) ?_
  show own_Go p e below _ T0 (mkF m 3 #[rv b, iv n] [(.int NN), (.int n)])
  refine og_isub X0 hx (hb hby d7_3) ?_
  refine og_bipush X0 hx (hb hby d7_4) ?_
  refine own_go (fun t k => XS.iushr X0.here hx rfl (hb hby d7_6) rfl k) ?_
  show own_Go p e below _ T0 (mkF m 7 #[rv b, iv n] [(.int (((n - NN).toUInt32 >>> ((31 : Int32) &&& 31).toUInt32).toInt32))])
  refine own_go (fun t k => XS.i2b X0.here hx rfl (hb hby d7_7) rfl k) ?_
  show own_Go p e below _ T0 (mkF m 8 #[rv b, iv n] [(.int ((((n - NN).toUInt32 >>> ((31 : Int32) &&& 31).toUInt32).toInt32).toInt8.toInt32))])
  show own_Go p e below _ T0 (mkF m 8 #[rv b, iv n] [(.int (own_cdf n NN))])
  rw [hcf.1]
  show own_Go p e below _ T0 (mkF m 8 #[rv b, iv n] [(.int cd)])
  exact own_retI X0 hx hret hlk (hb hby d7_8) hcf.2.1 (by simp) (by decide) (by decide) (⟨rfl, N0, e0⟩)
abbrev own_Cd (Z : State) (h : Heap) (t : Addr) (cd : Int32) : Prop := Fld Z h t "java/lang/String" "coder" "B" (.int cd)
def own_Qsc (Z : State) (a1 : Addr) (NN cd : Int32) (vs : List Value) (h0 : Heap) (n0 : Nat) (v : Option Value) (h : Heap) (L : List Loc) : Prop := ∃ (b : Addr) (k : ClassId), v = none ∧ Fr n0 L ∧ Keep h0 h [a1] ∧ h0.size ≤ b ∧ n0 ≤ b ∧ a1 ≠ b ∧ own_V Z h a1 b ∧ own_Cd Z h a1 cd ∧ Arv Z h b k .byte NN vs (.int (0 : Int32))
theorem d3_0 : decode jdk_42_method_149_code 0 = .ok (.aload_n 0, 1) := by decide +kernel
theorem d3_1 : decode jdk_42_method_149_code 1 = .ok (.invokespecial 1, 3) := by decide +kernel
theorem d3_4 : decode jdk_42_method_149_code 4 = .ok (.iload_n 3, 1) := by decide +kernel
theorem d3_5 : decode jdk_42_method_149_code 5 = .ok (.ifCond .ne 22, 3) := by decide +kernel
theorem d3_27 : decode jdk_42_method_149_code 27 = .ok (.getstatic 38, 3) := by decide +kernel
theorem d3_30 : decode jdk_42_method_149_code 30 = .ok (.ifCond .eq 28, 3) := by decide +kernel
theorem d3_33 : decode jdk_42_method_149_code 33 = .ok (.aload_n 1, 1) := by decide +kernel
theorem d3_34 : decode jdk_42_method_149_code 34 = .ok (.iload_n 2, 1) := by decide +kernel
theorem d3_35 : decode jdk_42_method_149_code 35 = .ok (.iload_n 3, 1) := by decide +kernel
theorem d3_36 : decode jdk_42_method_149_code 36 = .ok (.invokestatic 177, 3) := by decide +kernel
theorem d3_39 : decode jdk_42_method_149_code 39 = .ok (.astore 5, 2) := by decide +kernel
theorem d3_41 : decode jdk_42_method_149_code 41 = .ok (.aload_n 0, 1) := by decide +kernel
theorem d3_42 : decode jdk_42_method_149_code 42 = .ok (.aload 5, 2) := by decide +kernel
theorem d3_44 : decode jdk_42_method_149_code 44 = .ok (.iload_n 3, 1) := by decide +kernel
theorem d3_45 : decode jdk_42_method_149_code 45 = .ok (.invokestatic 47, 3) := by decide +kernel
theorem d3_48 : decode jdk_42_method_149_code 48 = .ok (.putfield 15, 3) := by decide +kernel
theorem d3_51 : decode jdk_42_method_149_code 51 = .ok (.aload_n 0, 1) := by decide +kernel
theorem d3_52 : decode jdk_42_method_149_code 52 = .ok (.aload 5, 2) := by decide +kernel
theorem d3_54 : decode jdk_42_method_149_code 54 = .ok (.putfield 9, 3) := by decide +kernel
theorem d3_57 : decode jdk_42_method_149_code 57 = .ok (.return_, 1) := by decide +kernel
theorem own_pd73100 : parseMethodDescriptor "([BI)B" = some ⟨[(.array .byte), .int], some .byte⟩ := by decide +kernel
def own_r_own_sc4 : Room := { frames := 4, cells := 2, slots := 9, locals := 57 }
theorem own_sc4 (l : Launch) (Z : State) (a0 : Array Value) (hw : own_W a0 Z) (z : Int32) (a1 ca : Addr) (kc : ClassId) (u1 u2 dc : Value) (va : List Value) (n NN cd : Int32) (vs : List Value) (h0 : Heap) (n0 : Nat) (hO : Old Z n0 h0) (SC : Sta Z Z.heap "java/lang/String" "COMPACT_STRINGS" "Z" (.int z)) (hz : ¬ z = 0) (hn0 : ¬ n = 0) (g1 : n0 ≤ a1) (n1c : a1 ≠ ca) (hcf : own_cdf n NN = cd ∧ narrow .byte (.int cd) = .int cd ∧ fits .byte (.int cd) = true) (inn : own_Met l Z (⟨"java/lang/StringUTF16", "compress", "([CII)[B"⟩ : MethodName) jdk_52_method_16_code 6 (some (.array .byte)) own_r_own_cb_3_0 #[.ref ca, .int 0, .int n] h0 (own_Qb Z NN vs h0 n0)) (E1a : own_E Z h0 a1) (F1a : Fld Z h0 a1 "java/lang/String" "value" "[B" u1) (F2a : Fld Z h0 a1 "java/lang/String" "coder" "B" u2) (Ac : Arv Z h0 ca kc .char n va dc) :
    own_Met l Z (⟨"java/lang/String", "<init>", "([CIILjava/lang/Void;)V"⟩ : MethodName) jdk_42_method_149_code 6 none own_r_own_sc4 #[(.ref a1), (.ref ca), (.int 0), (.int n), .null] h0 (own_Qsc Z a1 NN cd vs h0 n0) := by
  refine own_body (by decide +kernel) ?_
  intro p e s m below meth c T0 X0 hx hZ hby hml hown hnm hret hlk e0
  have N0 := Fr.nil n0
  refine own_cast (own_frame (L := [rv a1, rv ca, iv 0, iv n, .val .null]) (ls := #[rv a1, rv ca, iv 0, iv n, .val .null, .unset]) rfl rfl) ?_
  refine og_aloadN X0 hx (hb hby d3_0) rfl rfl ?_
  obtain ⟨T1, X1, e1, st1⟩ := initO X0 hx hZ hown (own_hw hw 15 rfl) (own_hw hw 16 rfl) (own_hw hw 17 rfl) e0 (g := (mkF m 1 #[rv a1, rv ca, iv 0, iv n, .val .null, .unset] [(.ref a1)])) rfl (by rw [hml]; rfl) rfl (hb hby d3_1) (by decide) (W := 0) (by show 2 * 0 + _ ≤ _; exact Nat.le_of_eq rfl) (by decide)
  refine own_go st1 ?_
  show own_Go p e below _ T1 (mkF m 4 #[rv a1, rv ca, iv 0, iv n, .val .null, .unset] [])
  refine og_iloadN X1 hx (hb hby d3_4) rfl ?_
  refine og_ifY X1 hx 27 (hb hby d3_5) (feq hn0).2 (by decide) (by decide) ?_
  refine og_getS X1 hx hZ hown (own_hw hw 18 rfl) Via.refl e1 (SC.ext hO.2) (hb hby d3_27) ?_
  intro T2 X2 e2
  show own_Go p e below _ T2 (mkF m 30 #[rv a1, rv ca, iv 0, iv n, .val .null, .unset] [(.int z)])
  refine og_ifN X2 hx (hb hby d3_30) (feq hz).1 ?_
  refine og_aloadN X2 hx (hb hby d3_33) rfl rfl ?_
  refine og_iloadN X2 hx (hb hby d3_34) rfl ?_
  refine og_iloadN X2 hx (hb hby d3_35) rfl ?_
  refine own_callS X2 hx hZ hown (own_hw hw 19 rfl) (own_hw hw 20 rfl) (own_hw hw 21 rfl) (own_hw hw 22 rfl) (by decide) (argsL := [(.ref ca), (.int 0), (.int n)]) (rest := []) inn e2 (by rw [hml]; rfl) (lenOf own_pd56262 rfl) rfl (hb hby d3_36) (W := 0) (Nat.le_of_eq rfl) (by decide) ?_
  intro v3 T3 L3 X3 q3
  obtain ⟨b3, k3, rfl, N3q, K3q, z3q, g3q, A3q⟩ := q3
  have N3 := Fr.app N0 N3q
  have ne_a1_b3 : a1 ≠ b3 := Nat.ne_of_lt (Nat.lt_of_lt_of_le E1a.lt z3q)
  have ne_ca_b3 : ca ≠ b3 := Nat.ne_of_lt (Nat.lt_of_lt_of_le Ac.lt z3q)
  have sz_b3 : h0.size ≤ b3 := Nat.le_trans (Keep.refl h0 [a1]).1 z3q
  have E_a1_3 := E1a.keep K3q
  have F_a1_value_3 := F1a.keep K3q nin0
  have F_a1_coder_3 := F2a.keep K3q nin0
  have A_ca_3 := Ac.keep K3q nin0
  have O3 := hO.keep K3q all0
  have K3 := (Keep.refl h0 [a1]).trans K3q all0
  show own_Go p e below _ T3 (mkF m 39 #[rv a1, rv ca, iv 0, iv n, .val .null, .unset] [(.ref b3)])
  refine og_astore X3 hx #[rv a1, rv ca, iv 0, iv n, .val .null, rv b3] (hb hby d3_39) rfl rfl ?_
  refine og_aloadN X3 hx (hb hby d3_41) rfl rfl ?_
  refine og_aload X3 hx (hb hby d3_42) rfl rfl ?_
  refine og_iloadN X3 hx (hb hby d3_44) rfl ?_
  refine own_callS X3 hx hZ hown (own_hw hw 27 rfl) (own_hw hw 28 rfl) (own_hw hw 21 rfl) (own_hw hw 29 rfl) (by decide) (argsL := [(.ref b3), (.int n)]) (rest := [(.ref a1)]) (own_cfl l Z a0 hw b3 _ _ _ n NN cd T3.heap n0 hcf A3q) rfl (by rw [hml]; rfl) (lenOf own_pd73100 rfl) rfl (hb hby d3_45) (W := 1) (Nat.le_of_eq rfl) (by decide) ?_
  intro v4 T4 L4 X4 q4
  obtain ⟨rfl, N4q, e4⟩ := q4
  have N4 := Fr.app N3 N4q
  show own_Go p e below _ T4 (mkF m 48 #[rv a1, rv ca, iv 0, iv n, .val .null, rv b3] [(.int cd), (.ref a1)])
  obtain ⟨T5, h5, X5, e5, W5, st5⟩ := putFN X4 hx hZ hown (own_hw hw 30 rfl) Via.refl e4 F_a1_coder_3 E_a1_3 (Or.inr ⟨(own_hw hw 31 rfl), rfl, hnm⟩) (own_hw hw 5 rfl) (ty := .byte) (v' := (.int cd)) (by decide) hcf.2.1 hcf.2.2 (g := (mkF m 48 #[rv a1, rv ca, iv 0, iv n, .val .null, rv b3] [(.int cd), (.ref a1)])) rfl rfl (hb hby d3_48)
  refine own_go st5 ?_
  have E_a1_5 := E_a1_3.wr W5
  have F_a1_value_5 := F_a1_value_3.other W5 (Or.inr (slot_ne (Or.inr (own_hw hw 33 rfl)) (Or.inr (own_hw hw 31 rfl)) (by decide) (t := (.array .byte)) (t' := .byte) (by decide) (by decide)))
  have A_ca_5 := A_ca_3.other W5 (Ne.symm n1c)
  have A_b3_5 := A3q.other W5 (Ne.symm ne_a1_b3)
  have O5 := O3.wr W5 g1
  have K5 := K3.wr W5 (Or.inl (by simp))
  have N5 := Fr.snoc X5 N4 g1
  have F_a1_coder_5 : Fld Z h5 a1 "java/lang/String" "coder" "B" (.int cd) := F_a1_coder_3.same W5
  show own_Go p e below _ T5 (mkF m 51 #[rv a1, rv ca, iv 0, iv n, .val .null, rv b3] [])
  refine og_aloadN X5 hx (hb hby d3_51) rfl rfl ?_
  refine og_aload X5 hx (hb hby d3_52) rfl rfl ?_
  obtain ⟨T6, h6, X6, e6, W6, st6⟩ := putF X5 hx hZ hown (host := "") (Or.inl (own_hw hw 32 rfl)) Via.refl e5 F_a1_value_5 E_a1_5 (Or.inr ⟨(own_hw hw 33 rfl), rfl, hnm⟩) (own_hw hw 5 rfl) (ty := (.array .byte)) (by decide) rfl rfl (g := (mkF m 54 #[rv a1, rv ca, iv 0, iv n, .val .null, rv b3] [(.ref b3), (.ref a1)])) rfl rfl (hb hby d3_54)
  refine own_go st6 ?_
  have E_a1_6 := E_a1_5.wr W6
  have A_ca_6 := A_ca_5.other W6 (Ne.symm n1c)
  have A_b3_6 := A_b3_5.other W6 (Ne.symm ne_a1_b3)
  have F_a1_coder_6 := F_a1_coder_5.other W6 (Or.inr (slot_ne (Or.inr (own_hw hw 31 rfl)) (Or.inr (own_hw hw 33 rfl)) (by decide) (t := .byte) (t' := (.array .byte)) (by decide) (by decide)))
  have O6 := O5.wr W6 g1
  have K6 := K5.wr W6 (Or.inl (by simp))
  have N6 := Fr.snoc X6 N5 g1
  have F_a1_value_6 : Fld Z h6 a1 "java/lang/String" "value" "[B" (.ref b3) := F_a1_value_5.same W6
  show own_Go p e below _ T6 (mkF m 57 #[rv a1, rv ca, iv 0, iv n, .val .null, rv b3] [])
  exact own_retV X6 hx hret hlk (hb hby d3_57) (by decide) (by decide) (by rw [e6]; exact ⟨b3, _, rfl, N6, K6, sz_b3, g3q, ne_a1_b3, F_a1_value_6, F_a1_coder_6, A_b3_6⟩)
theorem d2_0 : decode jdk_42_method_3_code 0 = .ok (.aload_n 0, 1) := by decide +kernel
theorem d2_1 : decode jdk_42_method_3_code 1 = .ok (.aload_n 1, 1) := by decide +kernel
theorem d2_2 : decode jdk_42_method_3_code 2 = .ok (.iconst 0, 1) := by decide +kernel
theorem d2_3 : decode jdk_42_method_3_code 3 = .ok (.aload_n 1, 1) := by decide +kernel
theorem d2_4 : decode jdk_42_method_3_code 4 = .ok (.arraylength, 1) := by decide +kernel
theorem d2_5 : decode jdk_42_method_3_code 5 = .ok (.aconst_null, 1) := by decide +kernel
theorem d2_6 : decode jdk_42_method_3_code 6 = .ok (.invokespecial 27, 3) := by decide +kernel
theorem d2_9 : decode jdk_42_method_3_code 9 = .ok (.return_, 1) := by decide +kernel
theorem own_pd61703 : parseMethodDescriptor "([CIILjava/lang/Void;)V" = some ⟨[(.array .char), .int, .int, (.object "java/lang/Void")], none⟩ := by decide +kernel
def own_r_own_sc1 : Room := { frames := 5, cells := 2, slots := 9, locals := 74 }
theorem own_sc1 (l : Launch) (Z : State) (a0 : Array Value) (hw : own_W a0 Z) (z : Int32) (a1 ca : Addr) (kc : ClassId) (u1 u2 dc : Value) (va : List Value) (n NN cd : Int32) (vs : List Value) (h0 : Heap) (n0 : Nat) (hO : Old Z n0 h0) (SC : Sta Z Z.heap "java/lang/String" "COMPACT_STRINGS" "Z" (.int z)) (hz : ¬ z = 0) (hn0 : ¬ n = 0) (g1 : n0 ≤ a1) (n1c : a1 ≠ ca) (hcf : own_cdf n NN = cd ∧ narrow .byte (.int cd) = .int cd ∧ fits .byte (.int cd) = true) (inn : own_Met l Z (⟨"java/lang/StringUTF16", "compress", "([CII)[B"⟩ : MethodName) jdk_52_method_16_code 6 (some (.array .byte)) own_r_own_cb_3_0 #[.ref ca, .int 0, .int n] h0 (own_Qb Z NN vs h0 n0)) (E1a : own_E Z h0 a1) (F1a : Fld Z h0 a1 "java/lang/String" "value" "[B" u1) (F2a : Fld Z h0 a1 "java/lang/String" "coder" "B" u2) (Ac : Arv Z h0 ca kc .char n va dc) :
    own_Met l Z (⟨"java/lang/String", "<init>", "([C)V"⟩ : MethodName) jdk_42_method_3_code 2 none own_r_own_sc1 #[(.ref a1), (.ref ca)] h0 (own_Qsc Z a1 NN cd vs h0 n0) := by
  refine own_body (by decide +kernel) ?_
  intro p e s m below meth c T0 X0 hx hZ hby hml hown hnm hret hlk e0
  have N0 := Fr.nil n0
  refine own_cast (own_frame (L := [rv a1, rv ca]) (ls := #[rv a1, rv ca]) rfl rfl) ?_
  refine og_aloadN X0 hx (hb hby d2_0) rfl rfl ?_
  refine og_aloadN X0 hx (hb hby d2_1) rfl rfl ?_
  refine og_iconst X0 hx (hb hby d2_2) ?_
  refine og_aloadN X0 hx (hb hby d2_3) rfl rfl ?_
  refine own_len X0 hx hZ e0 Ac (hb hby d2_4) ?_
  show own_Go p e below _ T0 (mkF m 5 #[rv a1, rv ca] [(.int n), (.int 0), (.ref ca), (.ref a1)])
  refine og_null X0 hx (hb hby d2_5) ?_
  refine own_callN X0 hx hZ hown (own_hw hw 11 rfl) (own_hw hw 12 rfl) (own_hw hw 14 rfl) (own_hw hw 6 rfl) (by decide) rfl (b := a1) (argsL := [(.ref ca), (.int 0), (.int n), .null]) (rest := []) (own_sc4 l Z a0 hw z a1 ca _ _ _ _ _ n NN cd vs h0 n0 hO SC hz hn0 g1 n1c hcf inn E1a F1a F2a Ac) e0 (by rw [hml]; rfl) (lenOf own_pd61703 rfl) rfl (hb hby d2_6) (W := 0) (Nat.le_of_eq rfl) (by decide) ?_
  intro v1 T1 L1 X1 q1
  obtain ⟨b1, k1, rfl, N1q, K1q, z1q, g1q, nb1, Fv1, Fc1, A1q⟩ := q1
  have N1 := Fr.app N0 N1q
  have ne_a1_b1 : a1 ≠ b1 := Nat.ne_of_lt (Nat.lt_of_lt_of_le E1a.lt z1q)
  have ne_ca_b1 : ca ≠ b1 := Nat.ne_of_lt (Nat.lt_of_lt_of_le Ac.lt z1q)
  have sz_b1 : h0.size ≤ b1 := Nat.le_trans (Keep.refl h0 [a1]).1 z1q
  have E_a1_1 := E1a.keep K1q
  have A_ca_1 := Ac.keep K1q (ninS (Ne.symm n1c) nin0)
  have O1 := hO.keep K1q (allS g1 all0)
  have K1 := (Keep.refl h0 [a1]).trans K1q (allS (Or.inl (by simp)) all0)
  show own_Go p e below _ T1 (mkF m 9 #[rv a1, rv ca] [])
  exact own_retV X1 hx hret hlk (hb hby d2_9) (by decide) (by decide) (⟨b1, _, rfl, N1, K1, sz_b1, g1q, nb1, Fv1, Fc1, A1q⟩)
def own_Qm (Z : State) (NN cd : Int32) (vs : List Value) (h0 : Heap) (n0 : Nat) (v : Option Value) (h : Heap) (L : List Loc) : Prop := ∃ (t b : Addr) (k : ClassId), v = some (.ref t) ∧ Fr n0 L ∧ Keep h0 h [] ∧ h0.size ≤ t ∧ n0 ≤ t ∧ own_E Z h t ∧ own_V Z h t b ∧ own_Cd Z h t cd ∧ Arv Z h b k .byte NN vs (.int (0 : Int32))
theorem d1_0 : decode method_3_code 0 = .ok (.iload_n 0, 1) := by decide +kernel
theorem d1_1 : decode method_3_code 1 = .ok (.ifCond .ne 14, 3) := by decide +kernel
theorem d1_15 : decode method_3_code 15 = .ok (.iload_n 0, 1) := by decide +kernel
theorem d1_16 : decode method_3_code 16 = .ok (.iconst 1, 1) := by decide +kernel
theorem d1_17 : decode method_3_code 17 = .ok (.if_icmp .ne 18, 3) := by decide +kernel
theorem d1_20 : decode method_3_code 20 = .ok (.new 21, 3) := by decide +kernel
theorem d1_23 : decode method_3_code 23 = .ok (.dup, 1) := by decide +kernel
theorem d1_24 : decode method_3_code 24 = .ok (.iconst 1, 1) := by decide +kernel
theorem d1_25 : decode method_3_code 25 = .ok (.newarray .char, 2) := by decide +kernel
theorem d1_27 : decode method_3_code 27 = .ok (.dup, 1) := by decide +kernel
theorem d1_28 : decode method_3_code 28 = .ok (.iconst 0, 1) := by decide +kernel
theorem d1_29 : decode method_3_code 29 = .ok (.iload_n 1, 1) := by decide +kernel
theorem d1_30 : decode method_3_code 30 = .ok (.castore, 1) := by decide +kernel
theorem d1_31 : decode method_3_code 31 = .ok (.invokespecial 26, 3) := by decide +kernel
theorem d1_34 : decode method_3_code 34 = .ok (.areturn, 1) := by decide +kernel
theorem own_pd46664 : parseMethodDescriptor "([C)V" = some ⟨[(.array .char)], none⟩ := by decide +kernel
def own_r_own_mk1 : Room := { frames := 6, cells := 4, slots := 14, locals := 88 }
theorem own_mk1 (l : Launch) (Z : State) (a0 : Array Value) (hw : own_W a0 Z) (z c0 c1 c2 NN cd : Int32) (vs : List Value) (h0 : Heap) (n0 : Nat) (hO : Old Z n0 h0) (hU : own_Us Z) (SC : Sta Z Z.heap "java/lang/String" "COMPACT_STRINGS" "Z" (.int z)) (hz : ¬ z = 0) (hR0 : own_R c0) (hK : own_K1 c0 NN vs cd) :
    own_Met l Z (⟨"com/example/winnow/winnow/io/TextFilesWithoutByteOrderMarkPinLaw", "make", "(ICCC)Ljava/lang/String;"⟩ : MethodName) method_3_code 4 (some (.object "java/lang/String")) own_r_own_mk1 #[(.int 1), (.int c0), (.int c1), (.int c2)] h0 (own_Qm Z NN cd vs h0 n0) := by
  refine own_body (by decide +kernel) ?_
  intro p e s m below meth c T0 X0 hx hZ hby hml hown hnm hret hlk e0
  have N0 := Fr.nil n0
  refine own_cast (own_frame (L := [iv 1, iv c0, iv c1, iv c2]) (ls := #[iv 1, iv c0, iv c1, iv c2]) rfl rfl) ?_
  refine og_iloadN X0 hx (hb hby d1_0) rfl ?_
  refine og_ifY X0 hx 15 (hb hby d1_1) (feq (by decide)).2 (by decide) (by decide) ?_
  refine og_iloadN X0 hx (hb hby d1_15) rfl ?_
  refine og_iconst X0 hx (hb hby d1_16) ?_
  refine og_icN X0 hx (hb hby d1_17) (teq rfl).2 ?_
  refine own_newO X0 hx hZ hown (own_hw hw 4 rfl) (own_hw hw 5 rfl) (own_hw hw 6 rfl) e0 (hb hby d1_20) (by decide) (by decide) ?_
  intro T1 h1 b1 g1 X1 e1 E1 A1 D1
  have ge_b1 : n0 ≤ b1 := Nat.le_trans (own_oldle hO) (Nat.le_of_eq g1.symm)
  have sz_b1 : h0.size ≤ b1 := Nat.le_trans (Keep.refl h0 []).1 (Nat.le_of_eq g1.symm)
  have O1 := hO.ext E1
  have K1 := (Keep.refl h0 []).ext E1
  have F_b1_coder_1 : Fld Z h1 b1 "java/lang/String" "coder" "B" (.int 0) := D1 (Or.inr (own_hw hw 31 rfl)) (ty := .byte) (by decide)
  have F_b1_value_1 : Fld Z h1 b1 "java/lang/String" "value" "[B" .null := D1 (Or.inr (own_hw hw 33 rfl)) (ty := (.array .byte)) (by decide)
  show own_Go p e below _ T1 (mkF m 23 #[iv 1, iv c0, iv c1, iv c2] [(.ref b1)])
  refine og_dup X1 hx (hb hby d1_23) rfl ?_
  refine og_iconst X1 hx (hb hby d1_24) ?_
  refine own_newP X1 hx hZ (own_hw hw 7 rfl) e1 (hb hby d1_25) (by decide) 1 (by decide) (by decide) (by decide) (by decide) ?_
  intro T2 h2 k2 b2 g2 X2 e2 E2 A2
  have ne_b1_b2 : b1 ≠ b2 := Nat.ne_of_lt (Nat.lt_of_lt_of_eq A1.lt g2.symm)
  have ge_b2 : n0 ≤ b2 := Nat.le_trans (own_oldle O1) (Nat.le_of_eq g2.symm)
  have sz_b2 : h0.size ≤ b2 := Nat.le_trans K1.1 (Nat.le_of_eq g2.symm)
  have E_b1_2 := A1.ext E2
  have F_b1_coder_2 := F_b1_coder_1.ext E2
  have F_b1_value_2 := F_b1_value_1.ext E2
  have O2 := O1.ext E2
  have K2 := K1.ext E2
  have A_b2_2 : Arv Z h2 b2 k2 .char 1 [(.int (0 : Int32))] (.int (0 : Int32)) := A2
  show own_Go p e below _ T2 (mkF m 27 #[iv 1, iv c0, iv c1, iv c2] [(.ref b2), (.ref b1), (.ref b1)])
  refine og_dup X2 hx (hb hby d1_27) rfl ?_
  refine og_iconst X2 hx (hb hby d1_28) ?_
  refine og_iloadN X2 hx (hb hby d1_29) rfl ?_
  refine own_stC X2 hx hZ e2 A_b2_2 ⟨by decide, by decide⟩ 0 rfl (by show 0 < 1; decide) (hb hby d1_30) ?_
  intro T3 h3 X3 e3 W3 A3
  have E_b1_3 := E_b1_2.wr W3
  have F_b1_coder_3 := F_b1_coder_2.other W3 (Or.inl ne_b1_b2)
  have F_b1_value_3 := F_b1_value_2.other W3 (Or.inl ne_b1_b2)
  have O3 := O2.wr W3 ge_b2
  have K3 := K2.wr W3 (Or.inr sz_b2)
  have N3 := Fr.snoc X3 N0 ge_b2
  have A_b2_3 : Arv Z h3 b2 k2 .char 1 [(.int c0)] (.int (0 : Int32)) := (by have q := A3; rw [show nar .char c0 = c0 from own_ic16 _ hR0] at q; exact q)
  show own_Go p e below _ T3 (mkF m 31 #[iv 1, iv c0, iv c1, iv c2] [(.ref b2), (.ref b1), (.ref b1)])
  refine own_callN X3 hx hZ hown (own_hw hw 8 rfl) (own_hw hw 9 rfl) (own_hw hw 10 rfl) (own_hw hw 6 rfl) (by decide) rfl (b := b1) (argsL := [(.ref b2)]) (rest := [(.ref b1)]) (own_sc1 l Z a0 hw z b1 b2 _ _ _ _ _ 1 NN cd vs h3 n0 O3 SC hz (by decide) ge_b1 ne_b1_b2 (own_kc1 hK) (own_cb1 l Z a0 hw b2 _ _ c0 NN cd vs h3 n0 O3 hU hR0 hK A_b2_3) E_b1_3 F_b1_value_3 F_b1_coder_3 A_b2_3) e3 (by rw [hml]; rfl) (lenOf own_pd46664 rfl) rfl (hb hby d1_31) (W := 1) (Nat.le_of_eq rfl) (by decide) ?_
  intro v4 T4 L4 X4 q4
  obtain ⟨b4, k4, rfl, N4q, K4q, z4q, g4q, nb4, Fv4, Fc4, A4q⟩ := q4
  have N4 := Fr.app N3 N4q
  have ne_b1_b4 : b1 ≠ b4 := Nat.ne_of_lt (Nat.lt_of_lt_of_le E_b1_3.lt z4q)
  have ne_b2_b4 : b2 ≠ b4 := Nat.ne_of_lt (Nat.lt_of_lt_of_le A_b2_3.lt z4q)
  have sz_b4 : h0.size ≤ b4 := Nat.le_trans K3.1 z4q
  have E_b1_4 := E_b1_3.keep K4q
  have A_b2_4 := A_b2_3.keep K4q (ninS (Ne.symm ne_b1_b2) nin0)
  have O4 := O3.keep K4q (allS ge_b1 all0)
  have K4 := K3.trans K4q (allS (Or.inr sz_b1) all0)
  show own_Go p e below _ T4 (mkF m 34 #[iv 1, iv c0, iv c1, iv c2] [(.ref b1)])
  exact own_retA X4 hx hret hlk (hb hby d1_34) rfl rfl (by decide) (by decide) (⟨b1, b4, _, rfl, N4, K4, sz_b1, ge_b1, E_b1_4, Fv4, Fc4, A4q⟩)
theorem d1_35 : decode method_3_code 35 = .ok (.iload_n 0, 1) := by decide +kernel
theorem d1_36 : decode method_3_code 36 = .ok (.iconst 2, 1) := by decide +kernel
theorem d1_37 : decode method_3_code 37 = .ok (.if_icmp .ne 22, 3) := by decide +kernel
theorem d1_40 : decode method_3_code 40 = .ok (.new 21, 3) := by decide +kernel
theorem d1_43 : decode method_3_code 43 = .ok (.dup, 1) := by decide +kernel
theorem d1_44 : decode method_3_code 44 = .ok (.iconst 2, 1) := by decide +kernel
theorem d1_45 : decode method_3_code 45 = .ok (.newarray .char, 2) := by decide +kernel
theorem d1_47 : decode method_3_code 47 = .ok (.dup, 1) := by decide +kernel
theorem d1_48 : decode method_3_code 48 = .ok (.iconst 0, 1) := by decide +kernel
theorem d1_49 : decode method_3_code 49 = .ok (.iload_n 1, 1) := by decide +kernel
theorem d1_50 : decode method_3_code 50 = .ok (.castore, 1) := by decide +kernel
theorem d1_51 : decode method_3_code 51 = .ok (.dup, 1) := by decide +kernel
theorem d1_52 : decode method_3_code 52 = .ok (.iconst 1, 1) := by decide +kernel
theorem d1_53 : decode method_3_code 53 = .ok (.iload_n 2, 1) := by decide +kernel
theorem d1_54 : decode method_3_code 54 = .ok (.castore, 1) := by decide +kernel
theorem d1_55 : decode method_3_code 55 = .ok (.invokespecial 26, 3) := by decide +kernel
theorem d1_58 : decode method_3_code 58 = .ok (.areturn, 1) := by decide +kernel
def own_r_own_mk2 : Room := { frames := 6, cells := 4, slots := 15, locals := 88 }
theorem own_mk2 (l : Launch) (Z : State) (a0 : Array Value) (hw : own_W a0 Z) (z c0 c1 c2 NN cd : Int32) (vs : List Value) (h0 : Heap) (n0 : Nat) (hO : Old Z n0 h0) (hU : own_Us Z) (SC : Sta Z Z.heap "java/lang/String" "COMPACT_STRINGS" "Z" (.int z)) (hz : ¬ z = 0) (hR0 : own_R c0) (hR1 : own_R c1) (hK : own_K2 c0 c1 NN vs cd) :
    own_Met l Z (⟨"com/example/winnow/winnow/io/TextFilesWithoutByteOrderMarkPinLaw", "make", "(ICCC)Ljava/lang/String;"⟩ : MethodName) method_3_code 4 (some (.object "java/lang/String")) own_r_own_mk2 #[(.int 2), (.int c0), (.int c1), (.int c2)] h0 (own_Qm Z NN cd vs h0 n0) := by
  refine own_body (by decide +kernel) ?_
  intro p e s m below meth c T0 X0 hx hZ hby hml hown hnm hret hlk e0
  have N0 := Fr.nil n0
  refine own_cast (own_frame (L := [iv 2, iv c0, iv c1, iv c2]) (ls := #[iv 2, iv c0, iv c1, iv c2]) rfl rfl) ?_
  refine og_iloadN X0 hx (hb hby d1_0) rfl ?_
  refine og_ifY X0 hx 15 (hb hby d1_1) (feq (by decide)).2 (by decide) (by decide) ?_
  refine og_iloadN X0 hx (hb hby d1_15) rfl ?_
  refine og_iconst X0 hx (hb hby d1_16) ?_
  refine og_icY X0 hx 35 (hb hby d1_17) (feq (by decide)).2 (by decide) (by decide) ?_
  refine og_iloadN X0 hx (hb hby d1_35) rfl ?_
  refine og_iconst X0 hx (hb hby d1_36) ?_
  refine og_icN X0 hx (hb hby d1_37) (teq rfl).2 ?_
  refine own_newO X0 hx hZ hown (own_hw hw 4 rfl) (own_hw hw 5 rfl) (own_hw hw 6 rfl) e0 (hb hby d1_40) (by decide) (by decide) ?_
  intro T1 h1 b1 g1 X1 e1 E1 A1 D1
  have ge_b1 : n0 ≤ b1 := Nat.le_trans (own_oldle hO) (Nat.le_of_eq g1.symm)
  have sz_b1 : h0.size ≤ b1 := Nat.le_trans (Keep.refl h0 []).1 (Nat.le_of_eq g1.symm)
  have O1 := hO.ext E1
  have K1 := (Keep.refl h0 []).ext E1
  have F_b1_coder_1 : Fld Z h1 b1 "java/lang/String" "coder" "B" (.int 0) := D1 (Or.inr (own_hw hw 31 rfl)) (ty := .byte) (by decide)
  have F_b1_value_1 : Fld Z h1 b1 "java/lang/String" "value" "[B" .null := D1 (Or.inr (own_hw hw 33 rfl)) (ty := (.array .byte)) (by decide)
  show own_Go p e below _ T1 (mkF m 43 #[iv 2, iv c0, iv c1, iv c2] [(.ref b1)])
  refine og_dup X1 hx (hb hby d1_43) rfl ?_
  refine og_iconst X1 hx (hb hby d1_44) ?_
  refine own_newP X1 hx hZ (own_hw hw 7 rfl) e1 (hb hby d1_45) (by decide) 2 (by decide) (by decide) (by decide) (by decide) ?_
  intro T2 h2 k2 b2 g2 X2 e2 E2 A2
  have ne_b1_b2 : b1 ≠ b2 := Nat.ne_of_lt (Nat.lt_of_lt_of_eq A1.lt g2.symm)
  have ge_b2 : n0 ≤ b2 := Nat.le_trans (own_oldle O1) (Nat.le_of_eq g2.symm)
  have sz_b2 : h0.size ≤ b2 := Nat.le_trans K1.1 (Nat.le_of_eq g2.symm)
  have E_b1_2 := A1.ext E2
  have F_b1_coder_2 := F_b1_coder_1.ext E2
  have F_b1_value_2 := F_b1_value_1.ext E2
  have O2 := O1.ext E2
  have K2 := K1.ext E2
  have A_b2_2 : Arv Z h2 b2 k2 .char 2 [(.int (0 : Int32)), (.int (0 : Int32))] (.int (0 : Int32)) := A2
  show own_Go p e below _ T2 (mkF m 47 #[iv 2, iv c0, iv c1, iv c2] [(.ref b2), (.ref b1), (.ref b1)])
  refine og_dup X2 hx (hb hby d1_47) rfl ?_
  refine og_iconst X2 hx (hb hby d1_48) ?_
  refine og_iloadN X2 hx (hb hby d1_49) rfl ?_
  refine own_stC X2 hx hZ e2 A_b2_2 ⟨by decide, by decide⟩ 0 rfl (by show 0 < 2; decide) (hb hby d1_50) ?_
  intro T3 h3 X3 e3 W3 A3
  have E_b1_3 := E_b1_2.wr W3
  have F_b1_coder_3 := F_b1_coder_2.other W3 (Or.inl ne_b1_b2)
  have F_b1_value_3 := F_b1_value_2.other W3 (Or.inl ne_b1_b2)
  have O3 := O2.wr W3 ge_b2
  have K3 := K2.wr W3 (Or.inr sz_b2)
  have N3 := Fr.snoc X3 N0 ge_b2
  have A_b2_3 : Arv Z h3 b2 k2 .char 2 [(.int c0), (.int (0 : Int32))] (.int (0 : Int32)) := (by have q := A3; rw [show nar .char c0 = c0 from own_ic16 _ hR0] at q; exact q)
  show own_Go p e below _ T3 (mkF m 51 #[iv 2, iv c0, iv c1, iv c2] [(.ref b2), (.ref b1), (.ref b1)])
  refine og_dup X3 hx (hb hby d1_51) rfl ?_
  refine og_iconst X3 hx (hb hby d1_52) ?_
  refine og_iloadN X3 hx (hb hby d1_53) rfl ?_
  refine own_stC X3 hx hZ e3 A_b2_3 ⟨by decide, by decide⟩ 1 rfl (by show 1 < 2; decide) (hb hby d1_54) ?_
  intro T4 h4 X4 e4 W4 A4
  have E_b1_4 := E_b1_3.wr W4
  have F_b1_coder_4 := F_b1_coder_3.other W4 (Or.inl ne_b1_b2)
  have F_b1_value_4 := F_b1_value_3.other W4 (Or.inl ne_b1_b2)
  have O4 := O3.wr W4 ge_b2
  have K4 := K3.wr W4 (Or.inr sz_b2)
  have N4 := Fr.snoc X4 N3 ge_b2
  have A_b2_4 : Arv Z h4 b2 k2 .char 2 [(.int c0), (.int c1)] (.int (0 : Int32)) := (by have q := A4; rw [show nar .char c1 = c1 from own_ic16 _ hR1] at q; exact q)
  show own_Go p e below _ T4 (mkF m 55 #[iv 2, iv c0, iv c1, iv c2] [(.ref b2), (.ref b1), (.ref b1)])
  refine own_callN X4 hx hZ hown (own_hw hw 8 rfl) (own_hw hw 9 rfl) (own_hw hw 10 rfl) (own_hw hw 6 rfl) (by decide) rfl (b := b1) (argsL := [(.ref b2)]) (rest := [(.ref b1)]) (own_sc1 l Z a0 hw z b1 b2 _ _ _ _ _ 2 NN cd vs h4 n0 O4 SC hz (by decide) ge_b1 ne_b1_b2 (own_kc2 hK) (own_cb2 l Z a0 hw b2 _ _ c0 c1 NN cd vs h4 n0 O4 hU hR0 hR1 hK A_b2_4) E_b1_4 F_b1_value_4 F_b1_coder_4 A_b2_4) e4 (by rw [hml]; rfl) (lenOf own_pd46664 rfl) rfl (hb hby d1_55) (W := 1) (Nat.le_of_eq rfl) (by decide) ?_
  intro v5 T5 L5 X5 q5
  obtain ⟨b5, k5, rfl, N5q, K5q, z5q, g5q, nb5, Fv5, Fc5, A5q⟩ := q5
  have N5 := Fr.app N4 N5q
  have ne_b1_b5 : b1 ≠ b5 := Nat.ne_of_lt (Nat.lt_of_lt_of_le E_b1_4.lt z5q)
  have ne_b2_b5 : b2 ≠ b5 := Nat.ne_of_lt (Nat.lt_of_lt_of_le A_b2_4.lt z5q)
  have sz_b5 : h0.size ≤ b5 := Nat.le_trans K4.1 z5q
  have E_b1_5 := E_b1_4.keep K5q
  have A_b2_5 := A_b2_4.keep K5q (ninS (Ne.symm ne_b1_b2) nin0)
  have O5 := O4.keep K5q (allS ge_b1 all0)
  have K5 := K4.trans K5q (allS (Or.inr sz_b1) all0)
  show own_Go p e below _ T5 (mkF m 58 #[iv 2, iv c0, iv c1, iv c2] [(.ref b1)])
  exact own_retA X5 hx hret hlk (hb hby d1_58) rfl rfl (by decide) (by decide) (⟨b1, b5, _, rfl, N5, K5, sz_b1, ge_b1, E_b1_5, Fv5, Fc5, A5q⟩)
theorem d1_59 : decode method_3_code 59 = .ok (.new 21, 3) := by decide +kernel
theorem d1_62 : decode method_3_code 62 = .ok (.dup, 1) := by decide +kernel
theorem d1_63 : decode method_3_code 63 = .ok (.iconst 3, 1) := by decide +kernel
theorem d1_64 : decode method_3_code 64 = .ok (.newarray .char, 2) := by decide +kernel
theorem d1_66 : decode method_3_code 66 = .ok (.dup, 1) := by decide +kernel
theorem d1_67 : decode method_3_code 67 = .ok (.iconst 0, 1) := by decide +kernel
theorem d1_68 : decode method_3_code 68 = .ok (.iload_n 1, 1) := by decide +kernel
theorem d1_69 : decode method_3_code 69 = .ok (.castore, 1) := by decide +kernel
theorem d1_70 : decode method_3_code 70 = .ok (.dup, 1) := by decide +kernel
theorem d1_71 : decode method_3_code 71 = .ok (.iconst 1, 1) := by decide +kernel
theorem d1_72 : decode method_3_code 72 = .ok (.iload_n 2, 1) := by decide +kernel
theorem d1_73 : decode method_3_code 73 = .ok (.castore, 1) := by decide +kernel
theorem d1_74 : decode method_3_code 74 = .ok (.dup, 1) := by decide +kernel
theorem d1_75 : decode method_3_code 75 = .ok (.iconst 2, 1) := by decide +kernel
theorem d1_76 : decode method_3_code 76 = .ok (.iload_n 3, 1) := by decide +kernel
theorem d1_77 : decode method_3_code 77 = .ok (.castore, 1) := by decide +kernel
theorem d1_78 : decode method_3_code 78 = .ok (.invokespecial 26, 3) := by decide +kernel
theorem d1_81 : decode method_3_code 81 = .ok (.areturn, 1) := by decide +kernel
def own_r_own_mk3 : Room := { frames := 6, cells := 4, slots := 16, locals := 88 }
theorem own_mk3 (l : Launch) (Z : State) (a0 : Array Value) (hw : own_W a0 Z) (z c0 c1 c2 NN cd : Int32) (vs : List Value) (h0 : Heap) (n0 : Nat) (hO : Old Z n0 h0) (hU : own_Us Z) (SC : Sta Z Z.heap "java/lang/String" "COMPACT_STRINGS" "Z" (.int z)) (hz : ¬ z = 0) (hR0 : own_R c0) (hR1 : own_R c1) (hR2 : own_R c2) (hK : own_K3 c0 c1 c2 NN vs cd) :
    own_Met l Z (⟨"com/example/winnow/winnow/io/TextFilesWithoutByteOrderMarkPinLaw", "make", "(ICCC)Ljava/lang/String;"⟩ : MethodName) method_3_code 4 (some (.object "java/lang/String")) own_r_own_mk3 #[(.int 3), (.int c0), (.int c1), (.int c2)] h0 (own_Qm Z NN cd vs h0 n0) := by
  refine own_body (by decide +kernel) ?_
  intro p e s m below meth c T0 X0 hx hZ hby hml hown hnm hret hlk e0
  have N0 := Fr.nil n0
  refine own_cast (own_frame (L := [iv 3, iv c0, iv c1, iv c2]) (ls := #[iv 3, iv c0, iv c1, iv c2]) rfl rfl) ?_
  refine og_iloadN X0 hx (hb hby d1_0) rfl ?_
  refine og_ifY X0 hx 15 (hb hby d1_1) (feq (by decide)).2 (by decide) (by decide) ?_
  refine og_iloadN X0 hx (hb hby d1_15) rfl ?_
  refine og_iconst X0 hx (hb hby d1_16) ?_
  refine og_icY X0 hx 35 (hb hby d1_17) (feq (by decide)).2 (by decide) (by decide) ?_
  refine og_iloadN X0 hx (hb hby d1_35) rfl ?_
  refine og_iconst X0 hx (hb hby d1_36) ?_
  refine og_icY X0 hx 59 (hb hby d1_37) (feq (by decide)).2 (by decide) (by decide) ?_
  refine own_newO X0 hx hZ hown (own_hw hw 4 rfl) (own_hw hw 5 rfl) (own_hw hw 6 rfl) e0 (hb hby d1_59) (by decide) (by decide) ?_
  intro T1 h1 b1 g1 X1 e1 E1 A1 D1
  have ge_b1 : n0 ≤ b1 := Nat.le_trans (own_oldle hO) (Nat.le_of_eq g1.symm)
  have sz_b1 : h0.size ≤ b1 := Nat.le_trans (Keep.refl h0 []).1 (Nat.le_of_eq g1.symm)
  have O1 := hO.ext E1
  have K1 := (Keep.refl h0 []).ext E1
  have F_b1_coder_1 : Fld Z h1 b1 "java/lang/String" "coder" "B" (.int 0) := D1 (Or.inr (own_hw hw 31 rfl)) (ty := .byte) (by decide)
  have F_b1_value_1 : Fld Z h1 b1 "java/lang/String" "value" "[B" .null := D1 (Or.inr (own_hw hw 33 rfl)) (ty := (.array .byte)) (by decide)
  show own_Go p e below _ T1 (mkF m 62 #[iv 3, iv c0, iv c1, iv c2] [(.ref b1)])
  refine og_dup X1 hx (hb hby d1_62) rfl ?_
  refine og_iconst X1 hx (hb hby d1_63) ?_
  refine own_newP X1 hx hZ (own_hw hw 7 rfl) e1 (hb hby d1_64) (by decide) 3 (by decide) (by decide) (by decide) (by decide) ?_
  intro T2 h2 k2 b2 g2 X2 e2 E2 A2
  have ne_b1_b2 : b1 ≠ b2 := Nat.ne_of_lt (Nat.lt_of_lt_of_eq A1.lt g2.symm)
  have ge_b2 : n0 ≤ b2 := Nat.le_trans (own_oldle O1) (Nat.le_of_eq g2.symm)
  have sz_b2 : h0.size ≤ b2 := Nat.le_trans K1.1 (Nat.le_of_eq g2.symm)
  have E_b1_2 := A1.ext E2
  have F_b1_coder_2 := F_b1_coder_1.ext E2
  have F_b1_value_2 := F_b1_value_1.ext E2
  have O2 := O1.ext E2
  have K2 := K1.ext E2
  have A_b2_2 : Arv Z h2 b2 k2 .char 3 [(.int (0 : Int32)), (.int (0 : Int32)), (.int (0 : Int32))] (.int (0 : Int32)) := A2
  show own_Go p e below _ T2 (mkF m 66 #[iv 3, iv c0, iv c1, iv c2] [(.ref b2), (.ref b1), (.ref b1)])
  refine og_dup X2 hx (hb hby d1_66) rfl ?_
  refine og_iconst X2 hx (hb hby d1_67) ?_
  refine og_iloadN X2 hx (hb hby d1_68) rfl ?_
  refine own_stC X2 hx hZ e2 A_b2_2 ⟨by decide, by decide⟩ 0 rfl (by show 0 < 3; decide) (hb hby d1_69) ?_
  intro T3 h3 X3 e3 W3 A3
  have E_b1_3 := E_b1_2.wr W3
  have F_b1_coder_3 := F_b1_coder_2.other W3 (Or.inl ne_b1_b2)
  have F_b1_value_3 := F_b1_value_2.other W3 (Or.inl ne_b1_b2)
  have O3 := O2.wr W3 ge_b2
  have K3 := K2.wr W3 (Or.inr sz_b2)
  have N3 := Fr.snoc X3 N0 ge_b2
  have A_b2_3 : Arv Z h3 b2 k2 .char 3 [(.int c0), (.int (0 : Int32)), (.int (0 : Int32))] (.int (0 : Int32)) := (by have q := A3; rw [show nar .char c0 = c0 from own_ic16 _ hR0] at q; exact q)
  show own_Go p e below _ T3 (mkF m 70 #[iv 3, iv c0, iv c1, iv c2] [(.ref b2), (.ref b1), (.ref b1)])
  refine og_dup X3 hx (hb hby d1_70) rfl ?_
  refine og_iconst X3 hx (hb hby d1_71) ?_
  refine og_iloadN X3 hx (hb hby d1_72) rfl ?_
  refine own_stC X3 hx hZ e3 A_b2_3 ⟨by decide, by decide⟩ 1 rfl (by show 1 < 3; decide) (hb hby d1_73) ?_
  intro T4 h4 X4 e4 W4 A4
  have E_b1_4 := E_b1_3.wr W4
  have F_b1_coder_4 := F_b1_coder_3.other W4 (Or.inl ne_b1_b2)
  have F_b1_value_4 := F_b1_value_3.other W4 (Or.inl ne_b1_b2)
  have O4 := O3.wr W4 ge_b2
  have K4 := K3.wr W4 (Or.inr sz_b2)
  have N4 := Fr.snoc X4 N3 ge_b2
  have A_b2_4 : Arv Z h4 b2 k2 .char 3 [(.int c0), (.int c1), (.int (0 : Int32))] (.int (0 : Int32)) := (by have q := A4; rw [show nar .char c1 = c1 from own_ic16 _ hR1] at q; exact q)
  show own_Go p e below _ T4 (mkF m 74 #[iv 3, iv c0, iv c1, iv c2] [(.ref b2), (.ref b1), (.ref b1)])
  refine og_dup X4 hx (hb hby d1_74) rfl ?_
  refine og_iconst X4 hx (hb hby d1_75) ?_
  refine og_iloadN X4 hx (hb hby d1_76) rfl ?_
  refine own_stC X4 hx hZ e4 A_b2_4 ⟨by decide, by decide⟩ 2 rfl (by show 2 < 3; decide) (hb hby d1_77) ?_
  intro T5 h5 X5 e5 W5 A5
  have E_b1_5 := E_b1_4.wr W5
  have F_b1_coder_5 := F_b1_coder_4.other W5 (Or.inl ne_b1_b2)
  have F_b1_value_5 := F_b1_value_4.other W5 (Or.inl ne_b1_b2)
  have O5 := O4.wr W5 ge_b2
  have K5 := K4.wr W5 (Or.inr sz_b2)
  have N5 := Fr.snoc X5 N4 ge_b2
  have A_b2_5 : Arv Z h5 b2 k2 .char 3 [(.int c0), (.int c1), (.int c2)] (.int (0 : Int32)) := (by have q := A5; rw [show nar .char c2 = c2 from own_ic16 _ hR2] at q; exact q)
  show own_Go p e below _ T5 (mkF m 78 #[iv 3, iv c0, iv c1, iv c2] [(.ref b2), (.ref b1), (.ref b1)])
  refine own_callN X5 hx hZ hown (own_hw hw 8 rfl) (own_hw hw 9 rfl) (own_hw hw 10 rfl) (own_hw hw 6 rfl) (by decide) rfl (b := b1) (argsL := [(.ref b2)]) (rest := [(.ref b1)]) (own_sc1 l Z a0 hw z b1 b2 _ _ _ _ _ 3 NN cd vs h5 n0 O5 SC hz (by decide) ge_b1 ne_b1_b2 (own_kc3 hK) (own_cb3 l Z a0 hw b2 _ _ c0 c1 c2 NN cd vs h5 n0 O5 hU hR0 hR1 hR2 hK A_b2_5) E_b1_5 F_b1_value_5 F_b1_coder_5 A_b2_5) e5 (by rw [hml]; rfl) (lenOf own_pd46664 rfl) rfl (hb hby d1_78) (W := 1) (Nat.le_of_eq rfl) (by decide) ?_
  intro v6 T6 L6 X6 q6
  obtain ⟨b6, k6, rfl, N6q, K6q, z6q, g6q, nb6, Fv6, Fc6, A6q⟩ := q6
  have N6 := Fr.app N5 N6q
  have ne_b1_b6 : b1 ≠ b6 := Nat.ne_of_lt (Nat.lt_of_lt_of_le E_b1_5.lt z6q)
  have ne_b2_b6 : b2 ≠ b6 := Nat.ne_of_lt (Nat.lt_of_lt_of_le A_b2_5.lt z6q)
  have sz_b6 : h0.size ≤ b6 := Nat.le_trans K5.1 z6q
  have E_b1_6 := E_b1_5.keep K6q
  have A_b2_6 := A_b2_5.keep K6q (ninS (Ne.symm ne_b1_b2) nin0)
  have O6 := O5.keep K6q (allS ge_b1 all0)
  have K6 := K5.trans K6q (allS (Or.inr sz_b1) all0)
  show own_Go p e below _ T6 (mkF m 81 #[iv 3, iv c0, iv c1, iv c2] [(.ref b1)])
  exact own_retA X6 hx hret hlk (hb hby d1_81) rfl rfl (by decide) (by decide) (⟨b1, b6, _, rfl, N6, K6, sz_b1, ge_b1, E_b1_6, Fv6, Fc6, A6q⟩)
def own_Qz (Z : State) (a1 : Addr) (h0 : Heap) (n0 : Nat) (v : Option Value) (h : Heap) (L : List Loc) : Prop := ∃ (d : Addr) (k : ClassId), v = none ∧ Fr n0 L ∧ Keep h0 h [a1] ∧ Fld Z h a1 "java/lang/String" "value" "[B" (.ref d) ∧ Fld Z h a1 "java/lang/String" "coder" "B" (.int (0 : Int32)) ∧ Arv Z h d k .byte (0 : Int32) [] (.int (0 : Int32))
theorem d3_8 : decode jdk_42_method_149_code 8 = .ok (.aload_n 0, 1) := by decide +kernel
theorem d3_9 : decode jdk_42_method_149_code 9 = .ok (.ldc 7, 2) := by decide +kernel
theorem d3_11 : decode jdk_42_method_149_code 11 = .ok (.getfield 9, 3) := by decide +kernel
theorem d3_14 : decode jdk_42_method_149_code 14 = .ok (.putfield 9, 3) := by decide +kernel
theorem d3_17 : decode jdk_42_method_149_code 17 = .ok (.aload_n 0, 1) := by decide +kernel
theorem d3_18 : decode jdk_42_method_149_code 18 = .ok (.ldc 7, 2) := by decide +kernel
theorem d3_20 : decode jdk_42_method_149_code 20 = .ok (.getfield 15, 3) := by decide +kernel
theorem d3_23 : decode jdk_42_method_149_code 23 = .ok (.putfield 15, 3) := by decide +kernel
theorem d3_26 : decode jdk_42_method_149_code 26 = .ok (.return_, 1) := by decide +kernel
def own_r_own_siz : Room := { frames := 1, cells := 2, slots := 4, locals := 12 }
theorem own_siz (l : Launch) (Z : State) (a0 : Array Value) (hw : own_W a0 Z) (a1 ca : Addr) (u2 : Value) (h0 : Heap) (n0 : Nat) (hO : Old Z n0 h0) (g1 : n0 ≤ a1) (E1 : Exa Z h0 a1 "java/lang/String") (F1 : Fld Z h0 a1 "java/lang/String" "value" "[B" .null) (F2 : Fld Z h0 a1 "java/lang/String" "coder" "B" u2) :
    own_MetH l Z own_EL (⟨"java/lang/String", "<init>", "([CIILjava/lang/Void;)V"⟩ : MethodName) jdk_42_method_149_code 6 none own_r_own_siz #[(.ref a1), (.ref ca), (.int 0), (.int 0), .null] h0 (own_Qz Z a1 h0 n0) := by
  refine own_bodyH (by decide +kernel) ?_
  intro p e s m below meth c T0 X0 hx hZ hby hml hown hnm hret hlk e0 hS hk C0
  have hwS : ∀ a ∈ Bundle.stringAtoms, a.before a0 Z = true := fun d hd => hw d ((by decide +kernel : ∀ d ∈ Bundle.stringAtoms, d ∈ tables_1) d hd)
  have N0 := Fr.nil n0
  refine own_cast (own_frame (L := [rv a1, rv ca, iv 0, iv 0, .val .null]) (ls := #[rv a1, rv ca, iv 0, iv 0, .val .null, .unset]) rfl rfl) ?_
  have S0_a1 : Safe Z own_EL s.vm h0 a1 := own_safe0 hZ.alike E1 F1
  refine og_aloadN X0 hx (hb hby d3_0) rfl rfl ?_
  obtain ⟨T1, X1, e1, st1⟩ := initO X0 hx hZ hown (own_hw hw 15 rfl) (own_hw hw 16 rfl) (own_hw hw 17 rfl) e0 (g := (mkF m 1 #[rv a1, rv ca, iv 0, iv 0, .val .null, .unset] [(.ref a1)])) rfl (by rw [hml]; rfl) rfl (hb hby d3_1) (by decide) (W := 0) (by show 2 * 0 + _ ≤ _; exact Nat.le_of_eq rfl) (by decide)
  refine own_go st1 ?_
  show own_Go p e below _ T1 (mkF m 4 #[rv a1, rv ca, iv 0, iv 0, .val .null, .unset] [])
  refine og_iloadN X1 hx (hb hby d3_4) rfl ?_
  refine og_ifN X1 hx (hb hby d3_5) (teq rfl).2 ?_
  refine og_aloadN X1 hx (hb hby d3_8) rfl rfl ?_
  refine own_ldcH X1 hx hZ hown (own_hw hw 76 rfl) hwS e1 hS hk (own_EW hw) (List.mem_of_getElem? (i := 0) rfl) C0.1 (z := 0) ⟨by decide, rfl⟩ (by decide) rfl (hb hby d3_9) 0 (by decide) (by decide) (by decide) (by decide) ?_
  intro s2 T2 h2 k2 d2 kb2 X2 e2 E2 hS2 hk2 hZ2 hown2 Es2 Fc2 Fv2 As2 C2q Lt2 ns2
  have E_a1_2 := E1.ext E2
  have F_a1_value_2 := F1.ext E2
  have F_a1_coder_2 := F2.ext E2
  have S_a1_2 := CHr.safe C2q E1.lt S0_a1
  have C2 := C0.trans C2q
  have O2 := hO.ext E2
  have K2 := (Keep.refl h0 [a1]).ext E2
  have E_s2_2 : Exa Z h2 s2 "java/lang/String" := Es2
  have F_s2_coder_2 : Fld Z h2 s2 "java/lang/String" "coder" "B" (.int (0 : Int32)) := Fc2
  have F_s2_value_2 : Fld Z h2 s2 "java/lang/String" "value" "[B" (.ref d2) := Fv2
  have A_d2_2 : Arv Z h2 d2 kb2 .byte 0 [] (.int 0) := As2
  have ne_a1_s2 := (ns2 _ S_a1_2).1
  have ne_a1_d2 := (ns2 _ S_a1_2).2
  show own_Go p e below _ T2 (mkF m 11 #[rv a1, rv ca, iv 0, iv 0, .val .null, .unset] [(.ref s2), (.ref a1)])
  refine og_getF X2 hx hZ2 hown2 (own_hw hw 32 rfl) Via.refl e2 F_s2_value_2 (hb hby d3_11) ?_
  intro T3 X3 e3
  show own_Go p e below _ T3 (mkF m 14 #[rv a1, rv ca, iv 0, iv 0, .val .null, .unset] [(.ref d2), (.ref a1)])
  obtain ⟨T4, h4, X4, e4, W4, st4⟩ := putF X3 hx hZ2 hown2 (host := "") (Or.inl (own_hw hw 32 rfl)) Via.refl e3 F_a1_value_2 E_a1_2 (Or.inr ⟨(own_hw hw 33 rfl), rfl, hnm⟩) (own_hw hw 5 rfl) (ty := (.array .byte)) (by decide) rfl rfl (g := (mkF m 14 #[rv a1, rv ca, iv 0, iv 0, .val .null, .unset] [(.ref d2), (.ref a1)])) rfl rfl (hb hby d3_14)
  refine own_go st4 ?_
  have hk4 := Nat.le_trans hk2 (Keep.of_wr W4).1
  have sf4 := S_a1_2
  have C4 := C2.trans (CHr.wr W4 sf4 C2.1)
  have E_a1_4 := E_a1_2.wr W4
  have F_a1_coder_4 := F_a1_coder_2.other W4 (Or.inr (slot_ne (Or.inr (own_hw hw 31 rfl)) (Or.inr (own_hw hw 33 rfl)) (by decide) (t := .byte) (t' := (.array .byte)) (by decide) (by decide)))
  have S_a1_4 := Safe.wr W4 sf4 C2.1 S_a1_2
  have E_s2_4 := E_s2_2.wr W4
  have F_s2_coder_4 := F_s2_coder_2.other W4 (Or.inl (Ne.symm ne_a1_s2))
  have F_s2_value_4 := F_s2_value_2.other W4 (Or.inl (Ne.symm ne_a1_s2))
  have A_d2_4 := A_d2_2.other W4 (Ne.symm ne_a1_d2)
  have O4 := O2.wr W4 g1
  have K4 := K2.wr W4 (Or.inl (by simp))
  have N4 := Fr.snoc X4 N0 g1
  have F_a1_value_4 : Fld Z h4 a1 "java/lang/String" "value" "[B" (.ref d2) := F_a1_value_2.same W4
  show own_Go p e below _ T4 (mkF m 17 #[rv a1, rv ca, iv 0, iv 0, .val .null, .unset] [])
  refine og_aloadN X4 hx (hb hby d3_17) rfl rfl ?_
  refine own_go (ldcAgain X4 hx hZ2 hown2 (own_hw hw 76 rfl) Lt2 (g := (mkF m 18 #[rv a1, rv ca, iv 0, iv 0, .val .null, .unset] [(.ref a1)])) rfl (hb hby d3_18)) ?_
  show own_Go p e below _ T4 (mkF m 20 #[rv a1, rv ca, iv 0, iv 0, .val .null, .unset] [(.ref s2), (.ref a1)])
  refine og_getF X4 hx hZ2 hown2 (own_hw hw 30 rfl) Via.refl e4 F_s2_coder_4 (hb hby d3_20) ?_
  intro T6 X6 e6
  show own_Go p e below _ T6 (mkF m 23 #[rv a1, rv ca, iv 0, iv 0, .val .null, .unset] [(.int (0 : Int32)), (.ref a1)])
  obtain ⟨T7, h7, X7, e7, W7, st7⟩ := putFN X6 hx hZ2 hown2 (own_hw hw 30 rfl) Via.refl e6 F_a1_coder_4 E_a1_4 (Or.inr ⟨(own_hw hw 31 rfl), rfl, hnm⟩) (own_hw hw 5 rfl) (ty := .byte) (v' := (.int (0 : Int32))) (by decide) rfl (by decide) (g := (mkF m 23 #[rv a1, rv ca, iv 0, iv 0, .val .null, .unset] [(.int (0 : Int32)), (.ref a1)])) rfl rfl (hb hby d3_23)
  refine own_go st7 ?_
  have hk7 := Nat.le_trans hk4 (Keep.of_wr W7).1
  have sf7 := S_a1_4
  have C7 := C4.trans (CHr.wr W7 sf7 C4.1)
  have E_a1_7 := E_a1_4.wr W7
  have S_a1_7 := Safe.wr W7 sf7 C4.1 S_a1_4
  have E_s2_7 := E_s2_4.wr W7
  have F_s2_coder_7 := F_s2_coder_4.other W7 (Or.inl (Ne.symm ne_a1_s2))
  have F_s2_value_7 := F_s2_value_4.other W7 (Or.inl (Ne.symm ne_a1_s2))
  have A_d2_7 := A_d2_4.other W7 (Ne.symm ne_a1_d2)
  have F_a1_value_7 := F_a1_value_4.other W7 (Or.inr (slot_ne (Or.inr (own_hw hw 33 rfl)) (Or.inr (own_hw hw 31 rfl)) (by decide) (t := (.array .byte)) (t' := .byte) (by decide) (by decide)))
  have O7 := O4.wr W7 g1
  have K7 := K4.wr W7 (Or.inl (by simp))
  have N7 := Fr.snoc X7 N4 g1
  have F_a1_coder_7 : Fld Z h7 a1 "java/lang/String" "coder" "B" (.int (0 : Int32)) := F_a1_coder_4.same W7
  show own_Go p e below _ T7 (mkF m 26 #[rv a1, rv ca, iv 0, iv 0, .val .null, .unset] [])
  exact own_retVH X7 hx hret hlk (hb hby d3_26) hZ2 (own_EW hw) C7 e7 hS2 hk7 (by decide) (by decide) (by rw [e7]; exact ⟨d2, _, rfl, N7, K7, F_a1_value_7, F_a1_coder_7, A_d2_7⟩)
def own_r_own_sz : Room := { frames := 2, cells := 2, slots := 4, locals := 29 }
theorem own_sz (l : Launch) (Z : State) (a0 : Array Value) (hw : own_W a0 Z) (a1 ca : Addr) (kc : ClassId) (u2 : Value) (h0 : Heap) (n0 : Nat) (hO : Old Z n0 h0) (g1 : n0 ≤ a1) (E1 : Exa Z h0 a1 "java/lang/String") (F1 : Fld Z h0 a1 "java/lang/String" "value" "[B" .null) (F2 : Fld Z h0 a1 "java/lang/String" "coder" "B" u2) (nec : a1 ≠ ca) (Ac : Arv Z h0 ca kc .char (0 : Int32) [] (.int (0 : Int32))) :
    own_MetH l Z own_EL (⟨"java/lang/String", "<init>", "([C)V"⟩ : MethodName) jdk_42_method_3_code 2 none own_r_own_sz #[(.ref a1), (.ref ca)] h0 (own_Qz Z a1 h0 n0) := by
  refine own_bodyH (by decide +kernel) ?_
  intro p e s m below meth c T0 X0 hx hZ hby hml hown hnm hret hlk e0 hS hk C0
  have hwS : ∀ a ∈ Bundle.stringAtoms, a.before a0 Z = true := fun d hd => hw d ((by decide +kernel : ∀ d ∈ Bundle.stringAtoms, d ∈ tables_1) d hd)
  have N0 := Fr.nil n0
  refine own_cast (own_frame (L := [rv a1, rv ca]) (ls := #[rv a1, rv ca]) rfl rfl) ?_
  have S0_a1 : Safe Z own_EL s.vm h0 a1 := own_safe0 hZ.alike E1 F1
  refine og_aloadN X0 hx (hb hby d2_0) rfl rfl ?_
  refine og_aloadN X0 hx (hb hby d2_1) rfl rfl ?_
  refine og_iconst X0 hx (hb hby d2_2) ?_
  refine og_aloadN X0 hx (hb hby d2_3) rfl rfl ?_
  refine own_len X0 hx hZ e0 Ac (hb hby d2_4) ?_
  show own_Go p e below _ T0 (mkF m 5 #[rv a1, rv ca] [(.int 0), (.int 0), (.ref ca), (.ref a1)])
  refine og_null X0 hx (hb hby d2_5) ?_
  refine own_callNH X0 hx hZ hown (own_hw hw 11 rfl) (own_hw hw 12 rfl) (own_hw hw 14 rfl) (own_hw hw 6 rfl) (by decide) rfl (b := a1) (argsL := [(.ref ca), (.int 0), (.int 0), .null]) (rest := []) (own_siz l Z a0 hw a1 ca _ h0 n0 hO g1 E1 F1 F2) (own_EW hw) C0.1 hS hk e0 (by rw [hml]; rfl) (lenOf own_pd61703 rfl) rfl (hb hby d2_6) (W := 0) (Nat.le_of_eq rfl) (by decide) ?_
  intro v1 T1 L1 X1 hS1 hZ1 hown1 C1q q1
  obtain ⟨d1, k1, rfl, N1q, K1q, Fv1, Fc1, A1q⟩ := q1
  have N1 := Fr.app N0 N1q
  have C1 := C0.trans C1q
  have E_a1_1 := E1.keep K1q
  have A_ca_1 := Ac.keep K1q (ninS (Ne.symm nec) nin0)
  have S_a1_1 := CHr.safe C1q E1.lt S0_a1
  have O1 := hO.keep K1q (allS g1 all0)
  have K1 := (Keep.refl h0 [a1]).trans K1q (allS (Or.inl (by simp)) all0)
  show own_Go p e below _ T1 (mkF m 9 #[rv a1, rv ca] [])
  exact own_retVH X1 hx hret hlk (hb hby d2_9) hZ1 (own_EW hw) C1 rfl hS1 (Nat.le_refl _) (by decide) (by decide) (⟨d1, _, rfl, N1, K1, Fv1, Fc1, A1q⟩)
theorem d1_4 : decode method_3_code 4 = .ok (.new 21, 3) := by decide +kernel
theorem d1_7 : decode method_3_code 7 = .ok (.dup, 1) := by decide +kernel
theorem d1_8 : decode method_3_code 8 = .ok (.iconst 0, 1) := by decide +kernel
theorem d1_9 : decode method_3_code 9 = .ok (.newarray .char, 2) := by decide +kernel
theorem d1_11 : decode method_3_code 11 = .ok (.invokespecial 26, 3) := by decide +kernel
theorem d1_14 : decode method_3_code 14 = .ok (.areturn, 1) := by decide +kernel
def own_r_own_mk0 : Room := { frames := 3, cells := 4, slots := 8, locals := 43 }
theorem own_mk0 (l : Launch) (Z : State) (a0 : Array Value) (hw : own_W a0 Z) (c0 c1 c2 : Int32) (h0 : Heap) (n0 : Nat) (hO : Old Z n0 h0) :
    own_MetH l Z own_EL (⟨"com/example/winnow/winnow/io/TextFilesWithoutByteOrderMarkPinLaw", "make", "(ICCC)Ljava/lang/String;"⟩ : MethodName) method_3_code 4 (some (.object "java/lang/String")) own_r_own_mk0 #[(.int 0), (.int c0), (.int c1), (.int c2)] h0 (own_Qm Z 0 0 [] h0 n0) := by
  refine own_bodyH (by decide +kernel) ?_
  intro p e s m below meth c T0 X0 hx hZ hby hml hown hnm hret hlk e0 hS hk C0
  have hwS : ∀ a ∈ Bundle.stringAtoms, a.before a0 Z = true := fun d hd => hw d ((by decide +kernel : ∀ d ∈ Bundle.stringAtoms, d ∈ tables_1) d hd)
  have N0 := Fr.nil n0
  refine own_cast (own_frame (L := [iv 0, iv c0, iv c1, iv c2]) (ls := #[iv 0, iv c0, iv c1, iv c2]) rfl rfl) ?_
  refine og_iloadN X0 hx (hb hby d1_0) rfl ?_
  refine og_ifN X0 hx (hb hby d1_1) (teq rfl).2 ?_
  refine own_newO X0 hx hZ hown (own_hw hw 4 rfl) (own_hw hw 5 rfl) (own_hw hw 6 rfl) e0 (hb hby d1_4) (by decide) (by decide) ?_
  intro T1 h1 b1 g1 X1 e1 E1 A1 D1
  have ge_b1 : n0 ≤ b1 := Nat.le_trans (own_oldle hO) (Nat.le_of_eq g1.symm)
  have sz_b1 : h0.size ≤ b1 := Nat.le_trans (Keep.refl h0 []).1 (Nat.le_of_eq g1.symm)
  have S_b1 : Safe Z own_EL s.vm h0 b1 := Safe.new (Nat.le_of_eq g1.symm)
  have hk1 := Nat.le_trans hk E1.1
  have S_b1_1 := Safe.ext E1 C0.1 S_b1
  have C1 := C0.trans (CHr.ext E1 C0.1)
  have O1 := hO.ext E1
  have K1 := (Keep.refl h0 []).ext E1
  have F_b1_coder_1 : Fld Z h1 b1 "java/lang/String" "coder" "B" (.int 0) := D1 (Or.inr (own_hw hw 31 rfl)) (ty := .byte) (by decide)
  have F_b1_value_1 : Fld Z h1 b1 "java/lang/String" "value" "[B" .null := D1 (Or.inr (own_hw hw 33 rfl)) (ty := (.array .byte)) (by decide)
  show own_Go p e below _ T1 (mkF m 7 #[iv 0, iv c0, iv c1, iv c2] [(.ref b1)])
  refine og_dup X1 hx (hb hby d1_7) rfl ?_
  refine og_iconst X1 hx (hb hby d1_8) ?_
  refine own_newP X1 hx hZ (own_hw hw 7 rfl) e1 (hb hby d1_9) (by decide) 0 (by decide) (by decide) (by decide) (by decide) ?_
  intro T2 h2 k2 b2 g2 X2 e2 E2 A2
  have ne_b1_b2 : b1 ≠ b2 := Nat.ne_of_lt (Nat.lt_of_lt_of_eq A1.lt g2.symm)
  have ge_b2 : n0 ≤ b2 := Nat.le_trans (own_oldle O1) (Nat.le_of_eq g2.symm)
  have sz_b2 : h0.size ≤ b2 := Nat.le_trans K1.1 (Nat.le_of_eq g2.symm)
  have hk2 := Nat.le_trans hk1 E2.1
  have S_b1_2 := Safe.ext E2 C1.1 S_b1_1
  have E_b1_2 := A1.ext E2
  have F_b1_coder_2 := F_b1_coder_1.ext E2
  have F_b1_value_2 := F_b1_value_1.ext E2
  have C2 := C1.trans (CHr.ext E2 C1.1)
  have O2 := O1.ext E2
  have K2 := K1.ext E2
  have A_b2_2 : Arv Z h2 b2 k2 .char 0 [] (.int (0 : Int32)) := A2
  show own_Go p e below _ T2 (mkF m 11 #[iv 0, iv c0, iv c1, iv c2] [(.ref b2), (.ref b1), (.ref b1)])
  refine own_callNH X2 hx hZ hown (own_hw hw 8 rfl) (own_hw hw 9 rfl) (own_hw hw 10 rfl) (own_hw hw 6 rfl) (by decide) rfl (b := b1) (argsL := [(.ref b2)]) (rest := [(.ref b1)]) (own_sz l Z a0 hw b1 b2 _ _ h2 n0 O2 ge_b1 E_b1_2 F_b1_value_2 F_b1_coder_2 ne_b1_b2 A_b2_2) (own_EW hw) C2.1 hS hk2 e2 (by rw [hml]; rfl) (lenOf own_pd46664 rfl) rfl (hb hby d1_11) (W := 1) (Nat.le_of_eq rfl) (by decide) ?_
  intro v3 T3 L3 X3 hS3 hZ3 hown3 C3q q3
  obtain ⟨d3, k3, rfl, N3q, K3q, Fv3, Fc3, A3q⟩ := q3
  have N3 := Fr.app N0 N3q
  have C3 := C2.trans C3q
  have S_b1_3 := CHr.safe C3q E_b1_2.lt S_b1_2
  have E_b1_3 := E_b1_2.keep K3q
  have A_b2_3 := A_b2_2.keep K3q (ninS (Ne.symm ne_b1_b2) nin0)
  have O3 := O2.keep K3q (allS ge_b1 all0)
  have K3 := K2.trans K3q (allS (Or.inr sz_b1) all0)
  show own_Go p e below _ T3 (mkF m 14 #[iv 0, iv c0, iv c1, iv c2] [(.ref b1)])
  exact own_retAH X3 hx hret hlk (hb hby d1_14) rfl rfl hZ3 (own_EW hw) C3 rfl hS3 (Nat.le_refl _) (by decide) (by decide) (⟨b1, d3, _, rfl, N3, K3, sz_b1, ge_b1, E_b1_3, Fv3, Fc3, A3q⟩)
theorem d9_0 : decode jdk_42_method_55_code 0 = .ok (.aload_n 0, 1) := by decide +kernel
theorem d9_1 : decode jdk_42_method_55_code 1 = .ok (.getfield 9, 3) := by decide +kernel
theorem d9_4 : decode jdk_42_method_55_code 4 = .ok (.arraylength, 1) := by decide +kernel
theorem d9_5 : decode jdk_42_method_55_code 5 = .ok (.ifCond .ne 7, 3) := by decide +kernel
theorem d9_12 : decode jdk_42_method_55_code 12 = .ok (.iconst 0, 1) := by decide +kernel
theorem d9_13 : decode jdk_42_method_55_code 13 = .ok (.ireturn, 1) := by decide +kernel
def own_r_own_iem : Room := { frames := 0, cells := 0, slots := 0, locals := 0 }
theorem own_iem (l : Launch) (Z : State) (a0 : Array Value) (hw : own_W a0 Z) (t b : Addr) (kb : ClassId) (NN : Int32) (vs : List Value) (dv : Value) (h0 : Heap) (n0 : Nat) (hn : ¬ NN = 0) (Fv : own_V Z h0 t b) (Ab : Arv Z h0 b kb .byte NN vs dv) :
    own_Met l Z (⟨"java/lang/String", "isEmpty", "()Z"⟩ : MethodName) jdk_42_method_55_code 1 (some .boolean) own_r_own_iem #[(.ref t)] h0 (own_Qv (some (.int 0)) h0 n0) := by
  refine own_body (by decide +kernel) ?_
  intro p e s m below meth c T0 X0 hx hZ hby hml hown hnm hret hlk e0
  have N0 := Fr.nil n0
  refine own_cast (own_frame (L := [rv t]) (ls := #[rv t]) rfl rfl) ?_
  refine og_aloadN X0 hx (hb hby d9_0) rfl rfl ?_
  refine og_getF X0 hx hZ hown (own_hw hw 32 rfl) Via.refl e0 Fv (hb hby d9_1) ?_
  intro T1 X1 e1
  show own_Go p e below _ T1 (mkF m 4 #[rv t] [(.ref b)])
  refine own_len X1 hx hZ e1 Ab (hb hby d9_4) ?_
  show own_Go p e below _ T1 (mkF m 5 #[rv t] [(.int NN)])
  refine og_ifY X1 hx 12 (hb hby d9_5) (feq hn).2 (by decide) (by decide) ?_
  refine og_iconst X1 hx (hb hby d9_12) ?_
  exact own_retI X1 hx hret hlk (hb hby d9_13) rfl (by simp) (by decide) (by decide) (⟨rfl, N0, e1⟩)
theorem d9_8 : decode jdk_42_method_55_code 8 = .ok (.iconst 1, 1) := by decide +kernel
theorem d9_9 : decode jdk_42_method_55_code 9 = .ok (.goto 4, 3) := by decide +kernel
def own_r_own_iez : Room := { frames := 0, cells := 0, slots := 0, locals := 0 }
theorem own_iez (l : Launch) (Z : State) (a0 : Array Value) (hw : own_W a0 Z) (t b : Addr) (kb : ClassId) (dv : Value) (h0 : Heap) (n0 : Nat) (Fv : own_V Z h0 t b) (Ab : Arv Z h0 b kb .byte 0 [] dv) :
    own_Met l Z (⟨"java/lang/String", "isEmpty", "()Z"⟩ : MethodName) jdk_42_method_55_code 1 (some .boolean) own_r_own_iez #[(.ref t)] h0 (own_Qv (some (.int 1)) h0 n0) := by
  refine own_body (by decide +kernel) ?_
  intro p e s m below meth c T0 X0 hx hZ hby hml hown hnm hret hlk e0
  have N0 := Fr.nil n0
  refine own_cast (own_frame (L := [rv t]) (ls := #[rv t]) rfl rfl) ?_
  refine og_aloadN X0 hx (hb hby d9_0) rfl rfl ?_
  refine og_getF X0 hx hZ hown (own_hw hw 32 rfl) Via.refl e0 Fv (hb hby d9_1) ?_
  intro T1 X1 e1
  show own_Go p e below _ T1 (mkF m 4 #[rv t] [(.ref b)])
  refine own_len X1 hx hZ e1 Ab (hb hby d9_4) ?_
  show own_Go p e below _ T1 (mkF m 5 #[rv t] [(.int 0)])
  refine og_ifN X1 hx (hb hby d9_5) (teq rfl).2 ?_
  refine og_iconst X1 hx (hb hby d9_8) ?_
  refine og_goto X1 hx 13 (hb hby d9_9) (by decide) (by decide) ?_
  exact own_retI X1 hx hret hlk (hb hby d9_13) rfl (by simp) (by decide) (by decide) (⟨rfl, N0, e1⟩)
theorem d27_0 : decode jdk_42_method_152_code 0 = .ok (.getstatic 38, 3) := by decide +kernel
theorem d27_3 : decode jdk_42_method_152_code 3 = .ok (.ifCond .eq 10, 3) := by decide +kernel
theorem d27_6 : decode jdk_42_method_152_code 6 = .ok (.aload_n 0, 1) := by decide +kernel
theorem d27_7 : decode jdk_42_method_152_code 7 = .ok (.getfield 15, 3) := by decide +kernel
theorem d27_10 : decode jdk_42_method_152_code 10 = .ok (.goto 4, 3) := by decide +kernel
theorem d27_14 : decode jdk_42_method_152_code 14 = .ok (.ireturn, 1) := by decide +kernel
def own_r_own_cod1 : Room := { frames := 0, cells := 0, slots := 0, locals := 0 }
theorem own_cod1 (l : Launch) (Z : State) (a0 : Array Value) (hw : own_W a0 Z) (z : Int32) (sf : Value) (t : Addr) (h0 : Heap) (n0 : Nat) (hO : Old Z n0 h0) (hG : own_Gs Z z sf) (Fc : own_Cd Z h0 t 1) :
    own_Met l Z (⟨"java/lang/String", "coder", "()B"⟩ : MethodName) jdk_42_method_152_code 1 (some .byte) own_r_own_cod1 #[(.ref t)] h0 (own_Qv (some (.int 1)) h0 n0) := by
  refine own_body (by decide +kernel) ?_
  intro p e s m below meth c T0 X0 hx hZ hby hml hown hnm hret hlk e0
  have N0 := Fr.nil n0
  refine own_cast (own_frame (L := [rv t]) (ls := #[rv t]) rfl rfl) ?_
  obtain ⟨SC, hz, SF, rf⟩ := id hG
  refine og_getS X0 hx hZ hown (own_hw hw 18 rfl) Via.refl e0 (SC.ext hO.2) (hb hby d27_0) ?_
  intro T1 X1 e1
  show own_Go p e below _ T1 (mkF m 3 #[rv t] [(.int z)])
  refine og_ifN X1 hx (hb hby d27_3) (feq hz).1 ?_
  refine og_aloadN X1 hx (hb hby d27_6) rfl rfl ?_
  refine og_getF X1 hx hZ hown (own_hw hw 30 rfl) Via.refl e1 Fc (hb hby d27_7) ?_
  intro T2 X2 e2
  refine og_goto X2 hx 14 (hb hby d27_10) (by decide) (by decide) ?_
  exact own_retI X2 hx hret hlk (hb hby d27_14) rfl (by simp) (by decide) (by decide) (⟨rfl, N0, e2⟩)
theorem d11_0 : decode jdk_42_method_154_code 0 = .ok (.getstatic 38, 3) := by decide +kernel
theorem d11_3 : decode jdk_42_method_154_code 3 = .ok (.ifCond .eq 14, 3) := by decide +kernel
theorem d11_6 : decode jdk_42_method_154_code 6 = .ok (.aload_n 0, 1) := by decide +kernel
theorem d11_7 : decode jdk_42_method_154_code 7 = .ok (.getfield 15, 3) := by decide +kernel
theorem d11_10 : decode jdk_42_method_154_code 10 = .ok (.ifCond .ne 7, 3) := by decide +kernel
theorem d11_17 : decode jdk_42_method_154_code 17 = .ok (.iconst 0, 1) := by decide +kernel
theorem d11_18 : decode jdk_42_method_154_code 18 = .ok (.ireturn, 1) := by decide +kernel
def own_r_own_isl0 : Room := { frames := 0, cells := 0, slots := 0, locals := 0 }
theorem own_isl0 (l : Launch) (Z : State) (a0 : Array Value) (hw : own_W a0 Z) (z : Int32) (sf : Value) (t : Addr) (h0 : Heap) (n0 : Nat) (hO : Old Z n0 h0) (hG : own_Gs Z z sf) (Fc : own_Cd Z h0 t 1) :
    own_Met l Z (⟨"java/lang/String", "isLatin1", "()Z"⟩ : MethodName) jdk_42_method_154_code 1 (some .boolean) own_r_own_isl0 #[(.ref t)] h0 (own_Qv (some (.int 0)) h0 n0) := by
  refine own_body (by decide +kernel) ?_
  intro p e s m below meth c T0 X0 hx hZ hby hml hown hnm hret hlk e0
  have N0 := Fr.nil n0
  refine own_cast (own_frame (L := [rv t]) (ls := #[rv t]) rfl rfl) ?_
  obtain ⟨SC, hz, SF, rf⟩ := id hG
  refine og_getS X0 hx hZ hown (own_hw hw 18 rfl) Via.refl e0 (SC.ext hO.2) (hb hby d11_0) ?_
  intro T1 X1 e1
  show own_Go p e below _ T1 (mkF m 3 #[rv t] [(.int z)])
  refine og_ifN X1 hx (hb hby d11_3) (feq hz).1 ?_
  refine og_aloadN X1 hx (hb hby d11_6) rfl rfl ?_
  refine og_getF X1 hx hZ hown (own_hw hw 30 rfl) Via.refl e1 Fc (hb hby d11_7) ?_
  intro T2 X2 e2
  show own_Go p e below _ T2 (mkF m 10 #[rv t] [(.int 1)])
  refine og_ifY X2 hx 17 (hb hby d11_10) (feq (by decide)).2 (by decide) (by decide) ?_
  refine og_iconst X2 hx (hb hby d11_17) ?_
  exact own_retI X2 hx hret hlk (hb hby d11_18) rfl (by simp) (by decide) (by decide) (⟨rfl, N0, e2⟩)
theorem d24_0 : decode jdk_52_method_6_code 0 = .ok (.aload_n 0, 1) := by decide +kernel
theorem d24_1 : decode jdk_52_method_6_code 1 = .ok (.arraylength, 1) := by decide +kernel
theorem d24_2 : decode jdk_52_method_6_code 2 = .ok (.iconst 1, 1) := by decide +kernel
theorem d24_3 : decode jdk_52_method_6_code 3 = .ok (.ishr, 1) := by decide +kernel
theorem d24_4 : decode jdk_52_method_6_code 4 = .ok (.ireturn, 1) := by decide +kernel
def own_r_own_ul1 : Room := { frames := 0, cells := 0, slots := 0, locals := 0 }
theorem own_ul1 (l : Launch) (Z : State) (a0 : Array Value) (hw : own_W a0 Z) (b : Addr) (kb : ClassId) (dv : Value) (c0 : Int32) (h0 : Heap) (n0 : Nat) (Ab : Arv Z h0 b kb .byte 2 [(.int (own_lo c0)), (.int (own_hi c0))] dv) :
    own_Met l Z (⟨"java/lang/StringUTF16", "length", "([B)I"⟩ : MethodName) jdk_52_method_6_code 1 (some .int) own_r_own_ul1 #[(.ref b)] h0 (own_Qv (some (.int 1)) h0 n0) := by
  refine own_body (by decide +kernel) ?_
  intro p e s m below meth c T0 X0 hx hZ hby hml hown hnm hret hlk e0
  have N0 := Fr.nil n0
  refine own_cast (own_frame (L := [rv b]) (ls := #[rv b]) rfl rfl) ?_
  refine og_aloadN X0 hx (hb hby d24_0) rfl rfl ?_
  refine own_len X0 hx hZ e0 Ab (hb hby d24_1) ?_
  show own_Go p e below _ T0 (mkF m 2 #[rv b] [(.int 2)])
  refine og_iconst X0 hx (hb hby d24_2) ?_
  refine own_go (fun t k => XS.ishr X0.here hx rfl (hb hby d24_3) rfl k) ?_
  show own_Go p e below _ T0 (mkF m 4 #[rv b] [(.int 1)])
  exact own_retI X0 hx hret hlk (hb hby d24_4) rfl (by simp) (by decide) (by decide) (⟨rfl, N0, e0⟩)
theorem d26_0 : decode jdk_42_method_54_code 0 = .ok (.aload_n 0, 1) := by decide +kernel
theorem d26_1 : decode jdk_42_method_54_code 1 = .ok (.getfield 9, 3) := by decide +kernel
theorem d26_4 : decode jdk_42_method_54_code 4 = .ok (.arraylength, 1) := by decide +kernel
theorem d26_5 : decode jdk_42_method_54_code 5 = .ok (.aload_n 0, 1) := by decide +kernel
theorem d26_6 : decode jdk_42_method_54_code 6 = .ok (.invokevirtual 335, 3) := by decide +kernel
theorem d26_9 : decode jdk_42_method_54_code 9 = .ok (.ishr, 1) := by decide +kernel
theorem d26_10 : decode jdk_42_method_54_code 10 = .ok (.ireturn, 1) := by decide +kernel
theorem own_pd59997 : parseMethodDescriptor "()B" = some ⟨[], some .byte⟩ := by decide +kernel
def own_r_own_slU1 : Room := { frames := 1, cells := 0, slots := 0, locals := 13 }
theorem own_slU1 (l : Launch) (Z : State) (a0 : Array Value) (hw : own_W a0 Z) (z : Int32) (sf : Value) (t b : Addr) (kb : ClassId) (dv : Value) (c0 : Int32) (h0 : Heap) (n0 : Nat) (hO : Old Z n0 h0) (hG : own_Gs Z z sf) (Et : own_E Z h0 t) (Fv : own_V Z h0 t b) (Fc : own_Cd Z h0 t 1) (Ab : Arv Z h0 b kb .byte 2 [(.int (own_lo c0)), (.int (own_hi c0))] dv) :
    own_Met l Z (⟨"java/lang/String", "length", "()I"⟩ : MethodName) jdk_42_method_54_code 1 (some .int) own_r_own_slU1 #[(.ref t)] h0 (own_Qv (some (.int 1)) h0 n0) := by
  refine own_body (by decide +kernel) ?_
  intro p e s m below meth c T0 X0 hx hZ hby hml hown hnm hret hlk e0
  have N0 := Fr.nil n0
  refine own_cast (own_frame (L := [rv t]) (ls := #[rv t]) rfl rfl) ?_
  obtain ⟨SC, hz, SF, rf⟩ := id hG
  refine og_aloadN X0 hx (hb hby d26_0) rfl rfl ?_
  refine og_getF X0 hx hZ hown (own_hw hw 32 rfl) Via.refl e0 Fv (hb hby d26_1) ?_
  intro T1 X1 e1
  show own_Go p e below _ T1 (mkF m 4 #[rv t] [(.ref b)])
  refine own_len X1 hx hZ e1 Ab (hb hby d26_4) ?_
  show own_Go p e below _ T1 (mkF m 5 #[rv t] [(.int 2)])
  refine og_aloadN X1 hx (hb hby d26_5) rfl rfl ?_
  refine own_callV X1 hx hZ hown (own_hw hw 118 rfl) (own_hw hw 119 rfl) (notFace_of_selects (args := #[]) (mvT hZ (own_hw hw 121 rfl))) (own_hw hw 121 rfl) (own_hw hw 120 rfl) (own_hw hw 122 rfl) (own_hw hw 6 rfl) (by decide) (b := t) (argsL := []) (rest := [(.int 2)]) (own_cod1 l Z a0 hw z sf t h0 n0 hO hG Fc) e1 Et (by rw [hml]; rfl) (lenOf own_pd59997 rfl) rfl (hb hby d26_6) (W := 1) (Nat.le_of_eq rfl) (by decide) ?_
  intro v2 T2 L2 X2 q2
  obtain ⟨rfl, N2q, e2⟩ := q2
  have N2 := Fr.app N0 N2q
  show own_Go p e below _ T2 (mkF m 9 #[rv t] [(.int 1), (.int 2)])
  refine own_go (fun t k => XS.ishr X2.here hx rfl (hb hby d26_9) rfl k) ?_
  show own_Go p e below _ T2 (mkF m 10 #[rv t] [(.int 1)])
  exact own_retI X2 hx hret hlk (hb hby d26_10) rfl (by simp) (by decide) (by decide) (⟨rfl, N2, e2⟩)
def own_r_own_ul2 : Room := { frames := 0, cells := 0, slots := 0, locals := 0 }
theorem own_ul2 (l : Launch) (Z : State) (a0 : Array Value) (hw : own_W a0 Z) (b : Addr) (kb : ClassId) (dv : Value) (c0 c1 : Int32) (h0 : Heap) (n0 : Nat) (Ab : Arv Z h0 b kb .byte 4 [(.int (own_lo c0)), (.int (own_hi c0)), (.int (own_lo c1)), (.int (own_hi c1))] dv) :
    own_Met l Z (⟨"java/lang/StringUTF16", "length", "([B)I"⟩ : MethodName) jdk_52_method_6_code 1 (some .int) own_r_own_ul2 #[(.ref b)] h0 (own_Qv (some (.int 2)) h0 n0) := by
  refine own_body (by decide +kernel) ?_
  intro p e s m below meth c T0 X0 hx hZ hby hml hown hnm hret hlk e0
  have N0 := Fr.nil n0
  refine own_cast (own_frame (L := [rv b]) (ls := #[rv b]) rfl rfl) ?_
  refine og_aloadN X0 hx (hb hby d24_0) rfl rfl ?_
  refine own_len X0 hx hZ e0 Ab (hb hby d24_1) ?_
  show own_Go p e below _ T0 (mkF m 2 #[rv b] [(.int 4)])
  refine og_iconst X0 hx (hb hby d24_2) ?_
  refine own_go (fun t k => XS.ishr X0.here hx rfl (hb hby d24_3) rfl k) ?_
  show own_Go p e below _ T0 (mkF m 4 #[rv b] [(.int 2)])
  exact own_retI X0 hx hret hlk (hb hby d24_4) rfl (by simp) (by decide) (by decide) (⟨rfl, N0, e0⟩)
def own_r_own_slU2 : Room := { frames := 1, cells := 0, slots := 0, locals := 13 }
theorem own_slU2 (l : Launch) (Z : State) (a0 : Array Value) (hw : own_W a0 Z) (z : Int32) (sf : Value) (t b : Addr) (kb : ClassId) (dv : Value) (c0 c1 : Int32) (h0 : Heap) (n0 : Nat) (hO : Old Z n0 h0) (hG : own_Gs Z z sf) (Et : own_E Z h0 t) (Fv : own_V Z h0 t b) (Fc : own_Cd Z h0 t 1) (Ab : Arv Z h0 b kb .byte 4 [(.int (own_lo c0)), (.int (own_hi c0)), (.int (own_lo c1)), (.int (own_hi c1))] dv) :
    own_Met l Z (⟨"java/lang/String", "length", "()I"⟩ : MethodName) jdk_42_method_54_code 1 (some .int) own_r_own_slU2 #[(.ref t)] h0 (own_Qv (some (.int 2)) h0 n0) := by
  refine own_body (by decide +kernel) ?_
  intro p e s m below meth c T0 X0 hx hZ hby hml hown hnm hret hlk e0
  have N0 := Fr.nil n0
  refine own_cast (own_frame (L := [rv t]) (ls := #[rv t]) rfl rfl) ?_
  obtain ⟨SC, hz, SF, rf⟩ := id hG
  refine og_aloadN X0 hx (hb hby d26_0) rfl rfl ?_
  refine og_getF X0 hx hZ hown (own_hw hw 32 rfl) Via.refl e0 Fv (hb hby d26_1) ?_
  intro T1 X1 e1
  show own_Go p e below _ T1 (mkF m 4 #[rv t] [(.ref b)])
  refine own_len X1 hx hZ e1 Ab (hb hby d26_4) ?_
  show own_Go p e below _ T1 (mkF m 5 #[rv t] [(.int 4)])
  refine og_aloadN X1 hx (hb hby d26_5) rfl rfl ?_
  refine own_callV X1 hx hZ hown (own_hw hw 118 rfl) (own_hw hw 119 rfl) (notFace_of_selects (args := #[]) (mvT hZ (own_hw hw 121 rfl))) (own_hw hw 121 rfl) (own_hw hw 120 rfl) (own_hw hw 122 rfl) (own_hw hw 6 rfl) (by decide) (b := t) (argsL := []) (rest := [(.int 4)]) (own_cod1 l Z a0 hw z sf t h0 n0 hO hG Fc) e1 Et (by rw [hml]; rfl) (lenOf own_pd59997 rfl) rfl (hb hby d26_6) (W := 1) (Nat.le_of_eq rfl) (by decide) ?_
  intro v2 T2 L2 X2 q2
  obtain ⟨rfl, N2q, e2⟩ := q2
  have N2 := Fr.app N0 N2q
  show own_Go p e below _ T2 (mkF m 9 #[rv t] [(.int 1), (.int 4)])
  refine own_go (fun t k => XS.ishr X2.here hx rfl (hb hby d26_9) rfl k) ?_
  show own_Go p e below _ T2 (mkF m 10 #[rv t] [(.int 2)])
  exact own_retI X2 hx hret hlk (hb hby d26_10) rfl (by simp) (by decide) (by decide) (⟨rfl, N2, e2⟩)
def own_r_own_ul3 : Room := { frames := 0, cells := 0, slots := 0, locals := 0 }
theorem own_ul3 (l : Launch) (Z : State) (a0 : Array Value) (hw : own_W a0 Z) (b : Addr) (kb : ClassId) (dv : Value) (c0 c1 c2 : Int32) (h0 : Heap) (n0 : Nat) (Ab : Arv Z h0 b kb .byte 6 [(.int (own_lo c0)), (.int (own_hi c0)), (.int (own_lo c1)), (.int (own_hi c1)), (.int (own_lo c2)), (.int (own_hi c2))] dv) :
    own_Met l Z (⟨"java/lang/StringUTF16", "length", "([B)I"⟩ : MethodName) jdk_52_method_6_code 1 (some .int) own_r_own_ul3 #[(.ref b)] h0 (own_Qv (some (.int 3)) h0 n0) := by
  refine own_body (by decide +kernel) ?_
  intro p e s m below meth c T0 X0 hx hZ hby hml hown hnm hret hlk e0
  have N0 := Fr.nil n0
  refine own_cast (own_frame (L := [rv b]) (ls := #[rv b]) rfl rfl) ?_
  refine og_aloadN X0 hx (hb hby d24_0) rfl rfl ?_
  refine own_len X0 hx hZ e0 Ab (hb hby d24_1) ?_
  show own_Go p e below _ T0 (mkF m 2 #[rv b] [(.int 6)])
  refine og_iconst X0 hx (hb hby d24_2) ?_
  refine own_go (fun t k => XS.ishr X0.here hx rfl (hb hby d24_3) rfl k) ?_
  show own_Go p e below _ T0 (mkF m 4 #[rv b] [(.int 3)])
  exact own_retI X0 hx hret hlk (hb hby d24_4) rfl (by simp) (by decide) (by decide) (⟨rfl, N0, e0⟩)
def own_r_own_slU3 : Room := { frames := 1, cells := 0, slots := 0, locals := 13 }
theorem own_slU3 (l : Launch) (Z : State) (a0 : Array Value) (hw : own_W a0 Z) (z : Int32) (sf : Value) (t b : Addr) (kb : ClassId) (dv : Value) (c0 c1 c2 : Int32) (h0 : Heap) (n0 : Nat) (hO : Old Z n0 h0) (hG : own_Gs Z z sf) (Et : own_E Z h0 t) (Fv : own_V Z h0 t b) (Fc : own_Cd Z h0 t 1) (Ab : Arv Z h0 b kb .byte 6 [(.int (own_lo c0)), (.int (own_hi c0)), (.int (own_lo c1)), (.int (own_hi c1)), (.int (own_lo c2)), (.int (own_hi c2))] dv) :
    own_Met l Z (⟨"java/lang/String", "length", "()I"⟩ : MethodName) jdk_42_method_54_code 1 (some .int) own_r_own_slU3 #[(.ref t)] h0 (own_Qv (some (.int 3)) h0 n0) := by
  refine own_body (by decide +kernel) ?_
  intro p e s m below meth c T0 X0 hx hZ hby hml hown hnm hret hlk e0
  have N0 := Fr.nil n0
  refine own_cast (own_frame (L := [rv t]) (ls := #[rv t]) rfl rfl) ?_
  obtain ⟨SC, hz, SF, rf⟩ := id hG
  refine og_aloadN X0 hx (hb hby d26_0) rfl rfl ?_
  refine og_getF X0 hx hZ hown (own_hw hw 32 rfl) Via.refl e0 Fv (hb hby d26_1) ?_
  intro T1 X1 e1
  show own_Go p e below _ T1 (mkF m 4 #[rv t] [(.ref b)])
  refine own_len X1 hx hZ e1 Ab (hb hby d26_4) ?_
  show own_Go p e below _ T1 (mkF m 5 #[rv t] [(.int 6)])
  refine og_aloadN X1 hx (hb hby d26_5) rfl rfl ?_
  refine own_callV X1 hx hZ hown (own_hw hw 118 rfl) (own_hw hw 119 rfl) (notFace_of_selects (args := #[]) (mvT hZ (own_hw hw 121 rfl))) (own_hw hw 121 rfl) (own_hw hw 120 rfl) (own_hw hw 122 rfl) (own_hw hw 6 rfl) (by decide) (b := t) (argsL := []) (rest := [(.int 6)]) (own_cod1 l Z a0 hw z sf t h0 n0 hO hG Fc) e1 Et (by rw [hml]; rfl) (lenOf own_pd59997 rfl) rfl (hb hby d26_6) (W := 1) (Nat.le_of_eq rfl) (by decide) ?_
  intro v2 T2 L2 X2 q2
  obtain ⟨rfl, N2q, e2⟩ := q2
  have N2 := Fr.app N0 N2q
  show own_Go p e below _ T2 (mkF m 9 #[rv t] [(.int 1), (.int 6)])
  refine own_go (fun t k => XS.ishr X2.here hx rfl (hb hby d26_9) rfl k) ?_
  show own_Go p e below _ T2 (mkF m 10 #[rv t] [(.int 3)])
  exact own_retI X2 hx hret hlk (hb hby d26_10) rfl (by simp) (by decide) (by decide) (⟨rfl, N2, e2⟩)
theorem d14_0 : decode jdk_41_method_11_code 0 = .ok (.iload_n 0, 1) := by decide +kernel
theorem d14_1 : decode jdk_41_method_11_code 1 = .ok (.ifCond .lt 8, 3) := by decide +kernel
theorem d14_4 : decode jdk_41_method_11_code 4 = .ok (.iload_n 0, 1) := by decide +kernel
theorem d14_5 : decode jdk_41_method_11_code 5 = .ok (.iload_n 1, 1) := by decide +kernel
theorem d14_6 : decode jdk_41_method_11_code 6 = .ok (.if_icmp .lt 10, 3) := by decide +kernel
theorem d14_16 : decode jdk_41_method_11_code 16 = .ok (.iload_n 0, 1) := by decide +kernel
theorem d14_17 : decode jdk_41_method_11_code 17 = .ok (.ireturn, 1) := by decide +kernel
def own_r_own_pck : Room := { frames := 0, cells := 0, slots := 0, locals := 0 }
theorem own_pck (l : Launch) (Z : State) (a0 : Array Value) (hw : own_W a0 Z) (i n : Int32) (sf : Value) (h0 : Heap) (n0 : Nat) (rf : sf.isRef = true) (h1 : ¬ i < 0) (h2 : i < n) :
    own_Met l Z (⟨"jdk/internal/util/Preconditions", "checkIndex", "(IILjava/util/function/BiFunction;)I"⟩ : MethodName) jdk_41_method_11_code 3 (some .int) own_r_own_pck #[(.int i), (.int n), sf] h0 (own_Qv (some (.int i)) h0 n0) := by
  refine own_body (by decide +kernel) ?_
  intro p e s m below meth c T0 X0 hx hZ hby hml hown hnm hret hlk e0
  have N0 := Fr.nil n0
  refine own_cast (own_frame (L := [iv i, iv n, .val sf]) (ls := #[iv i, iv n, .val sf]) (congrArg (fun q => iv i :: iv n :: q) (own_laid1 rf)) rfl) ?_
  refine og_iloadN X0 hx (hb hby d14_0) rfl ?_
  refine og_ifN X0 hx (hb hby d14_1) (flt h1).1 ?_
  refine og_iloadN X0 hx (hb hby d14_4) rfl ?_
  refine og_iloadN X0 hx (hb hby d14_5) rfl ?_
  refine og_icY X0 hx 16 (hb hby d14_6) (tlt h2).1 (by decide) (by decide) ?_
  refine og_iloadN X0 hx (hb hby d14_16) rfl ?_
  exact own_retI X0 hx hret hlk (hb hby d14_17) rfl (by simp) (by decide) (by decide) (⟨rfl, N0, e0⟩)
theorem d13_0 : decode jdk_42_method_155_code 0 = .ok (.iload_n 0, 1) := by decide +kernel
theorem d13_1 : decode jdk_42_method_155_code 1 = .ok (.iload_n 1, 1) := by decide +kernel
theorem d13_2 : decode jdk_42_method_155_code 2 = .ok (.getstatic 1053, 3) := by decide +kernel
theorem d13_5 : decode jdk_42_method_155_code 5 = .ok (.invokestatic 1059, 3) := by decide +kernel
theorem d13_8 : decode jdk_42_method_155_code 8 = .ok (.pop, 1) := by decide +kernel
theorem d13_9 : decode jdk_42_method_155_code 9 = .ok (.return_, 1) := by decide +kernel
theorem own_pd6315 : parseMethodDescriptor "(IILjava/util/function/BiFunction;)I" = some ⟨[.int, .int, (.object "java/util/function/BiFunction")], some .int⟩ := by decide +kernel
def own_r_own_sck : Room := { frames := 1, cells := 0, slots := 0, locals := 14 }
theorem own_sck (l : Launch) (Z : State) (a0 : Array Value) (hw : own_W a0 Z) (z : Int32) (sf : Value) (i n : Int32) (h0 : Heap) (n0 : Nat) (hO : Old Z n0 h0) (hG : own_Gs Z z sf) (h1 : ¬ i < 0) (h2 : i < n) :
    own_Met l Z (⟨"java/lang/String", "checkIndex", "(II)V"⟩ : MethodName) jdk_42_method_155_code 2 none own_r_own_sck #[(.int i), (.int n)] h0 (own_Qv none h0 n0) := by
  refine own_body (by decide +kernel) ?_
  intro p e s m below meth c T0 X0 hx hZ hby hml hown hnm hret hlk e0
  have N0 := Fr.nil n0
  refine own_cast (own_frame (L := [iv i, iv n]) (ls := #[iv i, iv n]) rfl rfl) ?_
  obtain ⟨SC, hz, SF, rf⟩ := id hG
  refine og_iloadN X0 hx (hb hby d13_0) rfl ?_
  refine og_iloadN X0 hx (hb hby d13_1) rfl ?_
  refine og_getS X0 hx hZ hown (own_hw hw 60 rfl) Via.refl e0 (SF.ext hO.2) (hb hby d13_2) ?_
  intro T1 X1 e1
  show own_Go p e below _ T1 (mkF m 5 #[iv i, iv n] [sf, (.int n), (.int i)])
  refine own_callS X1 hx hZ hown (own_hw hw 62 rfl) (own_hw hw 63 rfl) (own_hw hw 61 rfl) (own_hw hw 64 rfl) (by decide) (argsL := [(.int i), (.int n), sf]) (rest := []) (own_pck l Z a0 hw i n sf h0 n0 rf h1 h2) e1 (by rw [hml]; rfl) (lenOf own_pd6315 rfl) rfl (hb hby d13_5) (W := 0) (Nat.le_of_eq rfl) (by decide) ?_
  intro v2 T2 L2 X2 q2
  obtain ⟨rfl, N2q, e2⟩ := q2
  have N2 := Fr.app N0 N2q
  show own_Go p e below _ T2 (mkF m 8 #[iv i, iv n] [(.int i)])
  refine og_pop X2 hx (hb hby d13_8) rfl ?_
  exact own_retV X2 hx hret hlk (hb hby d13_9) (by decide) (by decide) (⟨rfl, N2, e2⟩)
theorem d23_0 : decode jdk_52_method_91_code 0 = .ok (.iload_n 0, 1) := by decide +kernel
theorem d23_1 : decode jdk_52_method_91_code 1 = .ok (.aload_n 1, 1) := by decide +kernel
theorem d23_2 : decode jdk_52_method_91_code 2 = .ok (.invokestatic 48, 3) := by decide +kernel
theorem d23_5 : decode jdk_52_method_91_code 5 = .ok (.invokestatic 414, 3) := by decide +kernel
theorem d23_8 : decode jdk_52_method_91_code 8 = .ok (.return_, 1) := by decide +kernel
theorem own_pd17994 : parseMethodDescriptor "([B)I" = some ⟨[(.array .byte)], some .int⟩ := by decide +kernel
theorem own_pd97226 : parseMethodDescriptor "(II)V" = some ⟨[.int, .int], none⟩ := by decide +kernel
def own_r_own_uck1 : Room := { frames := 2, cells := 0, slots := 0, locals := 27 }
theorem own_uck1 (l : Launch) (Z : State) (a0 : Array Value) (hw : own_W a0 Z) (z : Int32) (sf : Value) (b : Addr) (kb : ClassId) (dv : Value) (c0 : Int32) (h0 : Heap) (n0 : Nat) (hO : Old Z n0 h0) (hG : own_Gs Z z sf) (Ab : Arv Z h0 b kb .byte 2 [(.int (own_lo c0)), (.int (own_hi c0))] dv) :
    own_Met l Z (⟨"java/lang/StringUTF16", "checkIndex", "(I[B)V"⟩ : MethodName) jdk_52_method_91_code 2 none own_r_own_uck1 #[(.int 0), (.ref b)] h0 (own_Qv none h0 n0) := by
  refine own_body (by decide +kernel) ?_
  intro p e s m below meth c T0 X0 hx hZ hby hml hown hnm hret hlk e0
  have N0 := Fr.nil n0
  refine own_cast (own_frame (L := [iv 0, rv b]) (ls := #[iv 0, rv b]) rfl rfl) ?_
  obtain ⟨SC, hz, SF, rf⟩ := id hG
  refine og_iloadN X0 hx (hb hby d23_0) rfl ?_
  refine og_aloadN X0 hx (hb hby d23_1) rfl rfl ?_
  refine own_callS X0 hx hZ hown (own_hw hw 104 rfl) (own_hw hw 105 rfl) (own_hw hw 21 rfl) (own_hw hw 106 rfl) (by decide) (argsL := [(.ref b)]) (rest := [(.int 0)]) (own_ul1 l Z a0 hw b _ _ c0 h0 n0 Ab) e0 (by rw [hml]; rfl) (lenOf own_pd17994 rfl) rfl (hb hby d23_2) (W := 1) (Nat.le_of_eq rfl) (by decide) ?_
  intro v1 T1 L1 X1 q1
  obtain ⟨rfl, N1q, e1⟩ := q1
  have N1 := Fr.app N0 N1q
  show own_Go p e below _ T1 (mkF m 5 #[iv 0, rv b] [(.int 1), (.int 0)])
  refine own_callS X1 hx hZ hown (own_hw hw 107 rfl) (own_hw hw 58 rfl) (own_hw hw 6 rfl) (own_hw hw 59 rfl) (by decide) (argsL := [(.int 0), (.int 1)]) (rest := []) (own_sck l Z a0 hw z sf 0 1 h0 n0 hO hG (by decide) (by decide)) e1 (by rw [hml]; rfl) (lenOf own_pd97226 rfl) rfl (hb hby d23_5) (W := 0) (Nat.le_of_eq rfl) (by decide) ?_
  intro v2 T2 L2 X2 q2
  obtain ⟨rfl, N2q, e2⟩ := q2
  have N2 := Fr.app N1 N2q
  show own_Go p e below _ T2 (mkF m 8 #[iv 0, rv b] [])
  exact own_retV X2 hx hret hlk (hb hby d23_8) (by decide) (by decide) (⟨rfl, N2, e2⟩)
theorem d22_0 : decode jdk_52_method_83_code 0 = .ok (.iload_n 1, 1) := by decide +kernel
theorem d22_1 : decode jdk_52_method_83_code 1 = .ok (.aload_n 0, 1) := by decide +kernel
theorem d22_2 : decode jdk_52_method_83_code 2 = .ok (.invokestatic 67, 3) := by decide +kernel
theorem d22_5 : decode jdk_52_method_83_code 5 = .ok (.aload_n 0, 1) := by decide +kernel
theorem d22_6 : decode jdk_52_method_83_code 6 = .ok (.iload_n 1, 1) := by decide +kernel
theorem d22_7 : decode jdk_52_method_83_code 7 = .ok (.invokestatic 71, 3) := by decide +kernel
theorem d22_10 : decode jdk_52_method_83_code 10 = .ok (.ireturn, 1) := by decide +kernel
theorem own_pd80263 : parseMethodDescriptor "(I[B)V" = some ⟨[.int, (.array .byte)], none⟩ := by decide +kernel
def own_r_own_uca1 : Room := { frames := 3, cells := 0, slots := 0, locals := 40 }
theorem own_uca1 (l : Launch) (Z : State) (a0 : Array Value) (hw : own_W a0 Z) (z : Int32) (sf : Value) (b : Addr) (kb : ClassId) (dv : Value) (c0 : Int32) (h0 : Heap) (n0 : Nat) (hO : Old Z n0 h0) (hG : own_Gs Z z sf) (hU : own_Us Z) (hR0 : own_R c0) (Ab : Arv Z h0 b kb .byte 2 [(.int (own_lo c0)), (.int (own_hi c0))] dv) :
    own_Met l Z (⟨"java/lang/StringUTF16", "charAt", "([BI)C"⟩ : MethodName) jdk_52_method_83_code 2 (some .char) own_r_own_uca1 #[(.ref b), (.int 0)] h0 (own_Qv (some (.int c0)) h0 n0) := by
  refine own_body (by decide +kernel) ?_
  intro p e s m below meth c T0 X0 hx hZ hby hml hown hnm hret hlk e0
  have N0 := Fr.nil n0
  refine own_cast (own_frame (L := [rv b, iv 0]) (ls := #[rv b, iv 0]) rfl rfl) ?_
  obtain ⟨SC, hz, SF, rf⟩ := id hG
  refine og_iloadN X0 hx (hb hby d22_0) rfl ?_
  refine og_aloadN X0 hx (hb hby d22_1) rfl rfl ?_
  refine own_callS X0 hx hZ hown (own_hw hw 101 rfl) (own_hw hw 102 rfl) (own_hw hw 21 rfl) (own_hw hw 103 rfl) (by decide) (argsL := [(.int 0), (.ref b)]) (rest := []) (own_uck1 l Z a0 hw z sf b _ _ c0 h0 n0 hO hG Ab) e0 (by rw [hml]; rfl) (lenOf own_pd80263 rfl) rfl (hb hby d22_2) (W := 0) (Nat.le_of_eq rfl) (by decide) ?_
  intro v1 T1 L1 X1 q1
  obtain ⟨rfl, N1q, e1⟩ := q1
  have N1 := Fr.app N0 N1q
  show own_Go p e below _ T1 (mkF m 5 #[rv b, iv 0] [])
  refine og_aloadN X1 hx (hb hby d22_5) rfl rfl ?_
  refine og_iloadN X1 hx (hb hby d22_6) rfl ?_
  refine own_callS X1 hx hZ hown (own_hw hw 95 rfl) (own_hw hw 96 rfl) (own_hw hw 21 rfl) (own_hw hw 97 rfl) (by decide) (argsL := [(.ref b), (.int 0)]) (rest := []) (own_gt_0_1 l Z a0 hw b _ _ c0 h0 n0 hO hU hR0 Ab) e1 (by rw [hml]; rfl) (lenOf own_pd27418 rfl) rfl (hb hby d22_7) (W := 0) (Nat.le_of_eq rfl) (by decide) ?_
  intro v2 T2 L2 X2 q2
  obtain ⟨rfl, N2q, e2⟩ := q2
  have N2 := Fr.app N1 N2q
  show own_Go p e below _ T2 (mkF m 10 #[rv b, iv 0] [(.int c0)])
  exact own_retI X2 hx hret hlk (hb hby d22_10) (own_nc16 c0 hR0) (by simp) (by decide) (by decide) (⟨rfl, N2, e2⟩)
theorem d10_0 : decode jdk_42_method_56_code 0 = .ok (.aload_n 0, 1) := by decide +kernel
theorem d10_1 : decode jdk_42_method_56_code 1 = .ok (.invokevirtual 492, 3) := by decide +kernel
theorem d10_4 : decode jdk_42_method_56_code 4 = .ok (.ifCond .eq 12, 3) := by decide +kernel
theorem d10_16 : decode jdk_42_method_56_code 16 = .ok (.aload_n 0, 1) := by decide +kernel
theorem d10_17 : decode jdk_42_method_56_code 17 = .ok (.getfield 9, 3) := by decide +kernel
theorem d10_20 : decode jdk_42_method_56_code 20 = .ok (.iload_n 1, 1) := by decide +kernel
theorem d10_21 : decode jdk_42_method_56_code 21 = .ok (.invokestatic 498, 3) := by decide +kernel
theorem d10_24 : decode jdk_42_method_56_code 24 = .ok (.ireturn, 1) := by decide +kernel
theorem own_pd61835 : parseMethodDescriptor "()Z" = some ⟨[], some .boolean⟩ := by decide +kernel
def own_r_own_chU1 : Room := { frames := 4, cells := 0, slots := 0, locals := 53 }
theorem own_chU1 (l : Launch) (Z : State) (a0 : Array Value) (hw : own_W a0 Z) (z : Int32) (sf : Value) (t b : Addr) (kb : ClassId) (dv : Value) (c0 : Int32) (h0 : Heap) (n0 : Nat) (hO : Old Z n0 h0) (hG : own_Gs Z z sf) (hU : own_Us Z) (hR0 : own_R c0) (Et : own_E Z h0 t) (Fv : own_V Z h0 t b) (Fc : own_Cd Z h0 t 1) (Ab : Arv Z h0 b kb .byte 2 [(.int (own_lo c0)), (.int (own_hi c0))] dv) :
    own_Met l Z (⟨"java/lang/String", "charAt", "(I)C"⟩ : MethodName) jdk_42_method_56_code 2 (some .char) own_r_own_chU1 #[(.ref t), (.int 0)] h0 (own_Qv (some (.int c0)) h0 n0) := by
  refine own_body (by decide +kernel) ?_
  intro p e s m below meth c T0 X0 hx hZ hby hml hown hnm hret hlk e0
  have N0 := Fr.nil n0
  refine own_cast (own_frame (L := [rv t, iv 0]) (ls := #[rv t, iv 0]) rfl rfl) ?_
  obtain ⟨SC, hz, SF, rf⟩ := id hG
  refine og_aloadN X0 hx (hb hby d10_0) rfl rfl ?_
  refine own_callV X0 hx hZ hown (own_hw hw 48 rfl) (own_hw hw 49 rfl) (notFace_of_selects (args := #[]) (mvT hZ (own_hw hw 51 rfl))) (own_hw hw 51 rfl) (own_hw hw 50 rfl) (own_hw hw 52 rfl) (own_hw hw 6 rfl) (by decide) (b := t) (argsL := []) (rest := []) (own_isl0 l Z a0 hw z sf t h0 n0 hO hG Fc) e0 Et (by rw [hml]; rfl) (lenOf own_pd61835 rfl) rfl (hb hby d10_1) (W := 0) (Nat.le_of_eq rfl) (by decide) ?_
  intro v1 T1 L1 X1 q1
  obtain ⟨rfl, N1q, e1⟩ := q1
  have N1 := Fr.app N0 N1q
  show own_Go p e below _ T1 (mkF m 4 #[rv t, iv 0] [(.int 0)])
  refine og_ifY X1 hx 16 (hb hby d10_4) (teq rfl).1 (by decide) (by decide) ?_
  refine og_aloadN X1 hx (hb hby d10_16) rfl rfl ?_
  refine og_getF X1 hx hZ hown (own_hw hw 32 rfl) Via.refl e1 Fv (hb hby d10_17) ?_
  intro T2 X2 e2
  refine og_iloadN X2 hx (hb hby d10_20) rfl ?_
  refine own_callS X2 hx hZ hown (own_hw hw 98 rfl) (own_hw hw 99 rfl) (own_hw hw 21 rfl) (own_hw hw 100 rfl) (by decide) (argsL := [(.ref b), (.int 0)]) (rest := []) (own_uca1 l Z a0 hw z sf b _ _ c0 h0 n0 hO hG hU hR0 Ab) e2 (by rw [hml]; rfl) (lenOf own_pd27418 rfl) rfl (hb hby d10_21) (W := 0) (Nat.le_of_eq rfl) (by decide) ?_
  intro v3 T3 L3 X3 q3
  obtain ⟨rfl, N3q, e3⟩ := q3
  have N3 := Fr.app N1 N3q
  show own_Go p e below _ T3 (mkF m 24 #[rv t, iv 0] [(.int c0)])
  exact own_retI X3 hx hret hlk (hb hby d10_24) (own_nc16 c0 hR0) (by simp) (by decide) (by decide) (⟨rfl, N3, e3⟩)
def own_r_own_uck2 : Room := { frames := 2, cells := 0, slots := 0, locals := 27 }
theorem own_uck2 (l : Launch) (Z : State) (a0 : Array Value) (hw : own_W a0 Z) (z : Int32) (sf : Value) (b : Addr) (kb : ClassId) (dv : Value) (c0 c1 : Int32) (h0 : Heap) (n0 : Nat) (hO : Old Z n0 h0) (hG : own_Gs Z z sf) (Ab : Arv Z h0 b kb .byte 4 [(.int (own_lo c0)), (.int (own_hi c0)), (.int (own_lo c1)), (.int (own_hi c1))] dv) :
    own_Met l Z (⟨"java/lang/StringUTF16", "checkIndex", "(I[B)V"⟩ : MethodName) jdk_52_method_91_code 2 none own_r_own_uck2 #[(.int 0), (.ref b)] h0 (own_Qv none h0 n0) := by
  refine own_body (by decide +kernel) ?_
  intro p e s m below meth c T0 X0 hx hZ hby hml hown hnm hret hlk e0
  have N0 := Fr.nil n0
  refine own_cast (own_frame (L := [iv 0, rv b]) (ls := #[iv 0, rv b]) rfl rfl) ?_
  obtain ⟨SC, hz, SF, rf⟩ := id hG
  refine og_iloadN X0 hx (hb hby d23_0) rfl ?_
  refine og_aloadN X0 hx (hb hby d23_1) rfl rfl ?_
  refine own_callS X0 hx hZ hown (own_hw hw 104 rfl) (own_hw hw 105 rfl) (own_hw hw 21 rfl) (own_hw hw 106 rfl) (by decide) (argsL := [(.ref b)]) (rest := [(.int 0)]) (own_ul2 l Z a0 hw b _ _ c0 c1 h0 n0 Ab) e0 (by rw [hml]; rfl) (lenOf own_pd17994 rfl) rfl (hb hby d23_2) (W := 1) (Nat.le_of_eq rfl) (by decide) ?_
  intro v1 T1 L1 X1 q1
  obtain ⟨rfl, N1q, e1⟩ := q1
  have N1 := Fr.app N0 N1q
  show own_Go p e below _ T1 (mkF m 5 #[iv 0, rv b] [(.int 2), (.int 0)])
  refine own_callS X1 hx hZ hown (own_hw hw 107 rfl) (own_hw hw 58 rfl) (own_hw hw 6 rfl) (own_hw hw 59 rfl) (by decide) (argsL := [(.int 0), (.int 2)]) (rest := []) (own_sck l Z a0 hw z sf 0 2 h0 n0 hO hG (by decide) (by decide)) e1 (by rw [hml]; rfl) (lenOf own_pd97226 rfl) rfl (hb hby d23_5) (W := 0) (Nat.le_of_eq rfl) (by decide) ?_
  intro v2 T2 L2 X2 q2
  obtain ⟨rfl, N2q, e2⟩ := q2
  have N2 := Fr.app N1 N2q
  show own_Go p e below _ T2 (mkF m 8 #[iv 0, rv b] [])
  exact own_retV X2 hx hret hlk (hb hby d23_8) (by decide) (by decide) (⟨rfl, N2, e2⟩)
def own_r_own_uca2 : Room := { frames := 3, cells := 0, slots := 0, locals := 40 }
theorem own_uca2 (l : Launch) (Z : State) (a0 : Array Value) (hw : own_W a0 Z) (z : Int32) (sf : Value) (b : Addr) (kb : ClassId) (dv : Value) (c0 c1 : Int32) (h0 : Heap) (n0 : Nat) (hO : Old Z n0 h0) (hG : own_Gs Z z sf) (hU : own_Us Z) (hR0 : own_R c0) (Ab : Arv Z h0 b kb .byte 4 [(.int (own_lo c0)), (.int (own_hi c0)), (.int (own_lo c1)), (.int (own_hi c1))] dv) :
    own_Met l Z (⟨"java/lang/StringUTF16", "charAt", "([BI)C"⟩ : MethodName) jdk_52_method_83_code 2 (some .char) own_r_own_uca2 #[(.ref b), (.int 0)] h0 (own_Qv (some (.int c0)) h0 n0) := by
  refine own_body (by decide +kernel) ?_
  intro p e s m below meth c T0 X0 hx hZ hby hml hown hnm hret hlk e0
  have N0 := Fr.nil n0
  refine own_cast (own_frame (L := [rv b, iv 0]) (ls := #[rv b, iv 0]) rfl rfl) ?_
  obtain ⟨SC, hz, SF, rf⟩ := id hG
  refine og_iloadN X0 hx (hb hby d22_0) rfl ?_
  refine og_aloadN X0 hx (hb hby d22_1) rfl rfl ?_
  refine own_callS X0 hx hZ hown (own_hw hw 101 rfl) (own_hw hw 102 rfl) (own_hw hw 21 rfl) (own_hw hw 103 rfl) (by decide) (argsL := [(.int 0), (.ref b)]) (rest := []) (own_uck2 l Z a0 hw z sf b _ _ c0 c1 h0 n0 hO hG Ab) e0 (by rw [hml]; rfl) (lenOf own_pd80263 rfl) rfl (hb hby d22_2) (W := 0) (Nat.le_of_eq rfl) (by decide) ?_
  intro v1 T1 L1 X1 q1
  obtain ⟨rfl, N1q, e1⟩ := q1
  have N1 := Fr.app N0 N1q
  show own_Go p e below _ T1 (mkF m 5 #[rv b, iv 0] [])
  refine og_aloadN X1 hx (hb hby d22_5) rfl rfl ?_
  refine og_iloadN X1 hx (hb hby d22_6) rfl ?_
  refine own_callS X1 hx hZ hown (own_hw hw 95 rfl) (own_hw hw 96 rfl) (own_hw hw 21 rfl) (own_hw hw 97 rfl) (by decide) (argsL := [(.ref b), (.int 0)]) (rest := []) (own_gt_0_2 l Z a0 hw b _ _ c0 (.int (own_lo c1)) (.int (own_hi c1)) h0 n0 hO hU hR0 Ab) e1 (by rw [hml]; rfl) (lenOf own_pd27418 rfl) rfl (hb hby d22_7) (W := 0) (Nat.le_of_eq rfl) (by decide) ?_
  intro v2 T2 L2 X2 q2
  obtain ⟨rfl, N2q, e2⟩ := q2
  have N2 := Fr.app N1 N2q
  show own_Go p e below _ T2 (mkF m 10 #[rv b, iv 0] [(.int c0)])
  exact own_retI X2 hx hret hlk (hb hby d22_10) (own_nc16 c0 hR0) (by simp) (by decide) (by decide) (⟨rfl, N2, e2⟩)
theorem own_chU2 (l : Launch) (Z : State) (a0 : Array Value) (hw : own_W a0 Z) (z : Int32) (sf : Value) (t b : Addr) (kb : ClassId) (dv : Value) (c0 c1 : Int32) (h0 : Heap) (n0 : Nat) (hO : Old Z n0 h0) (hG : own_Gs Z z sf) (hU : own_Us Z) (hR0 : own_R c0) (Et : own_E Z h0 t) (Fv : own_V Z h0 t b) (Fc : own_Cd Z h0 t 1) (Ab : Arv Z h0 b kb .byte 4 [(.int (own_lo c0)), (.int (own_hi c0)), (.int (own_lo c1)), (.int (own_hi c1))] dv) :
    own_Met l Z (⟨"java/lang/String", "charAt", "(I)C"⟩ : MethodName) jdk_42_method_56_code 2 (some .char) own_r_own_chU1 #[(.ref t), (.int 0)] h0 (own_Qv (some (.int c0)) h0 n0) := by
  refine own_body (by decide +kernel) ?_
  intro p e s m below meth c T0 X0 hx hZ hby hml hown hnm hret hlk e0
  have N0 := Fr.nil n0
  refine own_cast (own_frame (L := [rv t, iv 0]) (ls := #[rv t, iv 0]) rfl rfl) ?_
  obtain ⟨SC, hz, SF, rf⟩ := id hG
  refine og_aloadN X0 hx (hb hby d10_0) rfl rfl ?_
  refine own_callV X0 hx hZ hown (own_hw hw 48 rfl) (own_hw hw 49 rfl) (notFace_of_selects (args := #[]) (mvT hZ (own_hw hw 51 rfl))) (own_hw hw 51 rfl) (own_hw hw 50 rfl) (own_hw hw 52 rfl) (own_hw hw 6 rfl) (by decide) (b := t) (argsL := []) (rest := []) (own_isl0 l Z a0 hw z sf t h0 n0 hO hG Fc) e0 Et (by rw [hml]; rfl) (lenOf own_pd61835 rfl) rfl (hb hby d10_1) (W := 0) (Nat.le_of_eq rfl) (by decide) ?_
  intro v1 T1 L1 X1 q1
  obtain ⟨rfl, N1q, e1⟩ := q1
  have N1 := Fr.app N0 N1q
  show own_Go p e below _ T1 (mkF m 4 #[rv t, iv 0] [(.int 0)])
  refine og_ifY X1 hx 16 (hb hby d10_4) (teq rfl).1 (by decide) (by decide) ?_
  refine og_aloadN X1 hx (hb hby d10_16) rfl rfl ?_
  refine og_getF X1 hx hZ hown (own_hw hw 32 rfl) Via.refl e1 Fv (hb hby d10_17) ?_
  intro T2 X2 e2
  refine og_iloadN X2 hx (hb hby d10_20) rfl ?_
  refine own_callS X2 hx hZ hown (own_hw hw 98 rfl) (own_hw hw 99 rfl) (own_hw hw 21 rfl) (own_hw hw 100 rfl) (by decide) (argsL := [(.ref b), (.int 0)]) (rest := []) (own_uca2 l Z a0 hw z sf b _ _ c0 c1 h0 n0 hO hG hU hR0 Ab) e2 (by rw [hml]; rfl) (lenOf own_pd27418 rfl) rfl (hb hby d10_21) (W := 0) (Nat.le_of_eq rfl) (by decide) ?_
  intro v3 T3 L3 X3 q3
  obtain ⟨rfl, N3q, e3⟩ := q3
  have N3 := Fr.app N1 N3q
  show own_Go p e below _ T3 (mkF m 24 #[rv t, iv 0] [(.int c0)])
  exact own_retI X3 hx hret hlk (hb hby d10_24) (own_nc16 c0 hR0) (by simp) (by decide) (by decide) (⟨rfl, N3, e3⟩)
def own_r_own_uck3 : Room := { frames := 2, cells := 0, slots := 0, locals := 27 }
theorem own_uck3 (l : Launch) (Z : State) (a0 : Array Value) (hw : own_W a0 Z) (z : Int32) (sf : Value) (b : Addr) (kb : ClassId) (dv : Value) (c0 c1 c2 : Int32) (h0 : Heap) (n0 : Nat) (hO : Old Z n0 h0) (hG : own_Gs Z z sf) (Ab : Arv Z h0 b kb .byte 6 [(.int (own_lo c0)), (.int (own_hi c0)), (.int (own_lo c1)), (.int (own_hi c1)), (.int (own_lo c2)), (.int (own_hi c2))] dv) :
    own_Met l Z (⟨"java/lang/StringUTF16", "checkIndex", "(I[B)V"⟩ : MethodName) jdk_52_method_91_code 2 none own_r_own_uck3 #[(.int 0), (.ref b)] h0 (own_Qv none h0 n0) := by
  refine own_body (by decide +kernel) ?_
  intro p e s m below meth c T0 X0 hx hZ hby hml hown hnm hret hlk e0
  have N0 := Fr.nil n0
  refine own_cast (own_frame (L := [iv 0, rv b]) (ls := #[iv 0, rv b]) rfl rfl) ?_
  obtain ⟨SC, hz, SF, rf⟩ := id hG
  refine og_iloadN X0 hx (hb hby d23_0) rfl ?_
  refine og_aloadN X0 hx (hb hby d23_1) rfl rfl ?_
  refine own_callS X0 hx hZ hown (own_hw hw 104 rfl) (own_hw hw 105 rfl) (own_hw hw 21 rfl) (own_hw hw 106 rfl) (by decide) (argsL := [(.ref b)]) (rest := [(.int 0)]) (own_ul3 l Z a0 hw b _ _ c0 c1 c2 h0 n0 Ab) e0 (by rw [hml]; rfl) (lenOf own_pd17994 rfl) rfl (hb hby d23_2) (W := 1) (Nat.le_of_eq rfl) (by decide) ?_
  intro v1 T1 L1 X1 q1
  obtain ⟨rfl, N1q, e1⟩ := q1
  have N1 := Fr.app N0 N1q
  show own_Go p e below _ T1 (mkF m 5 #[iv 0, rv b] [(.int 3), (.int 0)])
  refine own_callS X1 hx hZ hown (own_hw hw 107 rfl) (own_hw hw 58 rfl) (own_hw hw 6 rfl) (own_hw hw 59 rfl) (by decide) (argsL := [(.int 0), (.int 3)]) (rest := []) (own_sck l Z a0 hw z sf 0 3 h0 n0 hO hG (by decide) (by decide)) e1 (by rw [hml]; rfl) (lenOf own_pd97226 rfl) rfl (hb hby d23_5) (W := 0) (Nat.le_of_eq rfl) (by decide) ?_
  intro v2 T2 L2 X2 q2
  obtain ⟨rfl, N2q, e2⟩ := q2
  have N2 := Fr.app N1 N2q
  show own_Go p e below _ T2 (mkF m 8 #[iv 0, rv b] [])
  exact own_retV X2 hx hret hlk (hb hby d23_8) (by decide) (by decide) (⟨rfl, N2, e2⟩)
def own_r_own_uca3 : Room := { frames := 3, cells := 0, slots := 0, locals := 40 }
theorem own_uca3 (l : Launch) (Z : State) (a0 : Array Value) (hw : own_W a0 Z) (z : Int32) (sf : Value) (b : Addr) (kb : ClassId) (dv : Value) (c0 c1 c2 : Int32) (h0 : Heap) (n0 : Nat) (hO : Old Z n0 h0) (hG : own_Gs Z z sf) (hU : own_Us Z) (hR0 : own_R c0) (Ab : Arv Z h0 b kb .byte 6 [(.int (own_lo c0)), (.int (own_hi c0)), (.int (own_lo c1)), (.int (own_hi c1)), (.int (own_lo c2)), (.int (own_hi c2))] dv) :
    own_Met l Z (⟨"java/lang/StringUTF16", "charAt", "([BI)C"⟩ : MethodName) jdk_52_method_83_code 2 (some .char) own_r_own_uca3 #[(.ref b), (.int 0)] h0 (own_Qv (some (.int c0)) h0 n0) := by
  refine own_body (by decide +kernel) ?_
  intro p e s m below meth c T0 X0 hx hZ hby hml hown hnm hret hlk e0
  have N0 := Fr.nil n0
  refine own_cast (own_frame (L := [rv b, iv 0]) (ls := #[rv b, iv 0]) rfl rfl) ?_
  obtain ⟨SC, hz, SF, rf⟩ := id hG
  refine og_iloadN X0 hx (hb hby d22_0) rfl ?_
  refine og_aloadN X0 hx (hb hby d22_1) rfl rfl ?_
  refine own_callS X0 hx hZ hown (own_hw hw 101 rfl) (own_hw hw 102 rfl) (own_hw hw 21 rfl) (own_hw hw 103 rfl) (by decide) (argsL := [(.int 0), (.ref b)]) (rest := []) (own_uck3 l Z a0 hw z sf b _ _ c0 c1 c2 h0 n0 hO hG Ab) e0 (by rw [hml]; rfl) (lenOf own_pd80263 rfl) rfl (hb hby d22_2) (W := 0) (Nat.le_of_eq rfl) (by decide) ?_
  intro v1 T1 L1 X1 q1
  obtain ⟨rfl, N1q, e1⟩ := q1
  have N1 := Fr.app N0 N1q
  show own_Go p e below _ T1 (mkF m 5 #[rv b, iv 0] [])
  refine og_aloadN X1 hx (hb hby d22_5) rfl rfl ?_
  refine og_iloadN X1 hx (hb hby d22_6) rfl ?_
  refine own_callS X1 hx hZ hown (own_hw hw 95 rfl) (own_hw hw 96 rfl) (own_hw hw 21 rfl) (own_hw hw 97 rfl) (by decide) (argsL := [(.ref b), (.int 0)]) (rest := []) (own_gt_0_3 l Z a0 hw b _ _ c0 (.int (own_lo c1)) (.int (own_hi c1)) (.int (own_lo c2)) (.int (own_hi c2)) h0 n0 hO hU hR0 Ab) e1 (by rw [hml]; rfl) (lenOf own_pd27418 rfl) rfl (hb hby d22_7) (W := 0) (Nat.le_of_eq rfl) (by decide) ?_
  intro v2 T2 L2 X2 q2
  obtain ⟨rfl, N2q, e2⟩ := q2
  have N2 := Fr.app N1 N2q
  show own_Go p e below _ T2 (mkF m 10 #[rv b, iv 0] [(.int c0)])
  exact own_retI X2 hx hret hlk (hb hby d22_10) (own_nc16 c0 hR0) (by simp) (by decide) (by decide) (⟨rfl, N2, e2⟩)
theorem own_chU3 (l : Launch) (Z : State) (a0 : Array Value) (hw : own_W a0 Z) (z : Int32) (sf : Value) (t b : Addr) (kb : ClassId) (dv : Value) (c0 c1 c2 : Int32) (h0 : Heap) (n0 : Nat) (hO : Old Z n0 h0) (hG : own_Gs Z z sf) (hU : own_Us Z) (hR0 : own_R c0) (Et : own_E Z h0 t) (Fv : own_V Z h0 t b) (Fc : own_Cd Z h0 t 1) (Ab : Arv Z h0 b kb .byte 6 [(.int (own_lo c0)), (.int (own_hi c0)), (.int (own_lo c1)), (.int (own_hi c1)), (.int (own_lo c2)), (.int (own_hi c2))] dv) :
    own_Met l Z (⟨"java/lang/String", "charAt", "(I)C"⟩ : MethodName) jdk_42_method_56_code 2 (some .char) own_r_own_chU1 #[(.ref t), (.int 0)] h0 (own_Qv (some (.int c0)) h0 n0) := by
  refine own_body (by decide +kernel) ?_
  intro p e s m below meth c T0 X0 hx hZ hby hml hown hnm hret hlk e0
  have N0 := Fr.nil n0
  refine own_cast (own_frame (L := [rv t, iv 0]) (ls := #[rv t, iv 0]) rfl rfl) ?_
  obtain ⟨SC, hz, SF, rf⟩ := id hG
  refine og_aloadN X0 hx (hb hby d10_0) rfl rfl ?_
  refine own_callV X0 hx hZ hown (own_hw hw 48 rfl) (own_hw hw 49 rfl) (notFace_of_selects (args := #[]) (mvT hZ (own_hw hw 51 rfl))) (own_hw hw 51 rfl) (own_hw hw 50 rfl) (own_hw hw 52 rfl) (own_hw hw 6 rfl) (by decide) (b := t) (argsL := []) (rest := []) (own_isl0 l Z a0 hw z sf t h0 n0 hO hG Fc) e0 Et (by rw [hml]; rfl) (lenOf own_pd61835 rfl) rfl (hb hby d10_1) (W := 0) (Nat.le_of_eq rfl) (by decide) ?_
  intro v1 T1 L1 X1 q1
  obtain ⟨rfl, N1q, e1⟩ := q1
  have N1 := Fr.app N0 N1q
  show own_Go p e below _ T1 (mkF m 4 #[rv t, iv 0] [(.int 0)])
  refine og_ifY X1 hx 16 (hb hby d10_4) (teq rfl).1 (by decide) (by decide) ?_
  refine og_aloadN X1 hx (hb hby d10_16) rfl rfl ?_
  refine og_getF X1 hx hZ hown (own_hw hw 32 rfl) Via.refl e1 Fv (hb hby d10_17) ?_
  intro T2 X2 e2
  refine og_iloadN X2 hx (hb hby d10_20) rfl ?_
  refine own_callS X2 hx hZ hown (own_hw hw 98 rfl) (own_hw hw 99 rfl) (own_hw hw 21 rfl) (own_hw hw 100 rfl) (by decide) (argsL := [(.ref b), (.int 0)]) (rest := []) (own_uca3 l Z a0 hw z sf b _ _ c0 c1 c2 h0 n0 hO hG hU hR0 Ab) e2 (by rw [hml]; rfl) (lenOf own_pd27418 rfl) rfl (hb hby d10_21) (W := 0) (Nat.le_of_eq rfl) (by decide) ?_
  intro v3 T3 L3 X3 q3
  obtain ⟨rfl, N3q, e3⟩ := q3
  have N3 := Fr.app N1 N3q
  show own_Go p e below _ T3 (mkF m 24 #[rv t, iv 0] [(.int c0)])
  exact own_retI X3 hx hret hlk (hb hby d10_24) (own_nc16 c0 hR0) (by simp) (by decide) (by decide) (⟨rfl, N3, e3⟩)
theorem d12_0 : decode jdk_43_method_2_code 0 = .ok (.iload_n 1, 1) := by decide +kernel
theorem d12_1 : decode jdk_43_method_2_code 1 = .ok (.aload_n 0, 1) := by decide +kernel
theorem d12_2 : decode jdk_43_method_2_code 2 = .ok (.arraylength, 1) := by decide +kernel
theorem d12_3 : decode jdk_43_method_2_code 3 = .ok (.invokestatic 9, 3) := by decide +kernel
theorem d12_6 : decode jdk_43_method_2_code 6 = .ok (.aload_n 0, 1) := by decide +kernel
theorem d12_7 : decode jdk_43_method_2_code 7 = .ok (.iload_n 1, 1) := by decide +kernel
theorem d12_8 : decode jdk_43_method_2_code 8 = .ok (.baload, 1) := by decide +kernel
theorem d12_9 : decode jdk_43_method_2_code 9 = .ok (.sipush 255, 3) := by decide +kernel
theorem d12_12 : decode jdk_43_method_2_code 12 = .ok (.iand, 1) := by decide +kernel
theorem d12_13 : decode jdk_43_method_2_code 13 = .ok (.i2c, 1) := by decide +kernel
theorem d12_14 : decode jdk_43_method_2_code 14 = .ok (.ireturn, 1) := by decide +kernel
def own_r_own_lca_0_1 : Room := { frames := 2, cells := 0, slots := 0, locals := 27 }
theorem own_lca_0_1 (l : Launch) (Z : State) (a0 : Array Value) (hw : own_W a0 Z) (z : Int32) (sf : Value) (b : Addr) (kb : ClassId) (dv : Value) (ch : Int32) (h0 : Heap) (n0 : Nat) (hO : Old Z n0 h0) (hG : own_Gs Z z sf) (hc : ¬ ch < 0 ∧ ¬ (255 : Int32) < ch) (Ab : Arv Z h0 b kb .byte 1 [(.int ch.toInt8.toInt32)] dv) :
    own_Met l Z (⟨"java/lang/StringLatin1", "charAt", "([BI)C"⟩ : MethodName) jdk_43_method_2_code 2 (some .char) own_r_own_lca_0_1 #[(.ref b), (.int 0)] h0 (own_Qv (some (.int ch)) h0 n0) := by
  refine own_body (by decide +kernel) ?_
  intro p e s m below meth c T0 X0 hx hZ hby hml hown hnm hret hlk e0
  have N0 := Fr.nil n0
  refine own_cast (own_frame (L := [rv b, iv 0]) (ls := #[rv b, iv 0]) rfl rfl) ?_
  obtain ⟨SC, hz, SF, rf⟩ := id hG
  refine og_iloadN X0 hx (hb hby d12_0) rfl ?_
  refine og_aloadN X0 hx (hb hby d12_1) rfl rfl ?_
  refine own_len X0 hx hZ e0 Ab (hb hby d12_2) ?_
  show own_Go p e below _ T0 (mkF m 3 #[rv b, iv 0] [(.int 1), (.int 0)])
  refine own_callS X0 hx hZ hown (own_hw hw 57 rfl) (own_hw hw 58 rfl) (own_hw hw 6 rfl) (own_hw hw 59 rfl) (by decide) (argsL := [(.int 0), (.int 1)]) (rest := []) (own_sck l Z a0 hw z sf 0 1 h0 n0 hO hG (by decide) (by decide)) e0 (by rw [hml]; rfl) (lenOf own_pd97226 rfl) rfl (hb hby d12_3) (W := 0) (Nat.le_of_eq rfl) (by decide) ?_
  intro v1 T1 L1 X1 q1
  obtain ⟨rfl, N1q, e1⟩ := q1
  have N1 := Fr.app N0 N1q
  show own_Go p e below _ T1 (mkF m 6 #[rv b, iv 0] [])
  refine og_aloadN X1 hx (hb hby d12_6) rfl rfl ?_
  refine og_iloadN X1 hx (hb hby d12_7) rfl ?_
  refine own_ldB X1 hx hZ e1 Ab ⟨by decide, by decide⟩ rfl (hb hby d12_8) ?_
  show own_Go p e below _ T1 (mkF m 9 #[rv b, iv 0] [(.int ch.toInt8.toInt32)])
  refine og_sipush X1 hx (hb hby d12_9) ?_
  refine og_iand X1 hx (hb hby d12_12) ?_
  show own_Go p e below _ T1 (mkF m 13 #[rv b, iv 0] [(.int (ch.toInt8.toInt32 &&& 255))])
  rw [own_rt ch hc]
  show own_Go p e below _ T1 (mkF m 13 #[rv b, iv 0] [(.int ch)])
  refine own_go (fun t k => XS.i2c X1.here hx rfl (hb hby d12_13) rfl k) ?_
  show own_Go p e below _ T1 (mkF m 14 #[rv b, iv 0] [(.int (ch.toUInt32.toUInt16.toUInt32.toInt32))])
  rw [own_ic ch hc]
  show own_Go p e below _ T1 (mkF m 14 #[rv b, iv 0] [(.int ch)])
  exact own_retI X1 hx hret hlk (hb hby d12_14) (own_nc ch hc) (by simp) (by decide) (by decide) (⟨rfl, N1, e1⟩)
theorem d11_13 : decode jdk_42_method_154_code 13 = .ok (.iconst 1, 1) := by decide +kernel
theorem d11_14 : decode jdk_42_method_154_code 14 = .ok (.goto 4, 3) := by decide +kernel
def own_r_own_isl1 : Room := { frames := 0, cells := 0, slots := 0, locals := 0 }
theorem own_isl1 (l : Launch) (Z : State) (a0 : Array Value) (hw : own_W a0 Z) (z : Int32) (sf : Value) (t : Addr) (h0 : Heap) (n0 : Nat) (hO : Old Z n0 h0) (hG : own_Gs Z z sf) (Fc : own_C Z h0 t) :
    own_Met l Z (⟨"java/lang/String", "isLatin1", "()Z"⟩ : MethodName) jdk_42_method_154_code 1 (some .boolean) own_r_own_isl1 #[(.ref t)] h0 (own_Qv (some (.int 1)) h0 n0) := by
  refine own_body (by decide +kernel) ?_
  intro p e s m below meth c T0 X0 hx hZ hby hml hown hnm hret hlk e0
  have N0 := Fr.nil n0
  refine own_cast (own_frame (L := [rv t]) (ls := #[rv t]) rfl rfl) ?_
  obtain ⟨SC, hz, SF, rf⟩ := id hG
  refine og_getS X0 hx hZ hown (own_hw hw 18 rfl) Via.refl e0 (SC.ext hO.2) (hb hby d11_0) ?_
  intro T1 X1 e1
  show own_Go p e below _ T1 (mkF m 3 #[rv t] [(.int z)])
  refine og_ifN X1 hx (hb hby d11_3) (feq hz).1 ?_
  refine og_aloadN X1 hx (hb hby d11_6) rfl rfl ?_
  refine og_getF X1 hx hZ hown (own_hw hw 30 rfl) Via.refl e1 Fc (hb hby d11_7) ?_
  intro T2 X2 e2
  show own_Go p e below _ T2 (mkF m 10 #[rv t] [(.int (0 : Int32))])
  refine og_ifN X2 hx (hb hby d11_10) (teq (by decide)).2 ?_
  refine og_iconst X2 hx (hb hby d11_13) ?_
  refine og_goto X2 hx 18 (hb hby d11_14) (by decide) (by decide) ?_
  exact own_retI X2 hx hret hlk (hb hby d11_18) rfl (by simp) (by decide) (by decide) (⟨rfl, N0, e2⟩)
theorem d10_7 : decode jdk_42_method_56_code 7 = .ok (.aload_n 0, 1) := by decide +kernel
theorem d10_8 : decode jdk_42_method_56_code 8 = .ok (.getfield 9, 3) := by decide +kernel
theorem d10_11 : decode jdk_42_method_56_code 11 = .ok (.iload_n 1, 1) := by decide +kernel
theorem d10_12 : decode jdk_42_method_56_code 12 = .ok (.invokestatic 495, 3) := by decide +kernel
theorem d10_15 : decode jdk_42_method_56_code 15 = .ok (.ireturn, 1) := by decide +kernel
theorem own_chL1 (l : Launch) (Z : State) (a0 : Array Value) (hw : own_W a0 Z) (z : Int32) (sf : Value) (t b : Addr) (kb : ClassId) (dv : Value) (c0 : Int32) (h0 : Heap) (n0 : Nat) (hO : Old Z n0 h0) (hG : own_Gs Z z sf) (hR0 : own_R c0) (m0 : ¬ (255 : Int32) < c0) (Et : own_E Z h0 t) (Fv : own_V Z h0 t b) (Fc : own_C Z h0 t) (Ab : Arv Z h0 b kb .byte 1 [(.int c0.toInt8.toInt32)] dv) :
    own_Met l Z (⟨"java/lang/String", "charAt", "(I)C"⟩ : MethodName) jdk_42_method_56_code 2 (some .char) own_r_own_chU1 #[(.ref t), (.int 0)] h0 (own_Qv (some (.int c0)) h0 n0) := by
  refine own_body (by decide +kernel) ?_
  intro p e s m below meth c T0 X0 hx hZ hby hml hown hnm hret hlk e0
  have N0 := Fr.nil n0
  refine own_cast (own_frame (L := [rv t, iv 0]) (ls := #[rv t, iv 0]) rfl rfl) ?_
  obtain ⟨SC, hz, SF, rf⟩ := id hG
  refine og_aloadN X0 hx (hb hby d10_0) rfl rfl ?_
  refine own_callV X0 hx hZ hown (own_hw hw 48 rfl) (own_hw hw 49 rfl) (notFace_of_selects (args := #[]) (mvT hZ (own_hw hw 51 rfl))) (own_hw hw 51 rfl) (own_hw hw 50 rfl) (own_hw hw 52 rfl) (own_hw hw 6 rfl) (by decide) (b := t) (argsL := []) (rest := []) (own_isl1 l Z a0 hw z sf t h0 n0 hO hG Fc) e0 Et (by rw [hml]; rfl) (lenOf own_pd61835 rfl) rfl (hb hby d10_1) (W := 0) (Nat.le_of_eq rfl) (by decide) ?_
  intro v1 T1 L1 X1 q1
  obtain ⟨rfl, N1q, e1⟩ := q1
  have N1 := Fr.app N0 N1q
  show own_Go p e below _ T1 (mkF m 4 #[rv t, iv 0] [(.int (1 : Int32))])
  refine og_ifN X1 hx (hb hby d10_4) (feq (by decide)).1 ?_
  refine og_aloadN X1 hx (hb hby d10_7) rfl rfl ?_
  refine og_getF X1 hx hZ hown (own_hw hw 32 rfl) Via.refl e1 Fv (hb hby d10_8) ?_
  intro T2 X2 e2
  refine og_iloadN X2 hx (hb hby d10_11) rfl ?_
  refine own_callS X2 hx hZ hown (own_hw hw 53 rfl) (own_hw hw 54 rfl) (own_hw hw 55 rfl) (own_hw hw 56 rfl) (by decide) (argsL := [(.ref b), (.int 0)]) (rest := []) (own_lca_0_1 l Z a0 hw z sf b _ _ c0 h0 n0 hO hG (own_lt hR0 m0) Ab) e2 (by rw [hml]; rfl) (lenOf own_pd27418 rfl) rfl (hb hby d10_12) (W := 0) (Nat.le_of_eq rfl) (by decide) ?_
  intro v3 T3 L3 X3 q3
  obtain ⟨rfl, N3q, e3⟩ := q3
  have N3 := Fr.app N1 N3q
  show own_Go p e below _ T3 (mkF m 15 #[rv t, iv 0] [(.int c0)])
  exact own_retI X3 hx hret hlk (hb hby d10_15) (own_nc16 c0 hR0) (by simp) (by decide) (by decide) (⟨rfl, N3, e3⟩)
theorem own_chr1 (l : Launch) (Z : State) (a0 : Array Value) (hw : own_W a0 Z) (z : Int32) (sf : Value) (t b : Addr) (kb : ClassId) (dv : Value) (c0 NN cd : Int32) (vs : List Value) (h0 : Heap) (n0 : Nat) (hO : Old Z n0 h0) (hG : own_Gs Z z sf) (hU : own_Us Z) (hR0 : own_R c0) (hK : own_K1 c0 NN vs cd) (Et : own_E Z h0 t) (Fv : own_V Z h0 t b) (Fc : own_Cd Z h0 t cd) (Ab : Arv Z h0 b kb .byte NN vs dv) :
    own_Met l Z (⟨"java/lang/String", "charAt", "(I)C"⟩ : MethodName) jdk_42_method_56_code 2 (some .char) own_r_own_chU1 #[.ref t, .int 0] h0 (own_Qv (some (.int c0)) h0 n0) := by
  rcases hK with ⟨m0, rfl, rfl, rfl⟩ | ⟨-, rfl, rfl, rfl⟩
  · exact own_chL1 l Z a0 hw z sf t b kb dv c0 h0 n0 hO hG hR0 m0 Et Fv Fc Ab
  · exact own_chU1 l Z a0 hw z sf t b kb dv c0 h0 n0 hO hG hU hR0 Et Fv Fc Ab
def own_r_own_lca_0_2 : Room := { frames := 2, cells := 0, slots := 0, locals := 27 }
theorem own_lca_0_2 (l : Launch) (Z : State) (a0 : Array Value) (hw : own_W a0 Z) (z : Int32) (sf : Value) (b : Addr) (kb : ClassId) (dv : Value) (ch : Int32) (v1 : Value) (h0 : Heap) (n0 : Nat) (hO : Old Z n0 h0) (hG : own_Gs Z z sf) (hc : ¬ ch < 0 ∧ ¬ (255 : Int32) < ch) (Ab : Arv Z h0 b kb .byte 2 [(.int ch.toInt8.toInt32), v1] dv) :
    own_Met l Z (⟨"java/lang/StringLatin1", "charAt", "([BI)C"⟩ : MethodName) jdk_43_method_2_code 2 (some .char) own_r_own_lca_0_2 #[(.ref b), (.int 0)] h0 (own_Qv (some (.int ch)) h0 n0) := by
  refine own_body (by decide +kernel) ?_
  intro p e s m below meth c T0 X0 hx hZ hby hml hown hnm hret hlk e0
  have N0 := Fr.nil n0
  refine own_cast (own_frame (L := [rv b, iv 0]) (ls := #[rv b, iv 0]) rfl rfl) ?_
  obtain ⟨SC, hz, SF, rf⟩ := id hG
  refine og_iloadN X0 hx (hb hby d12_0) rfl ?_
  refine og_aloadN X0 hx (hb hby d12_1) rfl rfl ?_
  refine own_len X0 hx hZ e0 Ab (hb hby d12_2) ?_
  show own_Go p e below _ T0 (mkF m 3 #[rv b, iv 0] [(.int 2), (.int 0)])
  refine own_callS X0 hx hZ hown (own_hw hw 57 rfl) (own_hw hw 58 rfl) (own_hw hw 6 rfl) (own_hw hw 59 rfl) (by decide) (argsL := [(.int 0), (.int 2)]) (rest := []) (own_sck l Z a0 hw z sf 0 2 h0 n0 hO hG (by decide) (by decide)) e0 (by rw [hml]; rfl) (lenOf own_pd97226 rfl) rfl (hb hby d12_3) (W := 0) (Nat.le_of_eq rfl) (by decide) ?_
  intro v1 T1 L1 X1 q1
  obtain ⟨rfl, N1q, e1⟩ := q1
  have N1 := Fr.app N0 N1q
  show own_Go p e below _ T1 (mkF m 6 #[rv b, iv 0] [])
  refine og_aloadN X1 hx (hb hby d12_6) rfl rfl ?_
  refine og_iloadN X1 hx (hb hby d12_7) rfl ?_
  refine own_ldB X1 hx hZ e1 Ab ⟨by decide, by decide⟩ rfl (hb hby d12_8) ?_
  show own_Go p e below _ T1 (mkF m 9 #[rv b, iv 0] [(.int ch.toInt8.toInt32)])
  refine og_sipush X1 hx (hb hby d12_9) ?_
  refine og_iand X1 hx (hb hby d12_12) ?_
  show own_Go p e below _ T1 (mkF m 13 #[rv b, iv 0] [(.int (ch.toInt8.toInt32 &&& 255))])
  rw [own_rt ch hc]
  show own_Go p e below _ T1 (mkF m 13 #[rv b, iv 0] [(.int ch)])
  refine own_go (fun t k => XS.i2c X1.here hx rfl (hb hby d12_13) rfl k) ?_
  show own_Go p e below _ T1 (mkF m 14 #[rv b, iv 0] [(.int (ch.toUInt32.toUInt16.toUInt32.toInt32))])
  rw [own_ic ch hc]
  show own_Go p e below _ T1 (mkF m 14 #[rv b, iv 0] [(.int ch)])
  exact own_retI X1 hx hret hlk (hb hby d12_14) (own_nc ch hc) (by simp) (by decide) (by decide) (⟨rfl, N1, e1⟩)
theorem own_chL2 (l : Launch) (Z : State) (a0 : Array Value) (hw : own_W a0 Z) (z : Int32) (sf : Value) (t b : Addr) (kb : ClassId) (dv : Value) (c0 c1 : Int32) (h0 : Heap) (n0 : Nat) (hO : Old Z n0 h0) (hG : own_Gs Z z sf) (hR0 : own_R c0) (m0 : ¬ (255 : Int32) < c0) (Et : own_E Z h0 t) (Fv : own_V Z h0 t b) (Fc : own_C Z h0 t) (Ab : Arv Z h0 b kb .byte 2 [(.int c0.toInt8.toInt32), (.int c1.toInt8.toInt32)] dv) :
    own_Met l Z (⟨"java/lang/String", "charAt", "(I)C"⟩ : MethodName) jdk_42_method_56_code 2 (some .char) own_r_own_chU1 #[(.ref t), (.int 0)] h0 (own_Qv (some (.int c0)) h0 n0) := by
  refine own_body (by decide +kernel) ?_
  intro p e s m below meth c T0 X0 hx hZ hby hml hown hnm hret hlk e0
  have N0 := Fr.nil n0
  refine own_cast (own_frame (L := [rv t, iv 0]) (ls := #[rv t, iv 0]) rfl rfl) ?_
  obtain ⟨SC, hz, SF, rf⟩ := id hG
  refine og_aloadN X0 hx (hb hby d10_0) rfl rfl ?_
  refine own_callV X0 hx hZ hown (own_hw hw 48 rfl) (own_hw hw 49 rfl) (notFace_of_selects (args := #[]) (mvT hZ (own_hw hw 51 rfl))) (own_hw hw 51 rfl) (own_hw hw 50 rfl) (own_hw hw 52 rfl) (own_hw hw 6 rfl) (by decide) (b := t) (argsL := []) (rest := []) (own_isl1 l Z a0 hw z sf t h0 n0 hO hG Fc) e0 Et (by rw [hml]; rfl) (lenOf own_pd61835 rfl) rfl (hb hby d10_1) (W := 0) (Nat.le_of_eq rfl) (by decide) ?_
  intro v1 T1 L1 X1 q1
  obtain ⟨rfl, N1q, e1⟩ := q1
  have N1 := Fr.app N0 N1q
  show own_Go p e below _ T1 (mkF m 4 #[rv t, iv 0] [(.int (1 : Int32))])
  refine og_ifN X1 hx (hb hby d10_4) (feq (by decide)).1 ?_
  refine og_aloadN X1 hx (hb hby d10_7) rfl rfl ?_
  refine og_getF X1 hx hZ hown (own_hw hw 32 rfl) Via.refl e1 Fv (hb hby d10_8) ?_
  intro T2 X2 e2
  refine og_iloadN X2 hx (hb hby d10_11) rfl ?_
  refine own_callS X2 hx hZ hown (own_hw hw 53 rfl) (own_hw hw 54 rfl) (own_hw hw 55 rfl) (own_hw hw 56 rfl) (by decide) (argsL := [(.ref b), (.int 0)]) (rest := []) (own_lca_0_2 l Z a0 hw z sf b _ _ c0 (.int c1.toInt8.toInt32) h0 n0 hO hG (own_lt hR0 m0) Ab) e2 (by rw [hml]; rfl) (lenOf own_pd27418 rfl) rfl (hb hby d10_12) (W := 0) (Nat.le_of_eq rfl) (by decide) ?_
  intro v3 T3 L3 X3 q3
  obtain ⟨rfl, N3q, e3⟩ := q3
  have N3 := Fr.app N1 N3q
  show own_Go p e below _ T3 (mkF m 15 #[rv t, iv 0] [(.int c0)])
  exact own_retI X3 hx hret hlk (hb hby d10_15) (own_nc16 c0 hR0) (by simp) (by decide) (by decide) (⟨rfl, N3, e3⟩)
theorem own_chr2 (l : Launch) (Z : State) (a0 : Array Value) (hw : own_W a0 Z) (z : Int32) (sf : Value) (t b : Addr) (kb : ClassId) (dv : Value) (c0 c1 NN cd : Int32) (vs : List Value) (h0 : Heap) (n0 : Nat) (hO : Old Z n0 h0) (hG : own_Gs Z z sf) (hU : own_Us Z) (hR0 : own_R c0) (hK : own_K2 c0 c1 NN vs cd) (Et : own_E Z h0 t) (Fv : own_V Z h0 t b) (Fc : own_Cd Z h0 t cd) (Ab : Arv Z h0 b kb .byte NN vs dv) :
    own_Met l Z (⟨"java/lang/String", "charAt", "(I)C"⟩ : MethodName) jdk_42_method_56_code 2 (some .char) own_r_own_chU1 #[.ref t, .int 0] h0 (own_Qv (some (.int c0)) h0 n0) := by
  rcases hK with ⟨m0, -, rfl, rfl, rfl⟩ | ⟨-, rfl, rfl, rfl⟩
  · exact own_chL2 l Z a0 hw z sf t b kb dv c0 c1 h0 n0 hO hG hR0 m0 Et Fv Fc Ab
  · exact own_chU2 l Z a0 hw z sf t b kb dv c0 c1 h0 n0 hO hG hU hR0 Et Fv Fc Ab
def own_r_own_lca_0_3 : Room := { frames := 2, cells := 0, slots := 0, locals := 27 }
theorem own_lca_0_3 (l : Launch) (Z : State) (a0 : Array Value) (hw : own_W a0 Z) (z : Int32) (sf : Value) (b : Addr) (kb : ClassId) (dv : Value) (ch : Int32) (v1 v2 : Value) (h0 : Heap) (n0 : Nat) (hO : Old Z n0 h0) (hG : own_Gs Z z sf) (hc : ¬ ch < 0 ∧ ¬ (255 : Int32) < ch) (Ab : Arv Z h0 b kb .byte 3 [(.int ch.toInt8.toInt32), v1, v2] dv) :
    own_Met l Z (⟨"java/lang/StringLatin1", "charAt", "([BI)C"⟩ : MethodName) jdk_43_method_2_code 2 (some .char) own_r_own_lca_0_3 #[(.ref b), (.int 0)] h0 (own_Qv (some (.int ch)) h0 n0) := by
  refine own_body (by decide +kernel) ?_
  intro p e s m below meth c T0 X0 hx hZ hby hml hown hnm hret hlk e0
  have N0 := Fr.nil n0
  refine own_cast (own_frame (L := [rv b, iv 0]) (ls := #[rv b, iv 0]) rfl rfl) ?_
  obtain ⟨SC, hz, SF, rf⟩ := id hG
  refine og_iloadN X0 hx (hb hby d12_0) rfl ?_
  refine og_aloadN X0 hx (hb hby d12_1) rfl rfl ?_
  refine own_len X0 hx hZ e0 Ab (hb hby d12_2) ?_
  show own_Go p e below _ T0 (mkF m 3 #[rv b, iv 0] [(.int 3), (.int 0)])
  refine own_callS X0 hx hZ hown (own_hw hw 57 rfl) (own_hw hw 58 rfl) (own_hw hw 6 rfl) (own_hw hw 59 rfl) (by decide) (argsL := [(.int 0), (.int 3)]) (rest := []) (own_sck l Z a0 hw z sf 0 3 h0 n0 hO hG (by decide) (by decide)) e0 (by rw [hml]; rfl) (lenOf own_pd97226 rfl) rfl (hb hby d12_3) (W := 0) (Nat.le_of_eq rfl) (by decide) ?_
  intro v1 T1 L1 X1 q1
  obtain ⟨rfl, N1q, e1⟩ := q1
  have N1 := Fr.app N0 N1q
  show own_Go p e below _ T1 (mkF m 6 #[rv b, iv 0] [])
  refine og_aloadN X1 hx (hb hby d12_6) rfl rfl ?_
  refine og_iloadN X1 hx (hb hby d12_7) rfl ?_
  refine own_ldB X1 hx hZ e1 Ab ⟨by decide, by decide⟩ rfl (hb hby d12_8) ?_
  show own_Go p e below _ T1 (mkF m 9 #[rv b, iv 0] [(.int ch.toInt8.toInt32)])
  refine og_sipush X1 hx (hb hby d12_9) ?_
  refine og_iand X1 hx (hb hby d12_12) ?_
  show own_Go p e below _ T1 (mkF m 13 #[rv b, iv 0] [(.int (ch.toInt8.toInt32 &&& 255))])
  rw [own_rt ch hc]
  show own_Go p e below _ T1 (mkF m 13 #[rv b, iv 0] [(.int ch)])
  refine own_go (fun t k => XS.i2c X1.here hx rfl (hb hby d12_13) rfl k) ?_
  show own_Go p e below _ T1 (mkF m 14 #[rv b, iv 0] [(.int (ch.toUInt32.toUInt16.toUInt32.toInt32))])
  rw [own_ic ch hc]
  show own_Go p e below _ T1 (mkF m 14 #[rv b, iv 0] [(.int ch)])
  exact own_retI X1 hx hret hlk (hb hby d12_14) (own_nc ch hc) (by simp) (by decide) (by decide) (⟨rfl, N1, e1⟩)
theorem own_chL3 (l : Launch) (Z : State) (a0 : Array Value) (hw : own_W a0 Z) (z : Int32) (sf : Value) (t b : Addr) (kb : ClassId) (dv : Value) (c0 c1 c2 : Int32) (h0 : Heap) (n0 : Nat) (hO : Old Z n0 h0) (hG : own_Gs Z z sf) (hR0 : own_R c0) (m0 : ¬ (255 : Int32) < c0) (Et : own_E Z h0 t) (Fv : own_V Z h0 t b) (Fc : own_C Z h0 t) (Ab : Arv Z h0 b kb .byte 3 [(.int c0.toInt8.toInt32), (.int c1.toInt8.toInt32), (.int c2.toInt8.toInt32)] dv) :
    own_Met l Z (⟨"java/lang/String", "charAt", "(I)C"⟩ : MethodName) jdk_42_method_56_code 2 (some .char) own_r_own_chU1 #[(.ref t), (.int 0)] h0 (own_Qv (some (.int c0)) h0 n0) := by
  refine own_body (by decide +kernel) ?_
  intro p e s m below meth c T0 X0 hx hZ hby hml hown hnm hret hlk e0
  have N0 := Fr.nil n0
  refine own_cast (own_frame (L := [rv t, iv 0]) (ls := #[rv t, iv 0]) rfl rfl) ?_
  obtain ⟨SC, hz, SF, rf⟩ := id hG
  refine og_aloadN X0 hx (hb hby d10_0) rfl rfl ?_
  refine own_callV X0 hx hZ hown (own_hw hw 48 rfl) (own_hw hw 49 rfl) (notFace_of_selects (args := #[]) (mvT hZ (own_hw hw 51 rfl))) (own_hw hw 51 rfl) (own_hw hw 50 rfl) (own_hw hw 52 rfl) (own_hw hw 6 rfl) (by decide) (b := t) (argsL := []) (rest := []) (own_isl1 l Z a0 hw z sf t h0 n0 hO hG Fc) e0 Et (by rw [hml]; rfl) (lenOf own_pd61835 rfl) rfl (hb hby d10_1) (W := 0) (Nat.le_of_eq rfl) (by decide) ?_
  intro v1 T1 L1 X1 q1
  obtain ⟨rfl, N1q, e1⟩ := q1
  have N1 := Fr.app N0 N1q
  show own_Go p e below _ T1 (mkF m 4 #[rv t, iv 0] [(.int (1 : Int32))])
  refine og_ifN X1 hx (hb hby d10_4) (feq (by decide)).1 ?_
  refine og_aloadN X1 hx (hb hby d10_7) rfl rfl ?_
  refine og_getF X1 hx hZ hown (own_hw hw 32 rfl) Via.refl e1 Fv (hb hby d10_8) ?_
  intro T2 X2 e2
  refine og_iloadN X2 hx (hb hby d10_11) rfl ?_
  refine own_callS X2 hx hZ hown (own_hw hw 53 rfl) (own_hw hw 54 rfl) (own_hw hw 55 rfl) (own_hw hw 56 rfl) (by decide) (argsL := [(.ref b), (.int 0)]) (rest := []) (own_lca_0_3 l Z a0 hw z sf b _ _ c0 (.int c1.toInt8.toInt32) (.int c2.toInt8.toInt32) h0 n0 hO hG (own_lt hR0 m0) Ab) e2 (by rw [hml]; rfl) (lenOf own_pd27418 rfl) rfl (hb hby d10_12) (W := 0) (Nat.le_of_eq rfl) (by decide) ?_
  intro v3 T3 L3 X3 q3
  obtain ⟨rfl, N3q, e3⟩ := q3
  have N3 := Fr.app N1 N3q
  show own_Go p e below _ T3 (mkF m 15 #[rv t, iv 0] [(.int c0)])
  exact own_retI X3 hx hret hlk (hb hby d10_15) (own_nc16 c0 hR0) (by simp) (by decide) (by decide) (⟨rfl, N3, e3⟩)
theorem own_chr3 (l : Launch) (Z : State) (a0 : Array Value) (hw : own_W a0 Z) (z : Int32) (sf : Value) (t b : Addr) (kb : ClassId) (dv : Value) (c0 c1 c2 NN cd : Int32) (vs : List Value) (h0 : Heap) (n0 : Nat) (hO : Old Z n0 h0) (hG : own_Gs Z z sf) (hU : own_Us Z) (hR0 : own_R c0) (hK : own_K3 c0 c1 c2 NN vs cd) (Et : own_E Z h0 t) (Fv : own_V Z h0 t b) (Fc : own_Cd Z h0 t cd) (Ab : Arv Z h0 b kb .byte NN vs dv) :
    own_Met l Z (⟨"java/lang/String", "charAt", "(I)C"⟩ : MethodName) jdk_42_method_56_code 2 (some .char) own_r_own_chU1 #[.ref t, .int 0] h0 (own_Qv (some (.int c0)) h0 n0) := by
  rcases hK with ⟨m0, -, -, rfl, rfl, rfl⟩ | ⟨-, rfl, rfl, rfl⟩
  · exact own_chL3 l Z a0 hw z sf t b kb dv c0 c1 c2 h0 n0 hO hG hR0 m0 Et Fv Fc Ab
  · exact own_chU3 l Z a0 hw z sf t b kb dv c0 c1 c2 h0 n0 hO hG hU hR0 Et Fv Fc Ab
theorem d36_0 : decode jdk_41_method_13_code 0 = .ok (.iload_n 2, 1) := by decide +kernel
theorem d36_1 : decode jdk_41_method_13_code 1 = .ok (.iload_n 0, 1) := by decide +kernel
theorem d36_2 : decode jdk_41_method_13_code 2 = .ok (.ior, 1) := by decide +kernel
theorem d36_3 : decode jdk_41_method_13_code 3 = .ok (.iload_n 1, 1) := by decide +kernel
theorem d36_4 : decode jdk_41_method_13_code 4 = .ok (.ior, 1) := by decide +kernel
theorem d36_5 : decode jdk_41_method_13_code 5 = .ok (.ifCond .lt 10, 3) := by decide +kernel
theorem d36_8 : decode jdk_41_method_13_code 8 = .ok (.iload_n 1, 1) := by decide +kernel
theorem d36_9 : decode jdk_41_method_13_code 9 = .ok (.iload_n 2, 1) := by decide +kernel
theorem d36_10 : decode jdk_41_method_13_code 10 = .ok (.iload_n 0, 1) := by decide +kernel
theorem d36_11 : decode jdk_41_method_13_code 11 = .ok (.isub, 1) := by decide +kernel
theorem d36_12 : decode jdk_41_method_13_code 12 = .ok (.if_icmp .le 11, 3) := by decide +kernel
theorem d36_23 : decode jdk_41_method_13_code 23 = .ok (.iload_n 0, 1) := by decide +kernel
theorem d36_24 : decode jdk_41_method_13_code 24 = .ok (.ireturn, 1) := by decide +kernel
def own_r_own_cfs2 : Room := { frames := 0, cells := 0, slots := 0, locals := 0 }
theorem own_cfs2 (l : Launch) (Z : State) (a0 : Array Value) (hw : own_W a0 Z) (sf : Value) (h0 : Heap) (n0 : Nat) (rf : sf.isRef = true) :
    own_Met l Z (⟨"jdk/internal/util/Preconditions", "checkFromIndexSize", "(IIILjava/util/function/BiFunction;)I"⟩ : MethodName) jdk_41_method_13_code 4 (some .int) own_r_own_cfs2 #[(.int 1), (.int 2), (.int 3), sf] h0 (own_Qv (some (.int 1)) h0 n0) := by
  refine own_body (by decide +kernel) ?_
  intro p e s m below meth c T0 X0 hx hZ hby hml hown hnm hret hlk e0
  have N0 := Fr.nil n0
  refine own_cast (own_frame (L := [iv 1, iv 2, iv 3, .val sf]) (ls := #[iv 1, iv 2, iv 3, .val sf]) (congrArg (fun q => iv 1 :: iv 2 :: iv 3 :: q) (own_laid1 rf)) rfl) ?_
  refine og_iloadN X0 hx (hb hby d36_0) rfl ?_
  refine og_iloadN X0 hx (hb hby d36_1) rfl ?_
  refine og_ior X0 hx (hb hby d36_2) ?_
  refine og_iloadN X0 hx (hb hby d36_3) rfl ?_
  refine og_ior X0 hx (hb hby d36_4) ?_
  show own_Go p e below _ T0 (mkF m 5 #[iv 1, iv 2, iv 3, .val sf] [(.int 3)])
  refine og_ifN X0 hx (hb hby d36_5) (flt (by decide)).1 ?_
  refine og_iloadN X0 hx (hb hby d36_8) rfl ?_
  refine og_iloadN X0 hx (hb hby d36_9) rfl ?_
  refine og_iloadN X0 hx (hb hby d36_10) rfl ?_
  refine og_isub X0 hx (hb hby d36_11) ?_
  show own_Go p e below _ T0 (mkF m 12 #[iv 1, iv 2, iv 3, .val sf] [(.int 2), (.int 2)])
  refine og_icY X0 hx 23 (hb hby d36_12) (flt (by decide)).2.2.2 (by decide) (by decide) ?_
  refine og_iloadN X0 hx (hb hby d36_23) rfl ?_
  exact own_retI X0 hx hret hlk (hb hby d36_24) rfl (by simp) (by decide) (by decide) (⟨rfl, N0, e0⟩)
theorem d35_0 : decode jdk_42_method_157_code 0 = .ok (.iload_n 0, 1) := by decide +kernel
theorem d35_1 : decode jdk_42_method_157_code 1 = .ok (.iload_n 1, 1) := by decide +kernel
theorem d35_2 : decode jdk_42_method_157_code 2 = .ok (.iload_n 2, 1) := by decide +kernel
theorem d35_3 : decode jdk_42_method_157_code 3 = .ok (.getstatic 1053, 3) := by decide +kernel
theorem d35_6 : decode jdk_42_method_157_code 6 = .ok (.invokestatic 1065, 3) := by decide +kernel
theorem d35_9 : decode jdk_42_method_157_code 9 = .ok (.ireturn, 1) := by decide +kernel
theorem own_pd49920 : parseMethodDescriptor "(IIILjava/util/function/BiFunction;)I" = some ⟨[.int, .int, .int, (.object "java/util/function/BiFunction")], some .int⟩ := by decide +kernel
def own_r_own_sbo2 : Room := { frames := 1, cells := 0, slots := 0, locals := 15 }
theorem own_sbo2 (l : Launch) (Z : State) (a0 : Array Value) (hw : own_W a0 Z) (z : Int32) (sf : Value) (h0 : Heap) (n0 : Nat) (hO : Old Z n0 h0) (hG : own_Gs Z z sf) :
    own_Met l Z (⟨"java/lang/String", "checkBoundsOffCount", "(III)I"⟩ : MethodName) jdk_42_method_157_code 3 (some .int) own_r_own_sbo2 #[(.int 1), (.int 2), (.int 3)] h0 (own_Qv (some (.int 1)) h0 n0) := by
  refine own_body (by decide +kernel) ?_
  intro p e s m below meth c T0 X0 hx hZ hby hml hown hnm hret hlk e0
  have N0 := Fr.nil n0
  refine own_cast (own_frame (L := [iv 1, iv 2, iv 3]) (ls := #[iv 1, iv 2, iv 3]) rfl rfl) ?_
  obtain ⟨SC, hz, SF, rf⟩ := id hG
  refine og_iloadN X0 hx (hb hby d35_0) rfl ?_
  refine og_iloadN X0 hx (hb hby d35_1) rfl ?_
  refine og_iloadN X0 hx (hb hby d35_2) rfl ?_
  refine og_getS X0 hx hZ hown (own_hw hw 60 rfl) Via.refl e0 (SF.ext hO.2) (hb hby d35_3) ?_
  intro T1 X1 e1
  show own_Go p e below _ T1 (mkF m 6 #[iv 1, iv 2, iv 3] [sf, (.int 3), (.int 2), (.int 1)])
  refine own_callS X1 hx hZ hown (own_hw hw 150 rfl) (own_hw hw 151 rfl) (own_hw hw 61 rfl) (own_hw hw 152 rfl) (by decide) (argsL := [(.int 1), (.int 2), (.int 3), sf]) (rest := []) (own_cfs2 l Z a0 hw sf h0 n0 rf) e1 (by rw [hml]; rfl) (lenOf own_pd49920 rfl) rfl (hb hby d35_6) (W := 0) (Nat.le_of_eq rfl) (by decide) ?_
  intro v2 T2 L2 X2 q2
  obtain ⟨rfl, N2q, e2⟩ := q2
  have N2 := Fr.app N0 N2q
  show own_Go p e below _ T2 (mkF m 9 #[iv 1, iv 2, iv 3] [(.int 1)])
  exact own_retI X2 hx hret hlk (hb hby d35_9) rfl (by simp) (by decide) (by decide) (⟨rfl, N2, e2⟩)
theorem d34_0 : decode jdk_52_method_94_code 0 = .ok (.iload_n 0, 1) := by decide +kernel
theorem d34_1 : decode jdk_52_method_94_code 1 = .ok (.iload_n 1, 1) := by decide +kernel
theorem d34_2 : decode jdk_52_method_94_code 2 = .ok (.aload_n 2, 1) := by decide +kernel
theorem d34_3 : decode jdk_52_method_94_code 3 = .ok (.invokestatic 48, 3) := by decide +kernel
theorem d34_6 : decode jdk_52_method_94_code 6 = .ok (.invokestatic 419, 3) := by decide +kernel
theorem d34_9 : decode jdk_52_method_94_code 9 = .ok (.pop, 1) := by decide +kernel
theorem d34_10 : decode jdk_52_method_94_code 10 = .ok (.return_, 1) := by decide +kernel
theorem own_pd86983 : parseMethodDescriptor "(III)I" = some ⟨[.int, .int, .int], some .int⟩ := by decide +kernel
def own_r_own_ubo2 : Room := { frames := 2, cells := 0, slots := 0, locals := 29 }
theorem own_ubo2 (l : Launch) (Z : State) (a0 : Array Value) (hw : own_W a0 Z) (z : Int32) (sf : Value) (b : Addr) (kb : ClassId) (dv : Value) (c0 c1 c2 : Int32) (h0 : Heap) (n0 : Nat) (hO : Old Z n0 h0) (hG : own_Gs Z z sf) (Ab : Arv Z h0 b kb .byte 6 [(.int (own_lo c0)), (.int (own_hi c0)), (.int (own_lo c1)), (.int (own_hi c1)), (.int (own_lo c2)), (.int (own_hi c2))] dv) :
    own_Met l Z (⟨"java/lang/StringUTF16", "checkBoundsOffCount", "(II[B)V"⟩ : MethodName) jdk_52_method_94_code 3 none own_r_own_ubo2 #[(.int 1), (.int 2), (.ref b)] h0 (own_Qv none h0 n0) := by
  refine own_body (by decide +kernel) ?_
  intro p e s m below meth c T0 X0 hx hZ hby hml hown hnm hret hlk e0
  have N0 := Fr.nil n0
  refine own_cast (own_frame (L := [iv 1, iv 2, rv b]) (ls := #[iv 1, iv 2, rv b]) rfl rfl) ?_
  obtain ⟨SC, hz, SF, rf⟩ := id hG
  refine og_iloadN X0 hx (hb hby d34_0) rfl ?_
  refine og_iloadN X0 hx (hb hby d34_1) rfl ?_
  refine og_aloadN X0 hx (hb hby d34_2) rfl rfl ?_
  refine own_callS X0 hx hZ hown (own_hw hw 104 rfl) (own_hw hw 105 rfl) (own_hw hw 21 rfl) (own_hw hw 106 rfl) (by decide) (argsL := [(.ref b)]) (rest := [(.int 2), (.int 1)]) (own_ul3 l Z a0 hw b _ _ c0 c1 c2 h0 n0 Ab) e0 (by rw [hml]; rfl) (lenOf own_pd17994 rfl) rfl (hb hby d34_3) (W := 2) (Nat.le_of_eq rfl) (by decide) ?_
  intro v1 T1 L1 X1 q1
  obtain ⟨rfl, N1q, e1⟩ := q1
  have N1 := Fr.app N0 N1q
  show own_Go p e below _ T1 (mkF m 6 #[iv 1, iv 2, rv b] [(.int 3), (.int 2), (.int 1)])
  refine own_callS X1 hx hZ hown (own_hw hw 147 rfl) (own_hw hw 148 rfl) (own_hw hw 6 rfl) (own_hw hw 149 rfl) (by decide) (argsL := [(.int 1), (.int 2), (.int 3)]) (rest := []) (own_sbo2 l Z a0 hw z sf h0 n0 hO hG) e1 (by rw [hml]; rfl) (lenOf own_pd86983 rfl) rfl (hb hby d34_6) (W := 0) (Nat.le_of_eq rfl) (by decide) ?_
  intro v2 T2 L2 X2 q2
  obtain ⟨rfl, N2q, e2⟩ := q2
  have N2 := Fr.app N1 N2q
  show own_Go p e below _ T2 (mkF m 9 #[iv 1, iv 2, rv b] [(.int 1)])
  refine og_pop X2 hx (hb hby d34_9) rfl ?_
  exact own_retV X2 hx hret hlk (hb hby d34_10) (by decide) (by decide) (⟨rfl, N2, e2⟩)
theorem d33_0 : decode jdk_52_method_22_code 0 = .ok (.iload_n 1, 1) := by decide +kernel
theorem d33_1 : decode jdk_52_method_22_code 1 = .ok (.iload 4, 2) := by decide +kernel
theorem d33_3 : decode jdk_52_method_22_code 3 = .ok (.aload_n 0, 1) := by decide +kernel
theorem d33_4 : decode jdk_52_method_22_code 4 = .ok (.invokestatic 173, 3) := by decide +kernel
theorem d33_7 : decode jdk_52_method_22_code 7 = .ok (.iconst 0, 1) := by decide +kernel
theorem d33_8 : decode jdk_52_method_22_code 8 = .ok (.istore 5, 2) := by decide +kernel
theorem d33_10 : decode jdk_52_method_22_code 10 = .ok (.iload 5, 2) := by decide +kernel
theorem d33_12 : decode jdk_52_method_22_code 12 = .ok (.iload 4, 2) := by decide +kernel
theorem d33_14 : decode jdk_52_method_22_code 14 = .ok (.if_icmp .ge 39, 3) := by decide +kernel
theorem d33_17 : decode jdk_52_method_22_code 17 = .ok (.aload_n 0, 1) := by decide +kernel
theorem d33_18 : decode jdk_52_method_22_code 18 = .ok (.iload_n 1, 1) := by decide +kernel
theorem d33_19 : decode jdk_52_method_22_code 19 = .ok (.invokestatic 71, 3) := by decide +kernel
theorem d33_22 : decode jdk_52_method_22_code 22 = .ok (.istore 6, 2) := by decide +kernel
theorem d33_24 : decode jdk_52_method_22_code 24 = .ok (.iload 6, 2) := by decide +kernel
theorem d33_26 : decode jdk_52_method_22_code 26 = .ok (.sipush 255, 3) := by decide +kernel
theorem d33_29 : decode jdk_52_method_22_code 29 = .ok (.if_icmp .le 6, 3) := by decide +kernel
theorem d33_32 : decode jdk_52_method_22_code 32 = .ok (.iload 5, 2) := by decide +kernel
theorem d33_34 : decode jdk_52_method_22_code 34 = .ok (.ireturn, 1) := by decide +kernel
theorem own_pd30302 : parseMethodDescriptor "(II[B)V" = some ⟨[.int, .int, (.array .byte)], none⟩ := by decide +kernel
def own_r_own_dm_2_0 : Room := { frames := 3, cells := 0, slots := 0, locals := 43 }
theorem own_dm_2_0 (l : Launch) (Z : State) (a0 : Array Value) (hw : own_W a0 Z) (z : Int32) (sf : Value) (b d : Addr) (kb kd : ClassId) (dv : Value) (c0 c1 c2 : Int32) (h0 : Heap) (n0 : Nat) (hO : Old Z n0 h0) (hG : own_Gs Z z sf) (hU : own_Us Z) (hR1 : own_R c1) (hR2 : own_R c2) (gd : n0 ≤ d) (nbd : b ≠ d) (m1 : (255 : Int32) < c1) (Ab : Arv Z h0 b kb .byte 6 [(.int (own_lo c0)), (.int (own_hi c0)), (.int (own_lo c1)), (.int (own_hi c1)), (.int (own_lo c2)), (.int (own_hi c2))] dv) (Ad : Arv Z h0 d kd .byte 2 [(.int (0 : Int32)), (.int (0 : Int32))] (.int (0 : Int32))) :
    own_Met l Z (⟨"java/lang/StringUTF16", "compress", "([BI[BII)I"⟩ : MethodName) jdk_52_method_22_code 7 (some .int) own_r_own_dm_2_0 #[(.ref b), (.int 1), (.ref d), (.int 0), (.int 2)] h0 (own_Qc Z d kd 0 2 [(.int (0 : Int32)), (.int (0 : Int32))] h0 n0) := by
  refine own_body (by decide +kernel) ?_
  intro p e s m below meth c T0 X0 hx hZ hby hml hown hnm hret hlk e0
  have N0 := Fr.nil n0
  refine own_cast (own_frame (L := [rv b, iv 1, rv d, iv 0, iv 2]) (ls := #[rv b, iv 1, rv d, iv 0, iv 2, .unset, .unset]) rfl rfl) ?_
  obtain ⟨SC, hz, SF, rf⟩ := id hG
  refine og_iloadN X0 hx (hb hby d33_0) rfl ?_
  refine og_iload X0 hx (hb hby d33_1) rfl ?_
  refine og_aloadN X0 hx (hb hby d33_3) rfl rfl ?_
  refine own_callS X0 hx hZ hown (own_hw hw 144 rfl) (own_hw hw 145 rfl) (own_hw hw 21 rfl) (own_hw hw 146 rfl) (by decide) (argsL := [(.int 1), (.int 2), (.ref b)]) (rest := []) (own_ubo2 l Z a0 hw z sf b _ _ c0 c1 c2 h0 n0 hO hG Ab) e0 (by rw [hml]; rfl) (lenOf own_pd30302 rfl) rfl (hb hby d33_4) (W := 0) (Nat.le_of_eq rfl) (by decide) ?_
  intro v1 T1 L1 X1 q1
  obtain ⟨rfl, N1q, e1⟩ := q1
  have N1 := Fr.app N0 N1q
  show own_Go p e below _ T1 (mkF m 7 #[rv b, iv 1, rv d, iv 0, iv 2, .unset, .unset] [])
  refine og_iconst X1 hx (hb hby d33_7) ?_
  refine og_istore X1 hx #[rv b, iv 1, rv d, iv 0, iv 2, iv 0, .unset] (hb hby d33_8) rfl ?_
  refine og_iload X1 hx (hb hby d33_10) rfl ?_
  refine og_iload X1 hx (hb hby d33_12) rfl ?_
  refine og_icN X1 hx (hb hby d33_14) (tlt (by decide)).2.1 ?_
  refine og_aloadN X1 hx (hb hby d33_17) rfl rfl ?_
  refine og_iloadN X1 hx (hb hby d33_18) rfl ?_
  refine own_callS X1 hx hZ hown (own_hw hw 95 rfl) (own_hw hw 96 rfl) (own_hw hw 21 rfl) (own_hw hw 97 rfl) (by decide) (argsL := [(.ref b), (.int 1)]) (rest := []) (own_gt_1_3 l Z a0 hw b _ _ c1 (.int (own_lo c0)) (.int (own_hi c0)) (.int (own_lo c2)) (.int (own_hi c2)) h0 n0 hO hU hR1 Ab) e1 (by rw [hml]; rfl) (lenOf own_pd27418 rfl) rfl (hb hby d33_19) (W := 0) (Nat.le_of_eq rfl) (by decide) ?_
  intro v2 T2 L2 X2 q2
  obtain ⟨rfl, N2q, e2⟩ := q2
  have N2 := Fr.app N1 N2q
  show own_Go p e below _ T2 (mkF m 22 #[rv b, iv 1, rv d, iv 0, iv 2, iv 0, .unset] [(.int c1)])
  refine og_istore X2 hx #[rv b, iv 1, rv d, iv 0, iv 2, iv 0, iv c1] (hb hby d33_22) rfl ?_
  refine og_iload X2 hx (hb hby d33_24) rfl ?_
  refine og_sipush X2 hx (hb hby d33_26) ?_
  refine og_icN X2 hx (hb hby d33_29) (tlt m1).2.2.2 ?_
  refine og_iload X2 hx (hb hby d33_32) rfl ?_
  exact own_retI X2 hx hret hlk (hb hby d33_34) rfl (by simp) (by decide) (by decide) (by rw [e2]; exact ⟨rfl, N2, (Keep.refl h0 [d]), Ad⟩)
theorem d33_35 : decode jdk_52_method_22_code 35 = .ok (.aload_n 2, 1) := by decide +kernel
theorem d33_36 : decode jdk_52_method_22_code 36 = .ok (.iload_n 3, 1) := by decide +kernel
theorem d33_37 : decode jdk_52_method_22_code 37 = .ok (.iload 6, 2) := by decide +kernel
theorem d33_39 : decode jdk_52_method_22_code 39 = .ok (.i2b, 1) := by decide +kernel
theorem d33_40 : decode jdk_52_method_22_code 40 = .ok (.bastore, 1) := by decide +kernel
theorem d33_41 : decode jdk_52_method_22_code 41 = .ok (.iinc 1 1, 3) := by decide +kernel
theorem d33_44 : decode jdk_52_method_22_code 44 = .ok (.iinc 3 1, 3) := by decide +kernel
theorem d33_47 : decode jdk_52_method_22_code 47 = .ok (.iinc 5 1, 3) := by decide +kernel
theorem d33_50 : decode jdk_52_method_22_code 50 = .ok (.goto (-40), 3) := by decide +kernel
theorem own_dm_2_1 (l : Launch) (Z : State) (a0 : Array Value) (hw : own_W a0 Z) (z : Int32) (sf : Value) (b d : Addr) (kb kd : ClassId) (dv : Value) (c0 c1 c2 : Int32) (h0 : Heap) (n0 : Nat) (hO : Old Z n0 h0) (hG : own_Gs Z z sf) (hU : own_Us Z) (hR1 : own_R c1) (hR2 : own_R c2) (gd : n0 ≤ d) (nbd : b ≠ d) (m1 : ¬ (255 : Int32) < c1) (m2 : (255 : Int32) < c2) (Ab : Arv Z h0 b kb .byte 6 [(.int (own_lo c0)), (.int (own_hi c0)), (.int (own_lo c1)), (.int (own_hi c1)), (.int (own_lo c2)), (.int (own_hi c2))] dv) (Ad : Arv Z h0 d kd .byte 2 [(.int (0 : Int32)), (.int (0 : Int32))] (.int (0 : Int32))) :
    own_Met l Z (⟨"java/lang/StringUTF16", "compress", "([BI[BII)I"⟩ : MethodName) jdk_52_method_22_code 7 (some .int) own_r_own_dm_2_0 #[(.ref b), (.int 1), (.ref d), (.int 0), (.int 2)] h0 (own_Qc Z d kd 1 2 [(.int c1.toInt8.toInt32), (.int (0 : Int32))] h0 n0) := by
  refine own_body (by decide +kernel) ?_
  intro p e s m below meth c T0 X0 hx hZ hby hml hown hnm hret hlk e0
  have N0 := Fr.nil n0
  refine own_cast (own_frame (L := [rv b, iv 1, rv d, iv 0, iv 2]) (ls := #[rv b, iv 1, rv d, iv 0, iv 2, .unset, .unset]) rfl rfl) ?_
  obtain ⟨SC, hz, SF, rf⟩ := id hG
  refine og_iloadN X0 hx (hb hby d33_0) rfl ?_
  refine og_iload X0 hx (hb hby d33_1) rfl ?_
  refine og_aloadN X0 hx (hb hby d33_3) rfl rfl ?_
  refine own_callS X0 hx hZ hown (own_hw hw 144 rfl) (own_hw hw 145 rfl) (own_hw hw 21 rfl) (own_hw hw 146 rfl) (by decide) (argsL := [(.int 1), (.int 2), (.ref b)]) (rest := []) (own_ubo2 l Z a0 hw z sf b _ _ c0 c1 c2 h0 n0 hO hG Ab) e0 (by rw [hml]; rfl) (lenOf own_pd30302 rfl) rfl (hb hby d33_4) (W := 0) (Nat.le_of_eq rfl) (by decide) ?_
  intro v1 T1 L1 X1 q1
  obtain ⟨rfl, N1q, e1⟩ := q1
  have N1 := Fr.app N0 N1q
  show own_Go p e below _ T1 (mkF m 7 #[rv b, iv 1, rv d, iv 0, iv 2, .unset, .unset] [])
  refine og_iconst X1 hx (hb hby d33_7) ?_
  refine og_istore X1 hx #[rv b, iv 1, rv d, iv 0, iv 2, iv 0, .unset] (hb hby d33_8) rfl ?_
  refine og_iload X1 hx (hb hby d33_10) rfl ?_
  refine og_iload X1 hx (hb hby d33_12) rfl ?_
  refine og_icN X1 hx (hb hby d33_14) (tlt (by decide)).2.1 ?_
  refine og_aloadN X1 hx (hb hby d33_17) rfl rfl ?_
  refine og_iloadN X1 hx (hb hby d33_18) rfl ?_
  refine own_callS X1 hx hZ hown (own_hw hw 95 rfl) (own_hw hw 96 rfl) (own_hw hw 21 rfl) (own_hw hw 97 rfl) (by decide) (argsL := [(.ref b), (.int 1)]) (rest := []) (own_gt_1_3 l Z a0 hw b _ _ c1 (.int (own_lo c0)) (.int (own_hi c0)) (.int (own_lo c2)) (.int (own_hi c2)) h0 n0 hO hU hR1 Ab) e1 (by rw [hml]; rfl) (lenOf own_pd27418 rfl) rfl (hb hby d33_19) (W := 0) (Nat.le_of_eq rfl) (by decide) ?_
  intro v2 T2 L2 X2 q2
  obtain ⟨rfl, N2q, e2⟩ := q2
  have N2 := Fr.app N1 N2q
  show own_Go p e below _ T2 (mkF m 22 #[rv b, iv 1, rv d, iv 0, iv 2, iv 0, .unset] [(.int c1)])
  refine og_istore X2 hx #[rv b, iv 1, rv d, iv 0, iv 2, iv 0, iv c1] (hb hby d33_22) rfl ?_
  refine og_iload X2 hx (hb hby d33_24) rfl ?_
  refine og_sipush X2 hx (hb hby d33_26) ?_
  refine og_icY X2 hx 35 (hb hby d33_29) (flt m1).2.2.2 (by decide) (by decide) ?_
  refine og_aloadN X2 hx (hb hby d33_35) rfl rfl ?_
  refine og_iloadN X2 hx (hb hby d33_36) rfl ?_
  refine og_iload X2 hx (hb hby d33_37) rfl ?_
  refine own_go (fun t k => XS.i2b X2.here hx rfl (hb hby d33_39) rfl k) ?_
  show own_Go p e below _ T2 (mkF m 40 #[rv b, iv 1, rv d, iv 0, iv 2, iv 0, iv c1] [(.int (c1.toInt8.toInt32)), (.int 0), (.ref d)])
  refine own_stB X2 hx hZ e2 Ad ⟨by decide, by decide⟩ 0 rfl (by show 0 < 2; decide) (hb hby d33_40) ?_
  intro T3 h3 X3 e3 W3 A3
  have A_b_3 := Ab.other W3 nbd
  have O3 := hO.wr W3 gd
  have K3 := (Keep.refl h0 [d]).wr W3 (Or.inl (by simp))
  have N3 := Fr.snoc X3 N2 gd
  have A_d_3 : Arv Z h3 d kd .byte 2 [(.int c1.toInt8.toInt32), (.int (0 : Int32))] (.int (0 : Int32)) := (by have q := A3; rw [own_bb c1] at q; exact q)
  show own_Go p e below _ T3 (mkF m 41 #[rv b, iv 1, rv d, iv 0, iv 2, iv 0, iv c1] [])
  refine own_go (fun t k => XS.iinc X3.here hx rfl (hb hby d33_41) rfl (l' := #[rv b, iv 2, rv d, iv 0, iv 2, iv 0, iv c1]) rfl k) ?_
  show own_Go p e below _ T3 (mkF m 44 #[rv b, iv 2, rv d, iv 0, iv 2, iv 0, iv c1] [])
  refine own_go (fun t k => XS.iinc X3.here hx rfl (hb hby d33_44) rfl (l' := #[rv b, iv 2, rv d, iv 1, iv 2, iv 0, iv c1]) rfl k) ?_
  show own_Go p e below _ T3 (mkF m 47 #[rv b, iv 2, rv d, iv 1, iv 2, iv 0, iv c1] [])
  refine own_go (fun t k => XS.iinc X3.here hx rfl (hb hby d33_47) rfl (l' := #[rv b, iv 2, rv d, iv 1, iv 2, iv 1, iv c1]) rfl k) ?_
  show own_Go p e below _ T3 (mkF m 50 #[rv b, iv 2, rv d, iv 1, iv 2, iv 1, iv c1] [])
  refine og_goto X3 hx 10 (hb hby d33_50) (by decide) (by decide) ?_
  refine og_iload X3 hx (hb hby d33_10) rfl ?_
  refine og_iload X3 hx (hb hby d33_12) rfl ?_
  refine og_icN X3 hx (hb hby d33_14) (tlt (by decide)).2.1 ?_
  refine og_aloadN X3 hx (hb hby d33_17) rfl rfl ?_
  refine og_iloadN X3 hx (hb hby d33_18) rfl ?_
  refine own_callS X3 hx hZ hown (own_hw hw 95 rfl) (own_hw hw 96 rfl) (own_hw hw 21 rfl) (own_hw hw 97 rfl) (by decide) (argsL := [(.ref b), (.int 2)]) (rest := []) (own_gt_2_3 l Z a0 hw b _ _ c2 (.int (own_lo c0)) (.int (own_hi c0)) (.int (own_lo c1)) (.int (own_hi c1)) h3 n0 O3 hU hR2 A_b_3) e3 (by rw [hml]; rfl) (lenOf own_pd27418 rfl) rfl (hb hby d33_19) (W := 0) (Nat.le_of_eq rfl) (by decide) ?_
  intro v4 T4 L4 X4 q4
  obtain ⟨rfl, N4q, e4⟩ := q4
  have N4 := Fr.app N3 N4q
  show own_Go p e below _ T4 (mkF m 22 #[rv b, iv 2, rv d, iv 1, iv 2, iv 1, iv c1] [(.int c2)])
  refine og_istore X4 hx #[rv b, iv 2, rv d, iv 1, iv 2, iv 1, iv c2] (hb hby d33_22) rfl ?_
  refine og_iload X4 hx (hb hby d33_24) rfl ?_
  refine og_sipush X4 hx (hb hby d33_26) ?_
  refine og_icN X4 hx (hb hby d33_29) (tlt m2).2.2.2 ?_
  refine og_iload X4 hx (hb hby d33_32) rfl ?_
  exact own_retI X4 hx hret hlk (hb hby d33_34) rfl (by simp) (by decide) (by decide) (by rw [e4]; exact ⟨rfl, N4, K3, A_d_3⟩)
theorem d33_53 : decode jdk_52_method_22_code 53 = .ok (.iload 4, 2) := by decide +kernel
theorem d33_55 : decode jdk_52_method_22_code 55 = .ok (.ireturn, 1) := by decide +kernel
theorem own_dm_2_2 (l : Launch) (Z : State) (a0 : Array Value) (hw : own_W a0 Z) (z : Int32) (sf : Value) (b d : Addr) (kb kd : ClassId) (dv : Value) (c0 c1 c2 : Int32) (h0 : Heap) (n0 : Nat) (hO : Old Z n0 h0) (hG : own_Gs Z z sf) (hU : own_Us Z) (hR1 : own_R c1) (hR2 : own_R c2) (gd : n0 ≤ d) (nbd : b ≠ d) (m1 : ¬ (255 : Int32) < c1) (m2 : ¬ (255 : Int32) < c2) (Ab : Arv Z h0 b kb .byte 6 [(.int (own_lo c0)), (.int (own_hi c0)), (.int (own_lo c1)), (.int (own_hi c1)), (.int (own_lo c2)), (.int (own_hi c2))] dv) (Ad : Arv Z h0 d kd .byte 2 [(.int (0 : Int32)), (.int (0 : Int32))] (.int (0 : Int32))) :
    own_Met l Z (⟨"java/lang/StringUTF16", "compress", "([BI[BII)I"⟩ : MethodName) jdk_52_method_22_code 7 (some .int) own_r_own_dm_2_0 #[(.ref b), (.int 1), (.ref d), (.int 0), (.int 2)] h0 (own_Qc Z d kd 2 2 [(.int c1.toInt8.toInt32), (.int c2.toInt8.toInt32)] h0 n0) := by
  refine own_body (by decide +kernel) ?_
  intro p e s m below meth c T0 X0 hx hZ hby hml hown hnm hret hlk e0
  have N0 := Fr.nil n0
  refine own_cast (own_frame (L := [rv b, iv 1, rv d, iv 0, iv 2]) (ls := #[rv b, iv 1, rv d, iv 0, iv 2, .unset, .unset]) rfl rfl) ?_
  obtain ⟨SC, hz, SF, rf⟩ := id hG
  refine og_iloadN X0 hx (hb hby d33_0) rfl ?_
  refine og_iload X0 hx (hb hby d33_1) rfl ?_
  refine og_aloadN X0 hx (hb hby d33_3) rfl rfl ?_
  refine own_callS X0 hx hZ hown (own_hw hw 144 rfl) (own_hw hw 145 rfl) (own_hw hw 21 rfl) (own_hw hw 146 rfl) (by decide) (argsL := [(.int 1), (.int 2), (.ref b)]) (rest := []) (own_ubo2 l Z a0 hw z sf b _ _ c0 c1 c2 h0 n0 hO hG Ab) e0 (by rw [hml]; rfl) (lenOf own_pd30302 rfl) rfl (hb hby d33_4) (W := 0) (Nat.le_of_eq rfl) (by decide) ?_
  intro v1 T1 L1 X1 q1
  obtain ⟨rfl, N1q, e1⟩ := q1
  have N1 := Fr.app N0 N1q
  show own_Go p e below _ T1 (mkF m 7 #[rv b, iv 1, rv d, iv 0, iv 2, .unset, .unset] [])
  refine og_iconst X1 hx (hb hby d33_7) ?_
  refine og_istore X1 hx #[rv b, iv 1, rv d, iv 0, iv 2, iv 0, .unset] (hb hby d33_8) rfl ?_
  refine og_iload X1 hx (hb hby d33_10) rfl ?_
  refine og_iload X1 hx (hb hby d33_12) rfl ?_
  refine og_icN X1 hx (hb hby d33_14) (tlt (by decide)).2.1 ?_
  refine og_aloadN X1 hx (hb hby d33_17) rfl rfl ?_
  refine og_iloadN X1 hx (hb hby d33_18) rfl ?_
  refine own_callS X1 hx hZ hown (own_hw hw 95 rfl) (own_hw hw 96 rfl) (own_hw hw 21 rfl) (own_hw hw 97 rfl) (by decide) (argsL := [(.ref b), (.int 1)]) (rest := []) (own_gt_1_3 l Z a0 hw b _ _ c1 (.int (own_lo c0)) (.int (own_hi c0)) (.int (own_lo c2)) (.int (own_hi c2)) h0 n0 hO hU hR1 Ab) e1 (by rw [hml]; rfl) (lenOf own_pd27418 rfl) rfl (hb hby d33_19) (W := 0) (Nat.le_of_eq rfl) (by decide) ?_
  intro v2 T2 L2 X2 q2
  obtain ⟨rfl, N2q, e2⟩ := q2
  have N2 := Fr.app N1 N2q
  show own_Go p e below _ T2 (mkF m 22 #[rv b, iv 1, rv d, iv 0, iv 2, iv 0, .unset] [(.int c1)])
  refine og_istore X2 hx #[rv b, iv 1, rv d, iv 0, iv 2, iv 0, iv c1] (hb hby d33_22) rfl ?_
  refine og_iload X2 hx (hb hby d33_24) rfl ?_
  refine og_sipush X2 hx (hb hby d33_26) ?_
  refine og_icY X2 hx 35 (hb hby d33_29) (flt m1).2.2.2 (by decide) (by decide) ?_
  refine og_aloadN X2 hx (hb hby d33_35) rfl rfl ?_
  refine og_iloadN X2 hx (hb hby d33_36) rfl ?_
  refine og_iload X2 hx (hb hby d33_37) rfl ?_
  refine own_go (fun t k => XS.i2b X2.here hx rfl (hb hby d33_39) rfl k) ?_
  show own_Go p e below _ T2 (mkF m 40 #[rv b, iv 1, rv d, iv 0, iv 2, iv 0, iv c1] [(.int (c1.toInt8.toInt32)), (.int 0), (.ref d)])
  refine own_stB X2 hx hZ e2 Ad ⟨by decide, by decide⟩ 0 rfl (by show 0 < 2; decide) (hb hby d33_40) ?_
  intro T3 h3 X3 e3 W3 A3
  have A_b_3 := Ab.other W3 nbd
  have O3 := hO.wr W3 gd
  have K3 := (Keep.refl h0 [d]).wr W3 (Or.inl (by simp))
  have N3 := Fr.snoc X3 N2 gd
  have A_d_3 : Arv Z h3 d kd .byte 2 [(.int c1.toInt8.toInt32), (.int (0 : Int32))] (.int (0 : Int32)) := (by have q := A3; rw [own_bb c1] at q; exact q)
  show own_Go p e below _ T3 (mkF m 41 #[rv b, iv 1, rv d, iv 0, iv 2, iv 0, iv c1] [])
  refine own_go (fun t k => XS.iinc X3.here hx rfl (hb hby d33_41) rfl (l' := #[rv b, iv 2, rv d, iv 0, iv 2, iv 0, iv c1]) rfl k) ?_
  show own_Go p e below _ T3 (mkF m 44 #[rv b, iv 2, rv d, iv 0, iv 2, iv 0, iv c1] [])
  refine own_go (fun t k => XS.iinc X3.here hx rfl (hb hby d33_44) rfl (l' := #[rv b, iv 2, rv d, iv 1, iv 2, iv 0, iv c1]) rfl k) ?_
  show own_Go p e below _ T3 (mkF m 47 #[rv b, iv 2, rv d, iv 1, iv 2, iv 0, iv c1] [])
  refine own_go (fun t k => XS.iinc X3.here hx rfl (hb hby d33_47) rfl (l' := #[rv b, iv 2, rv d, iv 1, iv 2, iv 1, iv c1]) rfl k) ?_
  show own_Go p e below _ T3 (mkF m 50 #[rv b, iv 2, rv d, iv 1, iv 2, iv 1, iv c1] [])
  refine og_goto X3 hx 10 (hb hby d33_50) (by decide) (by decide) ?_
  refine og_iload X3 hx (hb hby d33_10) rfl ?_
  refine og_iload X3 hx (hb hby d33_12) rfl ?_
  refine og_icN X3 hx (hb hby d33_14) (tlt (by decide)).2.1 ?_
  refine og_aloadN X3 hx (hb hby d33_17) rfl rfl ?_
  refine og_iloadN X3 hx (hb hby d33_18) rfl ?_
  refine own_callS X3 hx hZ hown (own_hw hw 95 rfl) (own_hw hw 96 rfl) (own_hw hw 21 rfl) (own_hw hw 97 rfl) (by decide) (argsL := [(.ref b), (.int 2)]) (rest := []) (own_gt_2_3 l Z a0 hw b _ _ c2 (.int (own_lo c0)) (.int (own_hi c0)) (.int (own_lo c1)) (.int (own_hi c1)) h3 n0 O3 hU hR2 A_b_3) e3 (by rw [hml]; rfl) (lenOf own_pd27418 rfl) rfl (hb hby d33_19) (W := 0) (Nat.le_of_eq rfl) (by decide) ?_
  intro v4 T4 L4 X4 q4
  obtain ⟨rfl, N4q, e4⟩ := q4
  have N4 := Fr.app N3 N4q
  show own_Go p e below _ T4 (mkF m 22 #[rv b, iv 2, rv d, iv 1, iv 2, iv 1, iv c1] [(.int c2)])
  refine og_istore X4 hx #[rv b, iv 2, rv d, iv 1, iv 2, iv 1, iv c2] (hb hby d33_22) rfl ?_
  refine og_iload X4 hx (hb hby d33_24) rfl ?_
  refine og_sipush X4 hx (hb hby d33_26) ?_
  refine og_icY X4 hx 35 (hb hby d33_29) (flt m2).2.2.2 (by decide) (by decide) ?_
  refine og_aloadN X4 hx (hb hby d33_35) rfl rfl ?_
  refine og_iloadN X4 hx (hb hby d33_36) rfl ?_
  refine og_iload X4 hx (hb hby d33_37) rfl ?_
  refine own_go (fun t k => XS.i2b X4.here hx rfl (hb hby d33_39) rfl k) ?_
  show own_Go p e below _ T4 (mkF m 40 #[rv b, iv 2, rv d, iv 1, iv 2, iv 1, iv c2] [(.int (c2.toInt8.toInt32)), (.int 1), (.ref d)])
  refine own_stB X4 hx hZ e4 A_d_3 ⟨by decide, by decide⟩ 1 rfl (by show 1 < 2; decide) (hb hby d33_40) ?_
  intro T5 h5 X5 e5 W5 A5
  have A_b_5 := A_b_3.other W5 nbd
  have O5 := O3.wr W5 gd
  have K5 := K3.wr W5 (Or.inl (by simp))
  have N5 := Fr.snoc X5 N4 gd
  have A_d_5 : Arv Z h5 d kd .byte 2 [(.int c1.toInt8.toInt32), (.int c2.toInt8.toInt32)] (.int (0 : Int32)) := (by have q := A5; rw [own_bb c2] at q; exact q)
  show own_Go p e below _ T5 (mkF m 41 #[rv b, iv 2, rv d, iv 1, iv 2, iv 1, iv c2] [])
  refine own_go (fun t k => XS.iinc X5.here hx rfl (hb hby d33_41) rfl (l' := #[rv b, iv 3, rv d, iv 1, iv 2, iv 1, iv c2]) rfl k) ?_
  show own_Go p e below _ T5 (mkF m 44 #[rv b, iv 3, rv d, iv 1, iv 2, iv 1, iv c2] [])
  refine own_go (fun t k => XS.iinc X5.here hx rfl (hb hby d33_44) rfl (l' := #[rv b, iv 3, rv d, iv 2, iv 2, iv 1, iv c2]) rfl k) ?_
  show own_Go p e below _ T5 (mkF m 47 #[rv b, iv 3, rv d, iv 2, iv 2, iv 1, iv c2] [])
  refine own_go (fun t k => XS.iinc X5.here hx rfl (hb hby d33_47) rfl (l' := #[rv b, iv 3, rv d, iv 2, iv 2, iv 2, iv c2]) rfl k) ?_
  show own_Go p e below _ T5 (mkF m 50 #[rv b, iv 3, rv d, iv 2, iv 2, iv 2, iv c2] [])
  refine og_goto X5 hx 10 (hb hby d33_50) (by decide) (by decide) ?_
  refine og_iload X5 hx (hb hby d33_10) rfl ?_
  refine og_iload X5 hx (hb hby d33_12) rfl ?_
  refine og_icY X5 hx 53 (hb hby d33_14) (flt (by decide)).2.1 (by decide) (by decide) ?_
  refine og_iload X5 hx (hb hby d33_53) rfl ?_
  exact own_retI X5 hx hret hlk (hb hby d33_55) rfl (by simp) (by decide) (by decide) (by rw [e5]; exact ⟨rfl, N5, K5, A_d_5⟩)
theorem d39_0 : decode jdk_65_method_131_code 0 = .ok (.iload_n 1, 1) := by decide +kernel
theorem d39_1 : decode jdk_65_method_131_code 1 = .ok (.iload_n 0, 1) := by decide +kernel
theorem d39_2 : decode jdk_65_method_131_code 2 = .ok (.if_icmp .ge 35, 3) := by decide +kernel
theorem d39_37 : decode jdk_65_method_131_code 37 = .ok (.return_, 1) := by decide +kernel
def own_r_own_ckl_2_6 : Room := { frames := 0, cells := 0, slots := 0, locals := 0 }
theorem own_ckl_2_6 (l : Launch) (Z : State) (a0 : Array Value) (hw : own_W a0 Z)  (h0 : Heap) (n0 : Nat)  :
    own_Met l Z (⟨"java/util/Arrays", "checkLength", "(II)V"⟩ : MethodName) jdk_65_method_131_code 2 none own_r_own_ckl_2_6 #[(.int 2), (.int 6)] h0 (own_Qv none h0 n0) := by
  refine own_body (by decide +kernel) ?_
  intro p e s m below meth c T0 X0 hx hZ hby hml hown hnm hret hlk e0
  have N0 := Fr.nil n0
  refine own_cast (own_frame (L := [iv 2, iv 6]) (ls := #[iv 2, iv 6]) rfl rfl) ?_
  refine og_iloadN X0 hx (hb hby d39_0) rfl ?_
  refine og_iloadN X0 hx (hb hby d39_1) rfl ?_
  refine og_icY X0 hx 37 (hb hby d39_2) (flt (by decide)).2.1 (by decide) (by decide) ?_
  exact own_retV X0 hx hret hlk (hb hby d39_37) (by decide) (by decide) (⟨rfl, N0, e0⟩)
theorem d40_0 : decode jdk_29_method_69_code 0 = .ok (.iload_n 0, 1) := by decide +kernel
theorem d40_1 : decode jdk_29_method_69_code 1 = .ok (.iload_n 1, 1) := by decide +kernel
theorem d40_2 : decode jdk_29_method_69_code 2 = .ok (.if_icmp .gt 7, 3) := by decide +kernel
theorem d40_5 : decode jdk_29_method_69_code 5 = .ok (.iload_n 0, 1) := by decide +kernel
theorem d40_6 : decode jdk_29_method_69_code 6 = .ok (.goto 4, 3) := by decide +kernel
theorem d40_10 : decode jdk_29_method_69_code 10 = .ok (.ireturn, 1) := by decide +kernel
def own_r_own_min_4_4 : Room := { frames := 0, cells := 0, slots := 0, locals := 0 }
theorem own_min_4_4 (l : Launch) (Z : State) (a0 : Array Value) (hw : own_W a0 Z)  (h0 : Heap) (n0 : Nat)  :
    own_Met l Z (⟨"java/lang/Math", "min", "(II)I"⟩ : MethodName) jdk_29_method_69_code 2 (some .int) own_r_own_min_4_4 #[(.int 4), (.int 4)] h0 (own_Qv (some (.int (4))) h0 n0) := by
  refine own_body (by decide +kernel) ?_
  intro p e s m below meth c T0 X0 hx hZ hby hml hown hnm hret hlk e0
  have N0 := Fr.nil n0
  refine own_cast (own_frame (L := [iv 4, iv 4]) (ls := #[iv 4, iv 4]) rfl rfl) ?_
  refine og_iloadN X0 hx (hb hby d40_0) rfl ?_
  refine og_iloadN X0 hx (hb hby d40_1) rfl ?_
  refine og_icN X0 hx (hb hby d40_2) (flt (by decide)).2.2.1 ?_
  refine og_iloadN X0 hx (hb hby d40_5) rfl ?_
  refine og_goto X0 hx 10 (hb hby d40_6) (by decide) (by decide) ?_
  exact own_retI X0 hx hret hlk (hb hby d40_10) rfl (by simp) (by decide) (by decide) (⟨rfl, N0, e0⟩)
def own_Qr_2_6_6 (Z : State) (h0 : Heap) (n0 : Nat) (v0 v1 v2 v3 v4 v5 : Value) (v : Option Value) (h : Heap) (L : List Loc) : Prop := ∃ (b : Addr) (k : ClassId), v = some (.ref b) ∧ Fr n0 L ∧ Keep h0 h [] ∧ h0.size ≤ b ∧ n0 ≤ b ∧ Arv Z h b k .byte 4 [v2, v3, v4, v5] (.int (0 : Int32))
theorem d38_0 : decode jdk_65_method_133_code 0 = .ok (.iload_n 1, 1) := by decide +kernel
theorem d38_1 : decode jdk_65_method_133_code 1 = .ok (.iload_n 2, 1) := by decide +kernel
theorem d38_2 : decode jdk_65_method_133_code 2 = .ok (.invokestatic 343, 3) := by decide +kernel
theorem d38_5 : decode jdk_65_method_133_code 5 = .ok (.iload_n 2, 1) := by decide +kernel
theorem d38_6 : decode jdk_65_method_133_code 6 = .ok (.iload_n 1, 1) := by decide +kernel
theorem d38_7 : decode jdk_65_method_133_code 7 = .ok (.isub, 1) := by decide +kernel
theorem d38_8 : decode jdk_65_method_133_code 8 = .ok (.istore_n 3, 1) := by decide +kernel
theorem d38_9 : decode jdk_65_method_133_code 9 = .ok (.iload_n 3, 1) := by decide +kernel
theorem d38_10 : decode jdk_65_method_133_code 10 = .ok (.newarray .byte, 2) := by decide +kernel
theorem d38_12 : decode jdk_65_method_133_code 12 = .ok (.astore 4, 2) := by decide +kernel
theorem d38_14 : decode jdk_65_method_133_code 14 = .ok (.aload_n 0, 1) := by decide +kernel
theorem d38_15 : decode jdk_65_method_133_code 15 = .ok (.iload_n 1, 1) := by decide +kernel
theorem d38_16 : decode jdk_65_method_133_code 16 = .ok (.aload 4, 2) := by decide +kernel
theorem d38_18 : decode jdk_65_method_133_code 18 = .ok (.iconst 0, 1) := by decide +kernel
theorem d38_19 : decode jdk_65_method_133_code 19 = .ok (.aload_n 0, 1) := by decide +kernel
theorem d38_20 : decode jdk_65_method_133_code 20 = .ok (.arraylength, 1) := by decide +kernel
theorem d38_21 : decode jdk_65_method_133_code 21 = .ok (.iload_n 1, 1) := by decide +kernel
theorem d38_22 : decode jdk_65_method_133_code 22 = .ok (.isub, 1) := by decide +kernel
theorem d38_23 : decode jdk_65_method_133_code 23 = .ok (.iload_n 3, 1) := by decide +kernel
theorem d38_24 : decode jdk_65_method_133_code 24 = .ok (.invokestatic 304, 3) := by decide +kernel
theorem d38_27 : decode jdk_65_method_133_code 27 = .ok (.invokestatic 150, 3) := by decide +kernel
theorem d38_30 : decode jdk_65_method_133_code 30 = .ok (.aload 4, 2) := by decide +kernel
theorem d38_32 : decode jdk_65_method_133_code 32 = .ok (.areturn, 1) := by decide +kernel
theorem own_pd23903 : parseMethodDescriptor "(II)I" = some ⟨[.int, .int], some .int⟩ := by decide +kernel
def own_r_own_crb_2_6_6 : Room := { frames := 1, cells := 1, slots := 4, locals := 18 }
theorem own_crb_2_6_6 (l : Launch) (Z : State) (a0 : Array Value) (hw : own_W a0 Z) (b : Addr) (kb : ClassId) (dv : Value) (v0 v1 v2 v3 v4 v5 : Value) (h0 : Heap) (n0 : Nat) (hO : Old Z n0 h0) (Ab : Arv Z h0 b kb .byte 6 [v0, v1, v2, v3, v4, v5] dv) :
    own_Met l Z (⟨"java/util/Arrays", "copyOfRangeByte", "([BII)[B"⟩ : MethodName) jdk_65_method_133_code 5 (some (.array .byte)) own_r_own_crb_2_6_6 #[(.ref b), (.int 2), (.int 6)] h0 (own_Qr_2_6_6 Z h0 n0 v0 v1 v2 v3 v4 v5) := by
  refine own_body (by decide +kernel) ?_
  intro p e s m below meth c T0 X0 hx hZ hby hml hown hnm hret hlk e0
  have N0 := Fr.nil n0
  refine own_cast (own_frame (L := [rv b, iv 2, iv 6]) (ls := #[rv b, iv 2, iv 6, .unset, .unset]) rfl rfl) ?_
  refine og_iloadN X0 hx (hb hby d38_0) rfl ?_
  refine og_iloadN X0 hx (hb hby d38_1) rfl ?_
  refine own_callS X0 hx hZ hown (own_hw hw 160 rfl) (own_hw hw 161 rfl) (own_hw hw 155 rfl) (own_hw hw 162 rfl) (by decide) (argsL := [(.int 2), (.int 6)]) (rest := []) (own_ckl_2_6 l Z a0 hw h0 n0) e0 (by rw [hml]; rfl) (lenOf own_pd97226 rfl) rfl (hb hby d38_2) (W := 0) (Nat.le_of_eq rfl) (by decide) ?_
  intro v1 T1 L1 X1 q1
  obtain ⟨rfl, N1q, e1⟩ := q1
  have N1 := Fr.app N0 N1q
  show own_Go p e below _ T1 (mkF m 5 #[rv b, iv 2, iv 6, .unset, .unset] [])
  refine og_iloadN X1 hx (hb hby d38_5) rfl ?_
  refine og_iloadN X1 hx (hb hby d38_6) rfl ?_
  refine og_isub X1 hx (hb hby d38_7) ?_
  refine og_istoreN X1 hx #[rv b, iv 2, iv 6, iv 4, .unset] (hb hby d38_8) rfl ?_
  refine og_iloadN X1 hx (hb hby d38_9) rfl ?_
  refine own_newP X1 hx hZ (own_hw hw 23 rfl) e1 (hb hby d38_10) (by decide) 4 (by decide) (by decide) (by decide) (by decide) ?_
  intro T2 h2 k2 b2 g2 X2 e2 E2 A2
  have ne_b_b2 : b ≠ b2 := Nat.ne_of_lt (Nat.lt_of_lt_of_eq Ab.lt g2.symm)
  have ge_b2 : n0 ≤ b2 := Nat.le_trans (own_oldle hO) (Nat.le_of_eq g2.symm)
  have sz_b2 : h0.size ≤ b2 := Nat.le_trans (Keep.refl h0 []).1 (Nat.le_of_eq g2.symm)
  have A_b_2 := Ab.ext E2
  have O2 := hO.ext E2
  have K2 := (Keep.refl h0 []).ext E2
  have A_b2_2 : Arv Z h2 b2 k2 .byte 4 [(.int (0 : Int32)), (.int (0 : Int32)), (.int (0 : Int32)), (.int (0 : Int32))] (.int (0 : Int32)) := A2
  show own_Go p e below _ T2 (mkF m 12 #[rv b, iv 2, iv 6, iv 4, .unset] [(.ref b2)])
  refine og_astore X2 hx #[rv b, iv 2, iv 6, iv 4, rv b2] (hb hby d38_12) rfl rfl ?_
  refine og_aloadN X2 hx (hb hby d38_14) rfl rfl ?_
  refine og_iloadN X2 hx (hb hby d38_15) rfl ?_
  refine og_aload X2 hx (hb hby d38_16) rfl rfl ?_
  refine og_iconst X2 hx (hb hby d38_18) ?_
  refine og_aloadN X2 hx (hb hby d38_19) rfl rfl ?_
  refine own_len X2 hx hZ e2 A_b_2 (hb hby d38_20) ?_
  show own_Go p e below _ T2 (mkF m 21 #[rv b, iv 2, iv 6, iv 4, rv b2] [(.int 6), (.int 0), (.ref b2), (.int 2), (.ref b)])
  refine og_iloadN X2 hx (hb hby d38_21) rfl ?_
  refine og_isub X2 hx (hb hby d38_22) ?_
  refine og_iloadN X2 hx (hb hby d38_23) rfl ?_
  refine own_callS X2 hx hZ hown (own_hw hw 163 rfl) (own_hw hw 164 rfl) (own_hw hw 165 rfl) (own_hw hw 166 rfl) (by decide) (argsL := [(.int 4), (.int 4)]) (rest := [(.int 0), (.ref b2), (.int 2), (.ref b)]) (own_min_4_4 l Z a0 hw h2 n0) e2 (by rw [hml]; rfl) (lenOf own_pd23903 rfl) rfl (hb hby d38_24) (W := 4) (Nat.le_of_eq rfl) (by decide) ?_
  intro v3 T3 L3 X3 q3
  obtain ⟨rfl, N3q, e3⟩ := q3
  have N3 := Fr.app N1 N3q
  show own_Go p e below _ T3 (mkF m 27 #[rv b, iv 2, iv 6, iv 4, rv b2] [(.int 4), (.int 0), (.ref b2), (.int 2), (.ref b)])
  obtain ⟨T4, h4, L4, X4, e4, N4, K4q, A4, st4⟩ := cpA X3 hx hZ hown (own_hw hw 167 rfl) (own_hw hw 170 rfl) (own_hw hw 168 rfl) (own_hw hw 169 rfl) e3 A_b_2 A_b2_2 (us := [v2, v3, v4, v5]) (Or.inl ⟨rfl, rfl⟩) (by decide) (by decide) (by decide) (by decide) (by decide) rfl (by decide) N3 ge_b2 (g := (mkF m 27 #[rv b, iv 2, iv 6, iv 4, rv b2] [(.int 4), (.int 0), (.ref b2), (.int 2), (.ref b)])) rfl (by rw [hml]; rfl) rfl (hb hby d38_27) (by decide) (W := 0) (by show 2 * 0 + _ ≤ _; exact Nat.le_of_eq rfl) (by decide)
  refine own_go st4 ?_
  have A_b_4 := A_b_2.keep K4q (ninS ne_b_b2 nin0)
  have O4 := O2.keep K4q (allS ge_b2 all0)
  have K4 := K2.trans K4q (allS (Or.inr sz_b2) all0)
  have A_b2_4 : Arv Z h4 b2 k2 .byte 4 [v2, v3, v4, v5] (.int (0 : Int32)) := A4
  show own_Go p e below _ T4 (mkF m 30 #[rv b, iv 2, iv 6, iv 4, rv b2] [])
  refine og_aload X4 hx (hb hby d38_30) rfl rfl ?_
  exact own_retA X4 hx hret hlk (hb hby d38_32) rfl rfl (by decide) (by decide) (by rw [e4]; exact ⟨b2, _, rfl, N4, K4, sz_b2, ge_b2, A_b2_4⟩)
theorem d37_0 : decode jdk_65_method_132_code 0 = .ok (.iload_n 1, 1) := by decide +kernel
theorem d37_1 : decode jdk_65_method_132_code 1 = .ok (.ifCond .ne 9, 3) := by decide +kernel
theorem d37_10 : decode jdk_65_method_132_code 10 = .ok (.aload_n 0, 1) := by decide +kernel
theorem d37_11 : decode jdk_65_method_132_code 11 = .ok (.iload_n 1, 1) := by decide +kernel
theorem d37_12 : decode jdk_65_method_132_code 12 = .ok (.iload_n 2, 1) := by decide +kernel
theorem d37_13 : decode jdk_65_method_132_code 13 = .ok (.invokestatic 339, 3) := by decide +kernel
theorem d37_16 : decode jdk_65_method_132_code 16 = .ok (.areturn, 1) := by decide +kernel
theorem own_pd77155 : parseMethodDescriptor "([BII)[B" = some ⟨[(.array .byte), .int, .int], some (.array .byte)⟩ := by decide +kernel
def own_r_own_cr_2_6_6 : Room := { frames := 2, cells := 1, slots := 4, locals := 34 }
theorem own_cr_2_6_6 (l : Launch) (Z : State) (a0 : Array Value) (hw : own_W a0 Z) (b : Addr) (kb : ClassId) (dv : Value) (v0 v1 v2 v3 v4 v5 : Value) (h0 : Heap) (n0 : Nat) (hO : Old Z n0 h0) (Ab : Arv Z h0 b kb .byte 6 [v0, v1, v2, v3, v4, v5] dv) :
    own_Met l Z (⟨"java/util/Arrays", "copyOfRange", "([BII)[B"⟩ : MethodName) jdk_65_method_132_code 3 (some (.array .byte)) own_r_own_cr_2_6_6 #[(.ref b), (.int 2), (.int 6)] h0 (own_Qr_2_6_6 Z h0 n0 v0 v1 v2 v3 v4 v5) := by
  refine own_body (by decide +kernel) ?_
  intro p e s m below meth c T0 X0 hx hZ hby hml hown hnm hret hlk e0
  have N0 := Fr.nil n0
  refine own_cast (own_frame (L := [rv b, iv 2, iv 6]) (ls := #[rv b, iv 2, iv 6]) rfl rfl) ?_
  refine og_iloadN X0 hx (hb hby d37_0) rfl ?_
  refine og_ifY X0 hx 10 (hb hby d37_1) (feq (by decide)).2 (by decide) (by decide) ?_
  refine og_aloadN X0 hx (hb hby d37_10) rfl rfl ?_
  refine og_iloadN X0 hx (hb hby d37_11) rfl ?_
  refine og_iloadN X0 hx (hb hby d37_12) rfl ?_
  refine own_callS X0 hx hZ hown (own_hw hw 157 rfl) (own_hw hw 158 rfl) (own_hw hw 155 rfl) (own_hw hw 159 rfl) (by decide) (argsL := [(.ref b), (.int 2), (.int 6)]) (rest := []) (own_crb_2_6_6 l Z a0 hw b _ _ v0 v1 v2 v3 v4 v5 h0 n0 hO Ab) e0 (by rw [hml]; rfl) (lenOf own_pd77155 rfl) rfl (hb hby d37_13) (W := 0) (Nat.le_of_eq rfl) (by decide) ?_
  intro v1 T1 L1 X1 q1
  obtain ⟨b1, k1, rfl, N1q, K1q, z1q, g1q, A1q⟩ := q1
  have N1 := Fr.app N0 N1q
  have ne_b_b1 : b ≠ b1 := Nat.ne_of_lt (Nat.lt_of_lt_of_le Ab.lt z1q)
  have sz_b1 : h0.size ≤ b1 := Nat.le_trans (Keep.refl h0 []).1 z1q
  have A_b_1 := Ab.keep K1q nin0
  have O1 := hO.keep K1q all0
  have K1 := (Keep.refl h0 []).trans K1q all0
  show own_Go p e below _ T1 (mkF m 16 #[rv b, iv 2, iv 6] [(.ref b1)])
  exact own_retA X1 hx hret hlk (hb hby d37_16) rfl rfl (by decide) (by decide) (⟨b1, _, rfl, N1, K1, sz_b1, g1q, A1q⟩)
theorem d32_0 : decode jdk_52_method_17_code 0 = .ok (.iload_n 2, 1) := by decide +kernel
theorem d32_1 : decode jdk_52_method_17_code 1 = .ok (.newarray .byte, 2) := by decide +kernel
theorem d32_3 : decode jdk_52_method_17_code 3 = .ok (.astore_n 3, 1) := by decide +kernel
theorem d32_4 : decode jdk_52_method_17_code 4 = .ok (.aload_n 0, 1) := by decide +kernel
theorem d32_5 : decode jdk_52_method_17_code 5 = .ok (.iload_n 1, 1) := by decide +kernel
theorem d32_6 : decode jdk_52_method_17_code 6 = .ok (.aload_n 3, 1) := by decide +kernel
theorem d32_7 : decode jdk_52_method_17_code 7 = .ok (.iconst 0, 1) := by decide +kernel
theorem d32_8 : decode jdk_52_method_17_code 8 = .ok (.iload_n 2, 1) := by decide +kernel
theorem d32_9 : decode jdk_52_method_17_code 9 = .ok (.invokestatic 123, 3) := by decide +kernel
theorem d32_12 : decode jdk_52_method_17_code 12 = .ok (.istore 4, 2) := by decide +kernel
theorem d32_14 : decode jdk_52_method_17_code 14 = .ok (.iload 4, 2) := by decide +kernel
theorem d32_16 : decode jdk_52_method_17_code 16 = .ok (.iload_n 2, 1) := by decide +kernel
theorem d32_17 : decode jdk_52_method_17_code 17 = .ok (.if_icmp .eq 47, 3) := by decide +kernel
theorem d32_20 : decode jdk_52_method_17_code 20 = .ok (.aload_n 0, 1) := by decide +kernel
theorem d32_21 : decode jdk_52_method_17_code 21 = .ok (.iload_n 1, 1) := by decide +kernel
theorem d32_22 : decode jdk_52_method_17_code 22 = .ok (.iconst 1, 1) := by decide +kernel
theorem d32_23 : decode jdk_52_method_17_code 23 = .ok (.ishl, 1) := by decide +kernel
theorem d32_24 : decode jdk_52_method_17_code 24 = .ok (.iload_n 1, 1) := by decide +kernel
theorem d32_25 : decode jdk_52_method_17_code 25 = .ok (.iload_n 2, 1) := by decide +kernel
theorem d32_26 : decode jdk_52_method_17_code 26 = .ok (.iadd, 1) := by decide +kernel
theorem d32_27 : decode jdk_52_method_17_code 27 = .ok (.invokestatic 11, 3) := by decide +kernel
theorem d32_30 : decode jdk_52_method_17_code 30 = .ok (.invokestatic 126, 3) := by decide +kernel
theorem d32_33 : decode jdk_52_method_17_code 33 = .ok (.astore 5, 2) := by decide +kernel
theorem d32_35 : decode jdk_52_method_17_code 35 = .ok (.aload 5, 2) := by decide +kernel
theorem d32_37 : decode jdk_52_method_17_code 37 = .ok (.iload 4, 2) := by decide +kernel
theorem d32_39 : decode jdk_52_method_17_code 39 = .ok (.invokestatic 71, 3) := by decide +kernel
theorem d32_42 : decode jdk_52_method_17_code 42 = .ok (.sipush 255, 3) := by decide +kernel
theorem d32_45 : decode jdk_52_method_17_code 45 = .ok (.if_icmp .gt 16, 3) := by decide +kernel
theorem d32_61 : decode jdk_52_method_17_code 61 = .ok (.aload 5, 2) := by decide +kernel
theorem d32_63 : decode jdk_52_method_17_code 63 = .ok (.areturn, 1) := by decide +kernel
theorem own_pd11257 : parseMethodDescriptor "([BI[BII)I" = some ⟨[(.array .byte), .int, (.array .byte), .int, .int], some .int⟩ := by decide +kernel
def own_r_own_db_2_0 : Room := { frames := 4, cells := 2, slots := 6, locals := 61 }
theorem own_db_2_0 (l : Launch) (Z : State) (a0 : Array Value) (hw : own_W a0 Z) (z : Int32) (sf : Value) (b : Addr) (kb : ClassId) (dv : Value) (c0 c1 c2 : Int32) (h0 : Heap) (n0 : Nat) (hO : Old Z n0 h0) (hG : own_Gs Z z sf) (hU : own_Us Z) (hR1 : own_R c1) (hR2 : own_R c2) (m1 : (255 : Int32) < c1) (Ab : Arv Z h0 b kb .byte 6 [(.int (own_lo c0)), (.int (own_hi c0)), (.int (own_lo c1)), (.int (own_hi c1)), (.int (own_lo c2)), (.int (own_hi c2))] dv) :
    own_Met l Z (⟨"java/lang/StringUTF16", "compress", "([BII)[B"⟩ : MethodName) jdk_52_method_17_code 6 (some (.array .byte)) own_r_own_db_2_0 #[(.ref b), (.int 1), (.int 2)] h0 (own_Qb Z 4 [(.int (own_lo c1)), (.int (own_hi c1)), (.int (own_lo c2)), (.int (own_hi c2))] h0 n0) := by
  refine own_body (by decide +kernel) ?_
  intro p e s m below meth c T0 X0 hx hZ hby hml hown hnm hret hlk e0
  have N0 := Fr.nil n0
  refine own_cast (own_frame (L := [rv b, iv 1, iv 2]) (ls := #[rv b, iv 1, iv 2, .unset, .unset, .unset]) rfl rfl) ?_
  obtain ⟨SC, hz, SF, rf⟩ := id hG
  refine og_iloadN X0 hx (hb hby d32_0) rfl ?_
  refine own_newP X0 hx hZ (own_hw hw 23 rfl) e0 (hb hby d32_1) (by decide) 2 (by decide) (by decide) (by decide) (by decide) ?_
  intro T1 h1 k1 b1 g1 X1 e1 E1 A1
  have ne_b_b1 : b ≠ b1 := Nat.ne_of_lt (Nat.lt_of_lt_of_eq Ab.lt g1.symm)
  have ge_b1 : n0 ≤ b1 := Nat.le_trans (own_oldle hO) (Nat.le_of_eq g1.symm)
  have sz_b1 : h0.size ≤ b1 := Nat.le_trans (Keep.refl h0 []).1 (Nat.le_of_eq g1.symm)
  have A_b_1 := Ab.ext E1
  have O1 := hO.ext E1
  have K1 := (Keep.refl h0 []).ext E1
  have A_b1_1 : Arv Z h1 b1 k1 .byte 2 [(.int (0 : Int32)), (.int (0 : Int32))] (.int (0 : Int32)) := A1
  show own_Go p e below _ T1 (mkF m 3 #[rv b, iv 1, iv 2, .unset, .unset, .unset] [(.ref b1)])
  refine og_astoreN X1 hx #[rv b, iv 1, iv 2, rv b1, .unset, .unset] (hb hby d32_3) rfl rfl ?_
  refine og_aloadN X1 hx (hb hby d32_4) rfl rfl ?_
  refine og_iloadN X1 hx (hb hby d32_5) rfl ?_
  refine og_aloadN X1 hx (hb hby d32_6) rfl rfl ?_
  refine og_iconst X1 hx (hb hby d32_7) ?_
  refine og_iloadN X1 hx (hb hby d32_8) rfl ?_
  refine own_callS X1 hx hZ hown (own_hw hw 141 rfl) (own_hw hw 142 rfl) (own_hw hw 21 rfl) (own_hw hw 143 rfl) (by decide) (argsL := [(.ref b), (.int 1), (.ref b1), (.int 0), (.int 2)]) (rest := []) (own_dm_2_0 l Z a0 hw z sf b b1 _ _ _ c0 c1 c2 h1 n0 O1 hG hU hR1 hR2 ge_b1 ne_b_b1 m1 A_b_1 A_b1_1) e1 (by rw [hml]; rfl) (lenOf own_pd11257 rfl) rfl (hb hby d32_9) (W := 0) (Nat.le_of_eq rfl) (by decide) ?_
  intro v2 T2 L2 X2 q2
  obtain ⟨rfl, N2q, K2q, A2q⟩ := q2
  have N2 := Fr.app N0 N2q
  have A_b_2 := A_b_1.keep K2q (ninS ne_b_b1 nin0)
  have O2 := O1.keep K2q (allS ge_b1 all0)
  have K2 := K1.trans K2q (allS (Or.inr sz_b1) all0)
  show own_Go p e below _ T2 (mkF m 12 #[rv b, iv 1, iv 2, rv b1, .unset, .unset] [(.int 0)])
  refine og_istore X2 hx #[rv b, iv 1, iv 2, rv b1, iv 0, .unset] (hb hby d32_12) rfl ?_
  refine og_iload X2 hx (hb hby d32_14) rfl ?_
  refine og_iloadN X2 hx (hb hby d32_16) rfl ?_
  refine og_icN X2 hx (hb hby d32_17) (feq (by decide)).1 ?_
  refine og_aloadN X2 hx (hb hby d32_20) rfl rfl ?_
  refine og_iloadN X2 hx (hb hby d32_21) rfl ?_
  refine og_iconst X2 hx (hb hby d32_22) ?_
  refine own_go (fun t k => XS.ishl X2.here hx rfl (hb hby d32_23) rfl k) ?_
  show own_Go p e below _ T2 (mkF m 24 #[rv b, iv 1, iv 2, rv b1, iv 0, .unset] [(.int 2), (.ref b)])
  refine og_iloadN X2 hx (hb hby d32_24) rfl ?_
  refine og_iloadN X2 hx (hb hby d32_25) rfl ?_
  refine og_iadd X2 hx (hb hby d32_26) ?_
  show own_Go p e below _ T2 (mkF m 27 #[rv b, iv 1, iv 2, rv b1, iv 0, .unset] [(.int 3), (.int 2), (.ref b)])
  refine own_callS X2 hx hZ hown (own_hw hw 85 rfl) (own_hw hw 86 rfl) (own_hw hw 21 rfl) (own_hw hw 87 rfl) (by decide) (argsL := [(.int 3)]) (rest := [(.int 2), (.ref b)]) (own_nbl3 l Z a0 hw T2.heap n0) rfl (by rw [hml]; rfl) (lenOf own_pd49053 rfl) rfl (hb hby d32_27) (W := 2) (Nat.le_of_eq rfl) (by decide) ?_
  intro v3 T3 L3 X3 q3
  obtain ⟨rfl, N3q, e3⟩ := q3
  have N3 := Fr.app N2 N3q
  show own_Go p e below _ T3 (mkF m 30 #[rv b, iv 1, iv 2, rv b1, iv 0, .unset] [(.int 6), (.int 2), (.ref b)])
  refine own_callS X3 hx hZ hown (own_hw hw 153 rfl) (own_hw hw 154 rfl) (own_hw hw 155 rfl) (own_hw hw 156 rfl) (by decide) (argsL := [(.ref b), (.int 2), (.int 6)]) (rest := []) (own_cr_2_6_6 l Z a0 hw b _ _ (.int (own_lo c0)) (.int (own_hi c0)) (.int (own_lo c1)) (.int (own_hi c1)) (.int (own_lo c2)) (.int (own_hi c2)) T2.heap n0 O2 A_b_2) e3 (by rw [hml]; rfl) (lenOf own_pd77155 rfl) rfl (hb hby d32_30) (W := 0) (Nat.le_of_eq rfl) (by decide) ?_
  intro v4 T4 L4 X4 q4
  obtain ⟨b4, k4, rfl, N4q, K4q, z4q, g4q, A4q⟩ := q4
  have N4 := Fr.app N3 N4q
  have ne_b_b4 : b ≠ b4 := Nat.ne_of_lt (Nat.lt_of_lt_of_le A_b_2.lt z4q)
  have ne_b1_b4 : b1 ≠ b4 := Nat.ne_of_lt (Nat.lt_of_lt_of_le A2q.lt z4q)
  have sz_b4 : h0.size ≤ b4 := Nat.le_trans K2.1 z4q
  have A_b_4 := A_b_2.keep K4q nin0
  have A_b1_4 := A2q.keep K4q nin0
  have O4 := O2.keep K4q all0
  have K4 := K2.trans K4q all0
  show own_Go p e below _ T4 (mkF m 33 #[rv b, iv 1, iv 2, rv b1, iv 0, .unset] [(.ref b4)])
  refine og_astore X4 hx #[rv b, iv 1, iv 2, rv b1, iv 0, rv b4] (hb hby d32_33) rfl rfl ?_
  refine og_aload X4 hx (hb hby d32_35) rfl rfl ?_
  refine og_iload X4 hx (hb hby d32_37) rfl ?_
  refine own_callS X4 hx hZ hown (own_hw hw 95 rfl) (own_hw hw 96 rfl) (own_hw hw 21 rfl) (own_hw hw 97 rfl) (by decide) (argsL := [(.ref b4), (.int 0)]) (rest := []) (own_gt_0_2 l Z a0 hw b4 _ _ c1 (.int (own_lo c2)) (.int (own_hi c2)) T4.heap n0 O4 hU hR1 A4q) rfl (by rw [hml]; rfl) (lenOf own_pd27418 rfl) rfl (hb hby d32_39) (W := 0) (Nat.le_of_eq rfl) (by decide) ?_
  intro v5 T5 L5 X5 q5
  obtain ⟨rfl, N5q, e5⟩ := q5
  have N5 := Fr.app N4 N5q
  show own_Go p e below _ T5 (mkF m 42 #[rv b, iv 1, iv 2, rv b1, iv 0, rv b4] [(.int c1)])
  refine og_sipush X5 hx (hb hby d32_42) ?_
  refine og_icY X5 hx 61 (hb hby d32_45) (tlt m1).2.2.1 (by decide) (by decide) ?_
  refine og_aload X5 hx (hb hby d32_61) rfl rfl ?_
  exact own_retA X5 hx hret hlk (hb hby d32_63) rfl rfl (by decide) (by decide) (by rw [e5]; exact ⟨b4, _, rfl, N5, K4, sz_b4, g4q, A4q⟩)
theorem own_db_2_1 (l : Launch) (Z : State) (a0 : Array Value) (hw : own_W a0 Z) (z : Int32) (sf : Value) (b : Addr) (kb : ClassId) (dv : Value) (c0 c1 c2 : Int32) (h0 : Heap) (n0 : Nat) (hO : Old Z n0 h0) (hG : own_Gs Z z sf) (hU : own_Us Z) (hR1 : own_R c1) (hR2 : own_R c2) (m1 : ¬ (255 : Int32) < c1) (m2 : (255 : Int32) < c2) (Ab : Arv Z h0 b kb .byte 6 [(.int (own_lo c0)), (.int (own_hi c0)), (.int (own_lo c1)), (.int (own_hi c1)), (.int (own_lo c2)), (.int (own_hi c2))] dv) :
    own_Met l Z (⟨"java/lang/StringUTF16", "compress", "([BII)[B"⟩ : MethodName) jdk_52_method_17_code 6 (some (.array .byte)) own_r_own_db_2_0 #[(.ref b), (.int 1), (.int 2)] h0 (own_Qb Z 4 [(.int (own_lo c1)), (.int (own_hi c1)), (.int (own_lo c2)), (.int (own_hi c2))] h0 n0) := by
  refine own_body (by decide +kernel) ?_
  intro p e s m below meth c T0 X0 hx hZ hby hml hown hnm hret hlk e0
  have N0 := Fr.nil n0
  refine own_cast (own_frame (L := [rv b, iv 1, iv 2]) (ls := #[rv b, iv 1, iv 2, .unset, .unset, .unset]) rfl rfl) ?_
  obtain ⟨SC, hz, SF, rf⟩ := id hG
  refine og_iloadN X0 hx (hb hby d32_0) rfl ?_
  refine own_newP X0 hx hZ (own_hw hw 23 rfl) e0 (hb hby d32_1) (by decide) 2 (by decide) (by decide) (by decide) (by decide) ?_
  intro T1 h1 k1 b1 g1 X1 e1 E1 A1
  have ne_b_b1 : b ≠ b1 := Nat.ne_of_lt (Nat.lt_of_lt_of_eq Ab.lt g1.symm)
  have ge_b1 : n0 ≤ b1 := Nat.le_trans (own_oldle hO) (Nat.le_of_eq g1.symm)
  have sz_b1 : h0.size ≤ b1 := Nat.le_trans (Keep.refl h0 []).1 (Nat.le_of_eq g1.symm)
  have A_b_1 := Ab.ext E1
  have O1 := hO.ext E1
  have K1 := (Keep.refl h0 []).ext E1
  have A_b1_1 : Arv Z h1 b1 k1 .byte 2 [(.int (0 : Int32)), (.int (0 : Int32))] (.int (0 : Int32)) := A1
  show own_Go p e below _ T1 (mkF m 3 #[rv b, iv 1, iv 2, .unset, .unset, .unset] [(.ref b1)])
  refine og_astoreN X1 hx #[rv b, iv 1, iv 2, rv b1, .unset, .unset] (hb hby d32_3) rfl rfl ?_
  refine og_aloadN X1 hx (hb hby d32_4) rfl rfl ?_
  refine og_iloadN X1 hx (hb hby d32_5) rfl ?_
  refine og_aloadN X1 hx (hb hby d32_6) rfl rfl ?_
  refine og_iconst X1 hx (hb hby d32_7) ?_
  refine og_iloadN X1 hx (hb hby d32_8) rfl ?_
  refine own_callS X1 hx hZ hown (own_hw hw 141 rfl) (own_hw hw 142 rfl) (own_hw hw 21 rfl) (own_hw hw 143 rfl) (by decide) (argsL := [(.ref b), (.int 1), (.ref b1), (.int 0), (.int 2)]) (rest := []) (own_dm_2_1 l Z a0 hw z sf b b1 _ _ _ c0 c1 c2 h1 n0 O1 hG hU hR1 hR2 ge_b1 ne_b_b1 m1 m2 A_b_1 A_b1_1) e1 (by rw [hml]; rfl) (lenOf own_pd11257 rfl) rfl (hb hby d32_9) (W := 0) (Nat.le_of_eq rfl) (by decide) ?_
  intro v2 T2 L2 X2 q2
  obtain ⟨rfl, N2q, K2q, A2q⟩ := q2
  have N2 := Fr.app N0 N2q
  have A_b_2 := A_b_1.keep K2q (ninS ne_b_b1 nin0)
  have O2 := O1.keep K2q (allS ge_b1 all0)
  have K2 := K1.trans K2q (allS (Or.inr sz_b1) all0)
  show own_Go p e below _ T2 (mkF m 12 #[rv b, iv 1, iv 2, rv b1, .unset, .unset] [(.int 1)])
  refine og_istore X2 hx #[rv b, iv 1, iv 2, rv b1, iv 1, .unset] (hb hby d32_12) rfl ?_
  refine og_iload X2 hx (hb hby d32_14) rfl ?_
  refine og_iloadN X2 hx (hb hby d32_16) rfl ?_
  refine og_icN X2 hx (hb hby d32_17) (feq (by decide)).1 ?_
  refine og_aloadN X2 hx (hb hby d32_20) rfl rfl ?_
  refine og_iloadN X2 hx (hb hby d32_21) rfl ?_
  refine og_iconst X2 hx (hb hby d32_22) ?_
  refine own_go (fun t k => XS.ishl X2.here hx rfl (hb hby d32_23) rfl k) ?_
  show own_Go p e below _ T2 (mkF m 24 #[rv b, iv 1, iv 2, rv b1, iv 1, .unset] [(.int 2), (.ref b)])
  refine og_iloadN X2 hx (hb hby d32_24) rfl ?_
  refine og_iloadN X2 hx (hb hby d32_25) rfl ?_
  refine og_iadd X2 hx (hb hby d32_26) ?_
  show own_Go p e below _ T2 (mkF m 27 #[rv b, iv 1, iv 2, rv b1, iv 1, .unset] [(.int 3), (.int 2), (.ref b)])
  refine own_callS X2 hx hZ hown (own_hw hw 85 rfl) (own_hw hw 86 rfl) (own_hw hw 21 rfl) (own_hw hw 87 rfl) (by decide) (argsL := [(.int 3)]) (rest := [(.int 2), (.ref b)]) (own_nbl3 l Z a0 hw T2.heap n0) rfl (by rw [hml]; rfl) (lenOf own_pd49053 rfl) rfl (hb hby d32_27) (W := 2) (Nat.le_of_eq rfl) (by decide) ?_
  intro v3 T3 L3 X3 q3
  obtain ⟨rfl, N3q, e3⟩ := q3
  have N3 := Fr.app N2 N3q
  show own_Go p e below _ T3 (mkF m 30 #[rv b, iv 1, iv 2, rv b1, iv 1, .unset] [(.int 6), (.int 2), (.ref b)])
  refine own_callS X3 hx hZ hown (own_hw hw 153 rfl) (own_hw hw 154 rfl) (own_hw hw 155 rfl) (own_hw hw 156 rfl) (by decide) (argsL := [(.ref b), (.int 2), (.int 6)]) (rest := []) (own_cr_2_6_6 l Z a0 hw b _ _ (.int (own_lo c0)) (.int (own_hi c0)) (.int (own_lo c1)) (.int (own_hi c1)) (.int (own_lo c2)) (.int (own_hi c2)) T2.heap n0 O2 A_b_2) e3 (by rw [hml]; rfl) (lenOf own_pd77155 rfl) rfl (hb hby d32_30) (W := 0) (Nat.le_of_eq rfl) (by decide) ?_
  intro v4 T4 L4 X4 q4
  obtain ⟨b4, k4, rfl, N4q, K4q, z4q, g4q, A4q⟩ := q4
  have N4 := Fr.app N3 N4q
  have ne_b_b4 : b ≠ b4 := Nat.ne_of_lt (Nat.lt_of_lt_of_le A_b_2.lt z4q)
  have ne_b1_b4 : b1 ≠ b4 := Nat.ne_of_lt (Nat.lt_of_lt_of_le A2q.lt z4q)
  have sz_b4 : h0.size ≤ b4 := Nat.le_trans K2.1 z4q
  have A_b_4 := A_b_2.keep K4q nin0
  have A_b1_4 := A2q.keep K4q nin0
  have O4 := O2.keep K4q all0
  have K4 := K2.trans K4q all0
  show own_Go p e below _ T4 (mkF m 33 #[rv b, iv 1, iv 2, rv b1, iv 1, .unset] [(.ref b4)])
  refine og_astore X4 hx #[rv b, iv 1, iv 2, rv b1, iv 1, rv b4] (hb hby d32_33) rfl rfl ?_
  refine og_aload X4 hx (hb hby d32_35) rfl rfl ?_
  refine og_iload X4 hx (hb hby d32_37) rfl ?_
  refine own_callS X4 hx hZ hown (own_hw hw 95 rfl) (own_hw hw 96 rfl) (own_hw hw 21 rfl) (own_hw hw 97 rfl) (by decide) (argsL := [(.ref b4), (.int 1)]) (rest := []) (own_gt_1_2 l Z a0 hw b4 _ _ c2 (.int (own_lo c1)) (.int (own_hi c1)) T4.heap n0 O4 hU hR2 A4q) rfl (by rw [hml]; rfl) (lenOf own_pd27418 rfl) rfl (hb hby d32_39) (W := 0) (Nat.le_of_eq rfl) (by decide) ?_
  intro v5 T5 L5 X5 q5
  obtain ⟨rfl, N5q, e5⟩ := q5
  have N5 := Fr.app N4 N5q
  show own_Go p e below _ T5 (mkF m 42 #[rv b, iv 1, iv 2, rv b1, iv 1, rv b4] [(.int c2)])
  refine og_sipush X5 hx (hb hby d32_42) ?_
  refine og_icY X5 hx 61 (hb hby d32_45) (tlt m2).2.2.1 (by decide) (by decide) ?_
  refine og_aload X5 hx (hb hby d32_61) rfl rfl ?_
  exact own_retA X5 hx hret hlk (hb hby d32_63) rfl rfl (by decide) (by decide) (by rw [e5]; exact ⟨b4, _, rfl, N5, K4, sz_b4, g4q, A4q⟩)
theorem d32_64 : decode jdk_52_method_17_code 64 = .ok (.aload_n 3, 1) := by decide +kernel
theorem d32_65 : decode jdk_52_method_17_code 65 = .ok (.areturn, 1) := by decide +kernel
theorem own_db_2_2 (l : Launch) (Z : State) (a0 : Array Value) (hw : own_W a0 Z) (z : Int32) (sf : Value) (b : Addr) (kb : ClassId) (dv : Value) (c0 c1 c2 : Int32) (h0 : Heap) (n0 : Nat) (hO : Old Z n0 h0) (hG : own_Gs Z z sf) (hU : own_Us Z) (hR1 : own_R c1) (hR2 : own_R c2) (m1 : ¬ (255 : Int32) < c1) (m2 : ¬ (255 : Int32) < c2) (Ab : Arv Z h0 b kb .byte 6 [(.int (own_lo c0)), (.int (own_hi c0)), (.int (own_lo c1)), (.int (own_hi c1)), (.int (own_lo c2)), (.int (own_hi c2))] dv) :
    own_Met l Z (⟨"java/lang/StringUTF16", "compress", "([BII)[B"⟩ : MethodName) jdk_52_method_17_code 6 (some (.array .byte)) own_r_own_db_2_0 #[(.ref b), (.int 1), (.int 2)] h0 (own_Qb Z 2 [(.int c1.toInt8.toInt32), (.int c2.toInt8.toInt32)] h0 n0) := by
  refine own_body (by decide +kernel) ?_
  intro p e s m below meth c T0 X0 hx hZ hby hml hown hnm hret hlk e0
  have N0 := Fr.nil n0
  refine own_cast (own_frame (L := [rv b, iv 1, iv 2]) (ls := #[rv b, iv 1, iv 2, .unset, .unset, .unset]) rfl rfl) ?_
  obtain ⟨SC, hz, SF, rf⟩ := id hG
  refine og_iloadN X0 hx (hb hby d32_0) rfl ?_
  refine own_newP X0 hx hZ (own_hw hw 23 rfl) e0 (hb hby d32_1) (by decide) 2 (by decide) (by decide) (by decide) (by decide) ?_
  intro T1 h1 k1 b1 g1 X1 e1 E1 A1
  have ne_b_b1 : b ≠ b1 := Nat.ne_of_lt (Nat.lt_of_lt_of_eq Ab.lt g1.symm)
  have ge_b1 : n0 ≤ b1 := Nat.le_trans (own_oldle hO) (Nat.le_of_eq g1.symm)
  have sz_b1 : h0.size ≤ b1 := Nat.le_trans (Keep.refl h0 []).1 (Nat.le_of_eq g1.symm)
  have A_b_1 := Ab.ext E1
  have O1 := hO.ext E1
  have K1 := (Keep.refl h0 []).ext E1
  have A_b1_1 : Arv Z h1 b1 k1 .byte 2 [(.int (0 : Int32)), (.int (0 : Int32))] (.int (0 : Int32)) := A1
  show own_Go p e below _ T1 (mkF m 3 #[rv b, iv 1, iv 2, .unset, .unset, .unset] [(.ref b1)])
  refine og_astoreN X1 hx #[rv b, iv 1, iv 2, rv b1, .unset, .unset] (hb hby d32_3) rfl rfl ?_
  refine og_aloadN X1 hx (hb hby d32_4) rfl rfl ?_
  refine og_iloadN X1 hx (hb hby d32_5) rfl ?_
  refine og_aloadN X1 hx (hb hby d32_6) rfl rfl ?_
  refine og_iconst X1 hx (hb hby d32_7) ?_
  refine og_iloadN X1 hx (hb hby d32_8) rfl ?_
  refine own_callS X1 hx hZ hown (own_hw hw 141 rfl) (own_hw hw 142 rfl) (own_hw hw 21 rfl) (own_hw hw 143 rfl) (by decide) (argsL := [(.ref b), (.int 1), (.ref b1), (.int 0), (.int 2)]) (rest := []) (own_dm_2_2 l Z a0 hw z sf b b1 _ _ _ c0 c1 c2 h1 n0 O1 hG hU hR1 hR2 ge_b1 ne_b_b1 m1 m2 A_b_1 A_b1_1) e1 (by rw [hml]; rfl) (lenOf own_pd11257 rfl) rfl (hb hby d32_9) (W := 0) (Nat.le_of_eq rfl) (by decide) ?_
  intro v2 T2 L2 X2 q2
  obtain ⟨rfl, N2q, K2q, A2q⟩ := q2
  have N2 := Fr.app N0 N2q
  have A_b_2 := A_b_1.keep K2q (ninS ne_b_b1 nin0)
  have O2 := O1.keep K2q (allS ge_b1 all0)
  have K2 := K1.trans K2q (allS (Or.inr sz_b1) all0)
  show own_Go p e below _ T2 (mkF m 12 #[rv b, iv 1, iv 2, rv b1, .unset, .unset] [(.int 2)])
  refine og_istore X2 hx #[rv b, iv 1, iv 2, rv b1, iv 2, .unset] (hb hby d32_12) rfl ?_
  refine og_iload X2 hx (hb hby d32_14) rfl ?_
  refine og_iloadN X2 hx (hb hby d32_16) rfl ?_
  refine og_icY X2 hx 64 (hb hby d32_17) (teq rfl).1 (by decide) (by decide) ?_
  refine og_aloadN X2 hx (hb hby d32_64) rfl rfl ?_
  exact own_retA X2 hx hret hlk (hb hby d32_65) rfl rfl (by decide) (by decide) (⟨b1, _, rfl, N2, K2, sz_b1, ge_b1, A2q⟩)
def own_r_own_cfs1 : Room := { frames := 0, cells := 0, slots := 0, locals := 0 }
theorem own_cfs1 (l : Launch) (Z : State) (a0 : Array Value) (hw : own_W a0 Z) (sf : Value) (h0 : Heap) (n0 : Nat) (rf : sf.isRef = true) :
    own_Met l Z (⟨"jdk/internal/util/Preconditions", "checkFromIndexSize", "(IIILjava/util/function/BiFunction;)I"⟩ : MethodName) jdk_41_method_13_code 4 (some .int) own_r_own_cfs1 #[(.int 1), (.int 1), (.int 2), sf] h0 (own_Qv (some (.int 1)) h0 n0) := by
  refine own_body (by decide +kernel) ?_
  intro p e s m below meth c T0 X0 hx hZ hby hml hown hnm hret hlk e0
  have N0 := Fr.nil n0
  refine own_cast (own_frame (L := [iv 1, iv 1, iv 2, .val sf]) (ls := #[iv 1, iv 1, iv 2, .val sf]) (congrArg (fun q => iv 1 :: iv 1 :: iv 2 :: q) (own_laid1 rf)) rfl) ?_
  refine og_iloadN X0 hx (hb hby d36_0) rfl ?_
  refine og_iloadN X0 hx (hb hby d36_1) rfl ?_
  refine og_ior X0 hx (hb hby d36_2) ?_
  refine og_iloadN X0 hx (hb hby d36_3) rfl ?_
  refine og_ior X0 hx (hb hby d36_4) ?_
  show own_Go p e below _ T0 (mkF m 5 #[iv 1, iv 1, iv 2, .val sf] [(.int 3)])
  refine og_ifN X0 hx (hb hby d36_5) (flt (by decide)).1 ?_
  refine og_iloadN X0 hx (hb hby d36_8) rfl ?_
  refine og_iloadN X0 hx (hb hby d36_9) rfl ?_
  refine og_iloadN X0 hx (hb hby d36_10) rfl ?_
  refine og_isub X0 hx (hb hby d36_11) ?_
  show own_Go p e below _ T0 (mkF m 12 #[iv 1, iv 1, iv 2, .val sf] [(.int 1), (.int 1)])
  refine og_icY X0 hx 23 (hb hby d36_12) (flt (by decide)).2.2.2 (by decide) (by decide) ?_
  refine og_iloadN X0 hx (hb hby d36_23) rfl ?_
  exact own_retI X0 hx hret hlk (hb hby d36_24) rfl (by simp) (by decide) (by decide) (⟨rfl, N0, e0⟩)
def own_r_own_sbo1 : Room := { frames := 1, cells := 0, slots := 0, locals := 15 }
theorem own_sbo1 (l : Launch) (Z : State) (a0 : Array Value) (hw : own_W a0 Z) (z : Int32) (sf : Value) (h0 : Heap) (n0 : Nat) (hO : Old Z n0 h0) (hG : own_Gs Z z sf) :
    own_Met l Z (⟨"java/lang/String", "checkBoundsOffCount", "(III)I"⟩ : MethodName) jdk_42_method_157_code 3 (some .int) own_r_own_sbo1 #[(.int 1), (.int 1), (.int 2)] h0 (own_Qv (some (.int 1)) h0 n0) := by
  refine own_body (by decide +kernel) ?_
  intro p e s m below meth c T0 X0 hx hZ hby hml hown hnm hret hlk e0
  have N0 := Fr.nil n0
  refine own_cast (own_frame (L := [iv 1, iv 1, iv 2]) (ls := #[iv 1, iv 1, iv 2]) rfl rfl) ?_
  obtain ⟨SC, hz, SF, rf⟩ := id hG
  refine og_iloadN X0 hx (hb hby d35_0) rfl ?_
  refine og_iloadN X0 hx (hb hby d35_1) rfl ?_
  refine og_iloadN X0 hx (hb hby d35_2) rfl ?_
  refine og_getS X0 hx hZ hown (own_hw hw 60 rfl) Via.refl e0 (SF.ext hO.2) (hb hby d35_3) ?_
  intro T1 X1 e1
  show own_Go p e below _ T1 (mkF m 6 #[iv 1, iv 1, iv 2] [sf, (.int 2), (.int 1), (.int 1)])
  refine own_callS X1 hx hZ hown (own_hw hw 150 rfl) (own_hw hw 151 rfl) (own_hw hw 61 rfl) (own_hw hw 152 rfl) (by decide) (argsL := [(.int 1), (.int 1), (.int 2), sf]) (rest := []) (own_cfs1 l Z a0 hw sf h0 n0 rf) e1 (by rw [hml]; rfl) (lenOf own_pd49920 rfl) rfl (hb hby d35_6) (W := 0) (Nat.le_of_eq rfl) (by decide) ?_
  intro v2 T2 L2 X2 q2
  obtain ⟨rfl, N2q, e2⟩ := q2
  have N2 := Fr.app N0 N2q
  show own_Go p e below _ T2 (mkF m 9 #[iv 1, iv 1, iv 2] [(.int 1)])
  exact own_retI X2 hx hret hlk (hb hby d35_9) rfl (by simp) (by decide) (by decide) (⟨rfl, N2, e2⟩)
def own_r_own_ubo1 : Room := { frames := 2, cells := 0, slots := 0, locals := 29 }
theorem own_ubo1 (l : Launch) (Z : State) (a0 : Array Value) (hw : own_W a0 Z) (z : Int32) (sf : Value) (b : Addr) (kb : ClassId) (dv : Value) (c0 c1 : Int32) (h0 : Heap) (n0 : Nat) (hO : Old Z n0 h0) (hG : own_Gs Z z sf) (Ab : Arv Z h0 b kb .byte 4 [(.int (own_lo c0)), (.int (own_hi c0)), (.int (own_lo c1)), (.int (own_hi c1))] dv) :
    own_Met l Z (⟨"java/lang/StringUTF16", "checkBoundsOffCount", "(II[B)V"⟩ : MethodName) jdk_52_method_94_code 3 none own_r_own_ubo1 #[(.int 1), (.int 1), (.ref b)] h0 (own_Qv none h0 n0) := by
  refine own_body (by decide +kernel) ?_
  intro p e s m below meth c T0 X0 hx hZ hby hml hown hnm hret hlk e0
  have N0 := Fr.nil n0
  refine own_cast (own_frame (L := [iv 1, iv 1, rv b]) (ls := #[iv 1, iv 1, rv b]) rfl rfl) ?_
  obtain ⟨SC, hz, SF, rf⟩ := id hG
  refine og_iloadN X0 hx (hb hby d34_0) rfl ?_
  refine og_iloadN X0 hx (hb hby d34_1) rfl ?_
  refine og_aloadN X0 hx (hb hby d34_2) rfl rfl ?_
  refine own_callS X0 hx hZ hown (own_hw hw 104 rfl) (own_hw hw 105 rfl) (own_hw hw 21 rfl) (own_hw hw 106 rfl) (by decide) (argsL := [(.ref b)]) (rest := [(.int 1), (.int 1)]) (own_ul2 l Z a0 hw b _ _ c0 c1 h0 n0 Ab) e0 (by rw [hml]; rfl) (lenOf own_pd17994 rfl) rfl (hb hby d34_3) (W := 2) (Nat.le_of_eq rfl) (by decide) ?_
  intro v1 T1 L1 X1 q1
  obtain ⟨rfl, N1q, e1⟩ := q1
  have N1 := Fr.app N0 N1q
  show own_Go p e below _ T1 (mkF m 6 #[iv 1, iv 1, rv b] [(.int 2), (.int 1), (.int 1)])
  refine own_callS X1 hx hZ hown (own_hw hw 147 rfl) (own_hw hw 148 rfl) (own_hw hw 6 rfl) (own_hw hw 149 rfl) (by decide) (argsL := [(.int 1), (.int 1), (.int 2)]) (rest := []) (own_sbo1 l Z a0 hw z sf h0 n0 hO hG) e1 (by rw [hml]; rfl) (lenOf own_pd86983 rfl) rfl (hb hby d34_6) (W := 0) (Nat.le_of_eq rfl) (by decide) ?_
  intro v2 T2 L2 X2 q2
  obtain ⟨rfl, N2q, e2⟩ := q2
  have N2 := Fr.app N1 N2q
  show own_Go p e below _ T2 (mkF m 9 #[iv 1, iv 1, rv b] [(.int 1)])
  refine og_pop X2 hx (hb hby d34_9) rfl ?_
  exact own_retV X2 hx hret hlk (hb hby d34_10) (by decide) (by decide) (⟨rfl, N2, e2⟩)
theorem own_dm_1_0 (l : Launch) (Z : State) (a0 : Array Value) (hw : own_W a0 Z) (z : Int32) (sf : Value) (b d : Addr) (kb kd : ClassId) (dv : Value) (c0 c1 : Int32) (h0 : Heap) (n0 : Nat) (hO : Old Z n0 h0) (hG : own_Gs Z z sf) (hU : own_Us Z) (hR1 : own_R c1) (gd : n0 ≤ d) (nbd : b ≠ d) (m1 : (255 : Int32) < c1) (Ab : Arv Z h0 b kb .byte 4 [(.int (own_lo c0)), (.int (own_hi c0)), (.int (own_lo c1)), (.int (own_hi c1))] dv) (Ad : Arv Z h0 d kd .byte 1 [(.int (0 : Int32))] (.int (0 : Int32))) :
    own_Met l Z (⟨"java/lang/StringUTF16", "compress", "([BI[BII)I"⟩ : MethodName) jdk_52_method_22_code 7 (some .int) own_r_own_dm_2_0 #[(.ref b), (.int 1), (.ref d), (.int 0), (.int 1)] h0 (own_Qc Z d kd 0 1 [(.int (0 : Int32))] h0 n0) := by
  refine own_body (by decide +kernel) ?_
  intro p e s m below meth c T0 X0 hx hZ hby hml hown hnm hret hlk e0
  have N0 := Fr.nil n0
  refine own_cast (own_frame (L := [rv b, iv 1, rv d, iv 0, iv 1]) (ls := #[rv b, iv 1, rv d, iv 0, iv 1, .unset, .unset]) rfl rfl) ?_
  obtain ⟨SC, hz, SF, rf⟩ := id hG
  refine og_iloadN X0 hx (hb hby d33_0) rfl ?_
  refine og_iload X0 hx (hb hby d33_1) rfl ?_
  refine og_aloadN X0 hx (hb hby d33_3) rfl rfl ?_
  refine own_callS X0 hx hZ hown (own_hw hw 144 rfl) (own_hw hw 145 rfl) (own_hw hw 21 rfl) (own_hw hw 146 rfl) (by decide) (argsL := [(.int 1), (.int 1), (.ref b)]) (rest := []) (own_ubo1 l Z a0 hw z sf b _ _ c0 c1 h0 n0 hO hG Ab) e0 (by rw [hml]; rfl) (lenOf own_pd30302 rfl) rfl (hb hby d33_4) (W := 0) (Nat.le_of_eq rfl) (by decide) ?_
  intro v1 T1 L1 X1 q1
  obtain ⟨rfl, N1q, e1⟩ := q1
  have N1 := Fr.app N0 N1q
  show own_Go p e below _ T1 (mkF m 7 #[rv b, iv 1, rv d, iv 0, iv 1, .unset, .unset] [])
  refine og_iconst X1 hx (hb hby d33_7) ?_
  refine og_istore X1 hx #[rv b, iv 1, rv d, iv 0, iv 1, iv 0, .unset] (hb hby d33_8) rfl ?_
  refine og_iload X1 hx (hb hby d33_10) rfl ?_
  refine og_iload X1 hx (hb hby d33_12) rfl ?_
  refine og_icN X1 hx (hb hby d33_14) (tlt (by decide)).2.1 ?_
  refine og_aloadN X1 hx (hb hby d33_17) rfl rfl ?_
  refine og_iloadN X1 hx (hb hby d33_18) rfl ?_
  refine own_callS X1 hx hZ hown (own_hw hw 95 rfl) (own_hw hw 96 rfl) (own_hw hw 21 rfl) (own_hw hw 97 rfl) (by decide) (argsL := [(.ref b), (.int 1)]) (rest := []) (own_gt_1_2 l Z a0 hw b _ _ c1 (.int (own_lo c0)) (.int (own_hi c0)) h0 n0 hO hU hR1 Ab) e1 (by rw [hml]; rfl) (lenOf own_pd27418 rfl) rfl (hb hby d33_19) (W := 0) (Nat.le_of_eq rfl) (by decide) ?_
  intro v2 T2 L2 X2 q2
  obtain ⟨rfl, N2q, e2⟩ := q2
  have N2 := Fr.app N1 N2q
  show own_Go p e below _ T2 (mkF m 22 #[rv b, iv 1, rv d, iv 0, iv 1, iv 0, .unset] [(.int c1)])
  refine og_istore X2 hx #[rv b, iv 1, rv d, iv 0, iv 1, iv 0, iv c1] (hb hby d33_22) rfl ?_
  refine og_iload X2 hx (hb hby d33_24) rfl ?_
  refine og_sipush X2 hx (hb hby d33_26) ?_
  refine og_icN X2 hx (hb hby d33_29) (tlt m1).2.2.2 ?_
  refine og_iload X2 hx (hb hby d33_32) rfl ?_
  exact own_retI X2 hx hret hlk (hb hby d33_34) rfl (by simp) (by decide) (by decide) (by rw [e2]; exact ⟨rfl, N2, (Keep.refl h0 [d]), Ad⟩)
theorem own_dm_1_1 (l : Launch) (Z : State) (a0 : Array Value) (hw : own_W a0 Z) (z : Int32) (sf : Value) (b d : Addr) (kb kd : ClassId) (dv : Value) (c0 c1 : Int32) (h0 : Heap) (n0 : Nat) (hO : Old Z n0 h0) (hG : own_Gs Z z sf) (hU : own_Us Z) (hR1 : own_R c1) (gd : n0 ≤ d) (nbd : b ≠ d) (m1 : ¬ (255 : Int32) < c1) (Ab : Arv Z h0 b kb .byte 4 [(.int (own_lo c0)), (.int (own_hi c0)), (.int (own_lo c1)), (.int (own_hi c1))] dv) (Ad : Arv Z h0 d kd .byte 1 [(.int (0 : Int32))] (.int (0 : Int32))) :
    own_Met l Z (⟨"java/lang/StringUTF16", "compress", "([BI[BII)I"⟩ : MethodName) jdk_52_method_22_code 7 (some .int) own_r_own_dm_2_0 #[(.ref b), (.int 1), (.ref d), (.int 0), (.int 1)] h0 (own_Qc Z d kd 1 1 [(.int c1.toInt8.toInt32)] h0 n0) := by
  refine own_body (by decide +kernel) ?_
  intro p e s m below meth c T0 X0 hx hZ hby hml hown hnm hret hlk e0
  have N0 := Fr.nil n0
  refine own_cast (own_frame (L := [rv b, iv 1, rv d, iv 0, iv 1]) (ls := #[rv b, iv 1, rv d, iv 0, iv 1, .unset, .unset]) rfl rfl) ?_
  obtain ⟨SC, hz, SF, rf⟩ := id hG
  refine og_iloadN X0 hx (hb hby d33_0) rfl ?_
  refine og_iload X0 hx (hb hby d33_1) rfl ?_
  refine og_aloadN X0 hx (hb hby d33_3) rfl rfl ?_
  refine own_callS X0 hx hZ hown (own_hw hw 144 rfl) (own_hw hw 145 rfl) (own_hw hw 21 rfl) (own_hw hw 146 rfl) (by decide) (argsL := [(.int 1), (.int 1), (.ref b)]) (rest := []) (own_ubo1 l Z a0 hw z sf b _ _ c0 c1 h0 n0 hO hG Ab) e0 (by rw [hml]; rfl) (lenOf own_pd30302 rfl) rfl (hb hby d33_4) (W := 0) (Nat.le_of_eq rfl) (by decide) ?_
  intro v1 T1 L1 X1 q1
  obtain ⟨rfl, N1q, e1⟩ := q1
  have N1 := Fr.app N0 N1q
  show own_Go p e below _ T1 (mkF m 7 #[rv b, iv 1, rv d, iv 0, iv 1, .unset, .unset] [])
  refine og_iconst X1 hx (hb hby d33_7) ?_
  refine og_istore X1 hx #[rv b, iv 1, rv d, iv 0, iv 1, iv 0, .unset] (hb hby d33_8) rfl ?_
  refine og_iload X1 hx (hb hby d33_10) rfl ?_
  refine og_iload X1 hx (hb hby d33_12) rfl ?_
  refine og_icN X1 hx (hb hby d33_14) (tlt (by decide)).2.1 ?_
  refine og_aloadN X1 hx (hb hby d33_17) rfl rfl ?_
  refine og_iloadN X1 hx (hb hby d33_18) rfl ?_
  refine own_callS X1 hx hZ hown (own_hw hw 95 rfl) (own_hw hw 96 rfl) (own_hw hw 21 rfl) (own_hw hw 97 rfl) (by decide) (argsL := [(.ref b), (.int 1)]) (rest := []) (own_gt_1_2 l Z a0 hw b _ _ c1 (.int (own_lo c0)) (.int (own_hi c0)) h0 n0 hO hU hR1 Ab) e1 (by rw [hml]; rfl) (lenOf own_pd27418 rfl) rfl (hb hby d33_19) (W := 0) (Nat.le_of_eq rfl) (by decide) ?_
  intro v2 T2 L2 X2 q2
  obtain ⟨rfl, N2q, e2⟩ := q2
  have N2 := Fr.app N1 N2q
  show own_Go p e below _ T2 (mkF m 22 #[rv b, iv 1, rv d, iv 0, iv 1, iv 0, .unset] [(.int c1)])
  refine og_istore X2 hx #[rv b, iv 1, rv d, iv 0, iv 1, iv 0, iv c1] (hb hby d33_22) rfl ?_
  refine og_iload X2 hx (hb hby d33_24) rfl ?_
  refine og_sipush X2 hx (hb hby d33_26) ?_
  refine og_icY X2 hx 35 (hb hby d33_29) (flt m1).2.2.2 (by decide) (by decide) ?_
  refine og_aloadN X2 hx (hb hby d33_35) rfl rfl ?_
  refine og_iloadN X2 hx (hb hby d33_36) rfl ?_
  refine og_iload X2 hx (hb hby d33_37) rfl ?_
  refine own_go (fun t k => XS.i2b X2.here hx rfl (hb hby d33_39) rfl k) ?_
  show own_Go p e below _ T2 (mkF m 40 #[rv b, iv 1, rv d, iv 0, iv 1, iv 0, iv c1] [(.int (c1.toInt8.toInt32)), (.int 0), (.ref d)])
  refine own_stB X2 hx hZ e2 Ad ⟨by decide, by decide⟩ 0 rfl (by show 0 < 1; decide) (hb hby d33_40) ?_
  intro T3 h3 X3 e3 W3 A3
  have A_b_3 := Ab.other W3 nbd
  have O3 := hO.wr W3 gd
  have K3 := (Keep.refl h0 [d]).wr W3 (Or.inl (by simp))
  have N3 := Fr.snoc X3 N2 gd
  have A_d_3 : Arv Z h3 d kd .byte 1 [(.int c1.toInt8.toInt32)] (.int (0 : Int32)) := (by have q := A3; rw [own_bb c1] at q; exact q)
  show own_Go p e below _ T3 (mkF m 41 #[rv b, iv 1, rv d, iv 0, iv 1, iv 0, iv c1] [])
  refine own_go (fun t k => XS.iinc X3.here hx rfl (hb hby d33_41) rfl (l' := #[rv b, iv 2, rv d, iv 0, iv 1, iv 0, iv c1]) rfl k) ?_
  show own_Go p e below _ T3 (mkF m 44 #[rv b, iv 2, rv d, iv 0, iv 1, iv 0, iv c1] [])
  refine own_go (fun t k => XS.iinc X3.here hx rfl (hb hby d33_44) rfl (l' := #[rv b, iv 2, rv d, iv 1, iv 1, iv 0, iv c1]) rfl k) ?_
  show own_Go p e below _ T3 (mkF m 47 #[rv b, iv 2, rv d, iv 1, iv 1, iv 0, iv c1] [])
  refine own_go (fun t k => XS.iinc X3.here hx rfl (hb hby d33_47) rfl (l' := #[rv b, iv 2, rv d, iv 1, iv 1, iv 1, iv c1]) rfl k) ?_
  show own_Go p e below _ T3 (mkF m 50 #[rv b, iv 2, rv d, iv 1, iv 1, iv 1, iv c1] [])
  refine og_goto X3 hx 10 (hb hby d33_50) (by decide) (by decide) ?_
  refine og_iload X3 hx (hb hby d33_10) rfl ?_
  refine og_iload X3 hx (hb hby d33_12) rfl ?_
  refine og_icY X3 hx 53 (hb hby d33_14) (flt (by decide)).2.1 (by decide) (by decide) ?_
  refine og_iload X3 hx (hb hby d33_53) rfl ?_
  exact own_retI X3 hx hret hlk (hb hby d33_55) rfl (by simp) (by decide) (by decide) (by rw [e3]; exact ⟨rfl, N3, K3, A_d_3⟩)
def own_r_own_ckl_2_4 : Room := { frames := 0, cells := 0, slots := 0, locals := 0 }
theorem own_ckl_2_4 (l : Launch) (Z : State) (a0 : Array Value) (hw : own_W a0 Z)  (h0 : Heap) (n0 : Nat)  :
    own_Met l Z (⟨"java/util/Arrays", "checkLength", "(II)V"⟩ : MethodName) jdk_65_method_131_code 2 none own_r_own_ckl_2_4 #[(.int 2), (.int 4)] h0 (own_Qv none h0 n0) := by
  refine own_body (by decide +kernel) ?_
  intro p e s m below meth c T0 X0 hx hZ hby hml hown hnm hret hlk e0
  have N0 := Fr.nil n0
  refine own_cast (own_frame (L := [iv 2, iv 4]) (ls := #[iv 2, iv 4]) rfl rfl) ?_
  refine og_iloadN X0 hx (hb hby d39_0) rfl ?_
  refine og_iloadN X0 hx (hb hby d39_1) rfl ?_
  refine og_icY X0 hx 37 (hb hby d39_2) (flt (by decide)).2.1 (by decide) (by decide) ?_
  exact own_retV X0 hx hret hlk (hb hby d39_37) (by decide) (by decide) (⟨rfl, N0, e0⟩)
def own_r_own_min_2_2 : Room := { frames := 0, cells := 0, slots := 0, locals := 0 }
theorem own_min_2_2 (l : Launch) (Z : State) (a0 : Array Value) (hw : own_W a0 Z)  (h0 : Heap) (n0 : Nat)  :
    own_Met l Z (⟨"java/lang/Math", "min", "(II)I"⟩ : MethodName) jdk_29_method_69_code 2 (some .int) own_r_own_min_2_2 #[(.int 2), (.int 2)] h0 (own_Qv (some (.int (2))) h0 n0) := by
  refine own_body (by decide +kernel) ?_
  intro p e s m below meth c T0 X0 hx hZ hby hml hown hnm hret hlk e0
  have N0 := Fr.nil n0
  refine own_cast (own_frame (L := [iv 2, iv 2]) (ls := #[iv 2, iv 2]) rfl rfl) ?_
  refine og_iloadN X0 hx (hb hby d40_0) rfl ?_
  refine og_iloadN X0 hx (hb hby d40_1) rfl ?_
  refine og_icN X0 hx (hb hby d40_2) (flt (by decide)).2.2.1 ?_
  refine og_iloadN X0 hx (hb hby d40_5) rfl ?_
  refine og_goto X0 hx 10 (hb hby d40_6) (by decide) (by decide) ?_
  exact own_retI X0 hx hret hlk (hb hby d40_10) rfl (by simp) (by decide) (by decide) (⟨rfl, N0, e0⟩)
def own_Qr_2_4_4 (Z : State) (h0 : Heap) (n0 : Nat) (v0 v1 v2 v3 : Value) (v : Option Value) (h : Heap) (L : List Loc) : Prop := ∃ (b : Addr) (k : ClassId), v = some (.ref b) ∧ Fr n0 L ∧ Keep h0 h [] ∧ h0.size ≤ b ∧ n0 ≤ b ∧ Arv Z h b k .byte 2 [v2, v3] (.int (0 : Int32))
def own_r_own_crb_2_4_4 : Room := { frames := 1, cells := 1, slots := 2, locals := 18 }
theorem own_crb_2_4_4 (l : Launch) (Z : State) (a0 : Array Value) (hw : own_W a0 Z) (b : Addr) (kb : ClassId) (dv : Value) (v0 v1 v2 v3 : Value) (h0 : Heap) (n0 : Nat) (hO : Old Z n0 h0) (Ab : Arv Z h0 b kb .byte 4 [v0, v1, v2, v3] dv) :
    own_Met l Z (⟨"java/util/Arrays", "copyOfRangeByte", "([BII)[B"⟩ : MethodName) jdk_65_method_133_code 5 (some (.array .byte)) own_r_own_crb_2_4_4 #[(.ref b), (.int 2), (.int 4)] h0 (own_Qr_2_4_4 Z h0 n0 v0 v1 v2 v3) := by
  refine own_body (by decide +kernel) ?_
  intro p e s m below meth c T0 X0 hx hZ hby hml hown hnm hret hlk e0
  have N0 := Fr.nil n0
  refine own_cast (own_frame (L := [rv b, iv 2, iv 4]) (ls := #[rv b, iv 2, iv 4, .unset, .unset]) rfl rfl) ?_
  refine og_iloadN X0 hx (hb hby d38_0) rfl ?_
  refine og_iloadN X0 hx (hb hby d38_1) rfl ?_
  refine own_callS X0 hx hZ hown (own_hw hw 160 rfl) (own_hw hw 161 rfl) (own_hw hw 155 rfl) (own_hw hw 162 rfl) (by decide) (argsL := [(.int 2), (.int 4)]) (rest := []) (own_ckl_2_4 l Z a0 hw h0 n0) e0 (by rw [hml]; rfl) (lenOf own_pd97226 rfl) rfl (hb hby d38_2) (W := 0) (Nat.le_of_eq rfl) (by decide) ?_
  intro v1 T1 L1 X1 q1
  obtain ⟨rfl, N1q, e1⟩ := q1
  have N1 := Fr.app N0 N1q
  show own_Go p e below _ T1 (mkF m 5 #[rv b, iv 2, iv 4, .unset, .unset] [])
  refine og_iloadN X1 hx (hb hby d38_5) rfl ?_
  refine og_iloadN X1 hx (hb hby d38_6) rfl ?_
  refine og_isub X1 hx (hb hby d38_7) ?_
  refine og_istoreN X1 hx #[rv b, iv 2, iv 4, iv 2, .unset] (hb hby d38_8) rfl ?_
  refine og_iloadN X1 hx (hb hby d38_9) rfl ?_
  refine own_newP X1 hx hZ (own_hw hw 23 rfl) e1 (hb hby d38_10) (by decide) 2 (by decide) (by decide) (by decide) (by decide) ?_
  intro T2 h2 k2 b2 g2 X2 e2 E2 A2
  have ne_b_b2 : b ≠ b2 := Nat.ne_of_lt (Nat.lt_of_lt_of_eq Ab.lt g2.symm)
  have ge_b2 : n0 ≤ b2 := Nat.le_trans (own_oldle hO) (Nat.le_of_eq g2.symm)
  have sz_b2 : h0.size ≤ b2 := Nat.le_trans (Keep.refl h0 []).1 (Nat.le_of_eq g2.symm)
  have A_b_2 := Ab.ext E2
  have O2 := hO.ext E2
  have K2 := (Keep.refl h0 []).ext E2
  have A_b2_2 : Arv Z h2 b2 k2 .byte 2 [(.int (0 : Int32)), (.int (0 : Int32))] (.int (0 : Int32)) := A2
  show own_Go p e below _ T2 (mkF m 12 #[rv b, iv 2, iv 4, iv 2, .unset] [(.ref b2)])
  refine og_astore X2 hx #[rv b, iv 2, iv 4, iv 2, rv b2] (hb hby d38_12) rfl rfl ?_
  refine og_aloadN X2 hx (hb hby d38_14) rfl rfl ?_
  refine og_iloadN X2 hx (hb hby d38_15) rfl ?_
  refine og_aload X2 hx (hb hby d38_16) rfl rfl ?_
  refine og_iconst X2 hx (hb hby d38_18) ?_
  refine og_aloadN X2 hx (hb hby d38_19) rfl rfl ?_
  refine own_len X2 hx hZ e2 A_b_2 (hb hby d38_20) ?_
  show own_Go p e below _ T2 (mkF m 21 #[rv b, iv 2, iv 4, iv 2, rv b2] [(.int 4), (.int 0), (.ref b2), (.int 2), (.ref b)])
  refine og_iloadN X2 hx (hb hby d38_21) rfl ?_
  refine og_isub X2 hx (hb hby d38_22) ?_
  refine og_iloadN X2 hx (hb hby d38_23) rfl ?_
  refine own_callS X2 hx hZ hown (own_hw hw 163 rfl) (own_hw hw 164 rfl) (own_hw hw 165 rfl) (own_hw hw 166 rfl) (by decide) (argsL := [(.int 2), (.int 2)]) (rest := [(.int 0), (.ref b2), (.int 2), (.ref b)]) (own_min_2_2 l Z a0 hw h2 n0) e2 (by rw [hml]; rfl) (lenOf own_pd23903 rfl) rfl (hb hby d38_24) (W := 4) (Nat.le_of_eq rfl) (by decide) ?_
  intro v3 T3 L3 X3 q3
  obtain ⟨rfl, N3q, e3⟩ := q3
  have N3 := Fr.app N1 N3q
  show own_Go p e below _ T3 (mkF m 27 #[rv b, iv 2, iv 4, iv 2, rv b2] [(.int 2), (.int 0), (.ref b2), (.int 2), (.ref b)])
  obtain ⟨T4, h4, L4, X4, e4, N4, K4q, A4, st4⟩ := cpA X3 hx hZ hown (own_hw hw 167 rfl) (own_hw hw 170 rfl) (own_hw hw 168 rfl) (own_hw hw 169 rfl) e3 A_b_2 A_b2_2 (us := [v2, v3]) (Or.inl ⟨rfl, rfl⟩) (by decide) (by decide) (by decide) (by decide) (by decide) rfl (by decide) N3 ge_b2 (g := (mkF m 27 #[rv b, iv 2, iv 4, iv 2, rv b2] [(.int 2), (.int 0), (.ref b2), (.int 2), (.ref b)])) rfl (by rw [hml]; rfl) rfl (hb hby d38_27) (by decide) (W := 0) (by show 2 * 0 + _ ≤ _; exact Nat.le_of_eq rfl) (by decide)
  refine own_go st4 ?_
  have A_b_4 := A_b_2.keep K4q (ninS ne_b_b2 nin0)
  have O4 := O2.keep K4q (allS ge_b2 all0)
  have K4 := K2.trans K4q (allS (Or.inr sz_b2) all0)
  have A_b2_4 : Arv Z h4 b2 k2 .byte 2 [v2, v3] (.int (0 : Int32)) := A4
  show own_Go p e below _ T4 (mkF m 30 #[rv b, iv 2, iv 4, iv 2, rv b2] [])
  refine og_aload X4 hx (hb hby d38_30) rfl rfl ?_
  exact own_retA X4 hx hret hlk (hb hby d38_32) rfl rfl (by decide) (by decide) (by rw [e4]; exact ⟨b2, _, rfl, N4, K4, sz_b2, ge_b2, A_b2_4⟩)
def own_r_own_cr_2_4_4 : Room := { frames := 2, cells := 1, slots := 2, locals := 34 }
theorem own_cr_2_4_4 (l : Launch) (Z : State) (a0 : Array Value) (hw : own_W a0 Z) (b : Addr) (kb : ClassId) (dv : Value) (v0 v1 v2 v3 : Value) (h0 : Heap) (n0 : Nat) (hO : Old Z n0 h0) (Ab : Arv Z h0 b kb .byte 4 [v0, v1, v2, v3] dv) :
    own_Met l Z (⟨"java/util/Arrays", "copyOfRange", "([BII)[B"⟩ : MethodName) jdk_65_method_132_code 3 (some (.array .byte)) own_r_own_cr_2_4_4 #[(.ref b), (.int 2), (.int 4)] h0 (own_Qr_2_4_4 Z h0 n0 v0 v1 v2 v3) := by
  refine own_body (by decide +kernel) ?_
  intro p e s m below meth c T0 X0 hx hZ hby hml hown hnm hret hlk e0
  have N0 := Fr.nil n0
  refine own_cast (own_frame (L := [rv b, iv 2, iv 4]) (ls := #[rv b, iv 2, iv 4]) rfl rfl) ?_
  refine og_iloadN X0 hx (hb hby d37_0) rfl ?_
  refine og_ifY X0 hx 10 (hb hby d37_1) (feq (by decide)).2 (by decide) (by decide) ?_
  refine og_aloadN X0 hx (hb hby d37_10) rfl rfl ?_
  refine og_iloadN X0 hx (hb hby d37_11) rfl ?_
  refine og_iloadN X0 hx (hb hby d37_12) rfl ?_
  refine own_callS X0 hx hZ hown (own_hw hw 157 rfl) (own_hw hw 158 rfl) (own_hw hw 155 rfl) (own_hw hw 159 rfl) (by decide) (argsL := [(.ref b), (.int 2), (.int 4)]) (rest := []) (own_crb_2_4_4 l Z a0 hw b _ _ v0 v1 v2 v3 h0 n0 hO Ab) e0 (by rw [hml]; rfl) (lenOf own_pd77155 rfl) rfl (hb hby d37_13) (W := 0) (Nat.le_of_eq rfl) (by decide) ?_
  intro v1 T1 L1 X1 q1
  obtain ⟨b1, k1, rfl, N1q, K1q, z1q, g1q, A1q⟩ := q1
  have N1 := Fr.app N0 N1q
  have ne_b_b1 : b ≠ b1 := Nat.ne_of_lt (Nat.lt_of_lt_of_le Ab.lt z1q)
  have sz_b1 : h0.size ≤ b1 := Nat.le_trans (Keep.refl h0 []).1 z1q
  have A_b_1 := Ab.keep K1q nin0
  have O1 := hO.keep K1q all0
  have K1 := (Keep.refl h0 []).trans K1q all0
  show own_Go p e below _ T1 (mkF m 16 #[rv b, iv 2, iv 4] [(.ref b1)])
  exact own_retA X1 hx hret hlk (hb hby d37_16) rfl rfl (by decide) (by decide) (⟨b1, _, rfl, N1, K1, sz_b1, g1q, A1q⟩)
theorem own_db_1_0 (l : Launch) (Z : State) (a0 : Array Value) (hw : own_W a0 Z) (z : Int32) (sf : Value) (b : Addr) (kb : ClassId) (dv : Value) (c0 c1 : Int32) (h0 : Heap) (n0 : Nat) (hO : Old Z n0 h0) (hG : own_Gs Z z sf) (hU : own_Us Z) (hR1 : own_R c1) (m1 : (255 : Int32) < c1) (Ab : Arv Z h0 b kb .byte 4 [(.int (own_lo c0)), (.int (own_hi c0)), (.int (own_lo c1)), (.int (own_hi c1))] dv) :
    own_Met l Z (⟨"java/lang/StringUTF16", "compress", "([BII)[B"⟩ : MethodName) jdk_52_method_17_code 6 (some (.array .byte)) own_r_own_db_2_0 #[(.ref b), (.int 1), (.int 1)] h0 (own_Qb Z 2 [(.int (own_lo c1)), (.int (own_hi c1))] h0 n0) := by
  refine own_body (by decide +kernel) ?_
  intro p e s m below meth c T0 X0 hx hZ hby hml hown hnm hret hlk e0
  have N0 := Fr.nil n0
  refine own_cast (own_frame (L := [rv b, iv 1, iv 1]) (ls := #[rv b, iv 1, iv 1, .unset, .unset, .unset]) rfl rfl) ?_
  obtain ⟨SC, hz, SF, rf⟩ := id hG
  refine og_iloadN X0 hx (hb hby d32_0) rfl ?_
  refine own_newP X0 hx hZ (own_hw hw 23 rfl) e0 (hb hby d32_1) (by decide) 1 (by decide) (by decide) (by decide) (by decide) ?_
  intro T1 h1 k1 b1 g1 X1 e1 E1 A1
  have ne_b_b1 : b ≠ b1 := Nat.ne_of_lt (Nat.lt_of_lt_of_eq Ab.lt g1.symm)
  have ge_b1 : n0 ≤ b1 := Nat.le_trans (own_oldle hO) (Nat.le_of_eq g1.symm)
  have sz_b1 : h0.size ≤ b1 := Nat.le_trans (Keep.refl h0 []).1 (Nat.le_of_eq g1.symm)
  have A_b_1 := Ab.ext E1
  have O1 := hO.ext E1
  have K1 := (Keep.refl h0 []).ext E1
  have A_b1_1 : Arv Z h1 b1 k1 .byte 1 [(.int (0 : Int32))] (.int (0 : Int32)) := A1
  show own_Go p e below _ T1 (mkF m 3 #[rv b, iv 1, iv 1, .unset, .unset, .unset] [(.ref b1)])
  refine og_astoreN X1 hx #[rv b, iv 1, iv 1, rv b1, .unset, .unset] (hb hby d32_3) rfl rfl ?_
  refine og_aloadN X1 hx (hb hby d32_4) rfl rfl ?_
  refine og_iloadN X1 hx (hb hby d32_5) rfl ?_
  refine og_aloadN X1 hx (hb hby d32_6) rfl rfl ?_
  refine og_iconst X1 hx (hb hby d32_7) ?_
  refine og_iloadN X1 hx (hb hby d32_8) rfl ?_
  refine own_callS X1 hx hZ hown (own_hw hw 141 rfl) (own_hw hw 142 rfl) (own_hw hw 21 rfl) (own_hw hw 143 rfl) (by decide) (argsL := [(.ref b), (.int 1), (.ref b1), (.int 0), (.int 1)]) (rest := []) (own_dm_1_0 l Z a0 hw z sf b b1 _ _ _ c0 c1 h1 n0 O1 hG hU hR1 ge_b1 ne_b_b1 m1 A_b_1 A_b1_1) e1 (by rw [hml]; rfl) (lenOf own_pd11257 rfl) rfl (hb hby d32_9) (W := 0) (Nat.le_of_eq rfl) (by decide) ?_
  intro v2 T2 L2 X2 q2
  obtain ⟨rfl, N2q, K2q, A2q⟩ := q2
  have N2 := Fr.app N0 N2q
  have A_b_2 := A_b_1.keep K2q (ninS ne_b_b1 nin0)
  have O2 := O1.keep K2q (allS ge_b1 all0)
  have K2 := K1.trans K2q (allS (Or.inr sz_b1) all0)
  show own_Go p e below _ T2 (mkF m 12 #[rv b, iv 1, iv 1, rv b1, .unset, .unset] [(.int 0)])
  refine og_istore X2 hx #[rv b, iv 1, iv 1, rv b1, iv 0, .unset] (hb hby d32_12) rfl ?_
  refine og_iload X2 hx (hb hby d32_14) rfl ?_
  refine og_iloadN X2 hx (hb hby d32_16) rfl ?_
  refine og_icN X2 hx (hb hby d32_17) (feq (by decide)).1 ?_
  refine og_aloadN X2 hx (hb hby d32_20) rfl rfl ?_
  refine og_iloadN X2 hx (hb hby d32_21) rfl ?_
  refine og_iconst X2 hx (hb hby d32_22) ?_
  refine own_go (fun t k => XS.ishl X2.here hx rfl (hb hby d32_23) rfl k) ?_
  show own_Go p e below _ T2 (mkF m 24 #[rv b, iv 1, iv 1, rv b1, iv 0, .unset] [(.int 2), (.ref b)])
  refine og_iloadN X2 hx (hb hby d32_24) rfl ?_
  refine og_iloadN X2 hx (hb hby d32_25) rfl ?_
  refine og_iadd X2 hx (hb hby d32_26) ?_
  show own_Go p e below _ T2 (mkF m 27 #[rv b, iv 1, iv 1, rv b1, iv 0, .unset] [(.int 2), (.int 2), (.ref b)])
  refine own_callS X2 hx hZ hown (own_hw hw 85 rfl) (own_hw hw 86 rfl) (own_hw hw 21 rfl) (own_hw hw 87 rfl) (by decide) (argsL := [(.int 2)]) (rest := [(.int 2), (.ref b)]) (own_nbl2 l Z a0 hw T2.heap n0) rfl (by rw [hml]; rfl) (lenOf own_pd49053 rfl) rfl (hb hby d32_27) (W := 2) (Nat.le_of_eq rfl) (by decide) ?_
  intro v3 T3 L3 X3 q3
  obtain ⟨rfl, N3q, e3⟩ := q3
  have N3 := Fr.app N2 N3q
  show own_Go p e below _ T3 (mkF m 30 #[rv b, iv 1, iv 1, rv b1, iv 0, .unset] [(.int 4), (.int 2), (.ref b)])
  refine own_callS X3 hx hZ hown (own_hw hw 153 rfl) (own_hw hw 154 rfl) (own_hw hw 155 rfl) (own_hw hw 156 rfl) (by decide) (argsL := [(.ref b), (.int 2), (.int 4)]) (rest := []) (own_cr_2_4_4 l Z a0 hw b _ _ (.int (own_lo c0)) (.int (own_hi c0)) (.int (own_lo c1)) (.int (own_hi c1)) T2.heap n0 O2 A_b_2) e3 (by rw [hml]; rfl) (lenOf own_pd77155 rfl) rfl (hb hby d32_30) (W := 0) (Nat.le_of_eq rfl) (by decide) ?_
  intro v4 T4 L4 X4 q4
  obtain ⟨b4, k4, rfl, N4q, K4q, z4q, g4q, A4q⟩ := q4
  have N4 := Fr.app N3 N4q
  have ne_b_b4 : b ≠ b4 := Nat.ne_of_lt (Nat.lt_of_lt_of_le A_b_2.lt z4q)
  have ne_b1_b4 : b1 ≠ b4 := Nat.ne_of_lt (Nat.lt_of_lt_of_le A2q.lt z4q)
  have sz_b4 : h0.size ≤ b4 := Nat.le_trans K2.1 z4q
  have A_b_4 := A_b_2.keep K4q nin0
  have A_b1_4 := A2q.keep K4q nin0
  have O4 := O2.keep K4q all0
  have K4 := K2.trans K4q all0
  show own_Go p e below _ T4 (mkF m 33 #[rv b, iv 1, iv 1, rv b1, iv 0, .unset] [(.ref b4)])
  refine og_astore X4 hx #[rv b, iv 1, iv 1, rv b1, iv 0, rv b4] (hb hby d32_33) rfl rfl ?_
  refine og_aload X4 hx (hb hby d32_35) rfl rfl ?_
  refine og_iload X4 hx (hb hby d32_37) rfl ?_
  refine own_callS X4 hx hZ hown (own_hw hw 95 rfl) (own_hw hw 96 rfl) (own_hw hw 21 rfl) (own_hw hw 97 rfl) (by decide) (argsL := [(.ref b4), (.int 0)]) (rest := []) (own_gt_0_1 l Z a0 hw b4 _ _ c1 T4.heap n0 O4 hU hR1 A4q) rfl (by rw [hml]; rfl) (lenOf own_pd27418 rfl) rfl (hb hby d32_39) (W := 0) (Nat.le_of_eq rfl) (by decide) ?_
  intro v5 T5 L5 X5 q5
  obtain ⟨rfl, N5q, e5⟩ := q5
  have N5 := Fr.app N4 N5q
  show own_Go p e below _ T5 (mkF m 42 #[rv b, iv 1, iv 1, rv b1, iv 0, rv b4] [(.int c1)])
  refine og_sipush X5 hx (hb hby d32_42) ?_
  refine og_icY X5 hx 61 (hb hby d32_45) (tlt m1).2.2.1 (by decide) (by decide) ?_
  refine og_aload X5 hx (hb hby d32_61) rfl rfl ?_
  exact own_retA X5 hx hret hlk (hb hby d32_63) rfl rfl (by decide) (by decide) (by rw [e5]; exact ⟨b4, _, rfl, N5, K4, sz_b4, g4q, A4q⟩)
theorem own_db_1_1 (l : Launch) (Z : State) (a0 : Array Value) (hw : own_W a0 Z) (z : Int32) (sf : Value) (b : Addr) (kb : ClassId) (dv : Value) (c0 c1 : Int32) (h0 : Heap) (n0 : Nat) (hO : Old Z n0 h0) (hG : own_Gs Z z sf) (hU : own_Us Z) (hR1 : own_R c1) (m1 : ¬ (255 : Int32) < c1) (Ab : Arv Z h0 b kb .byte 4 [(.int (own_lo c0)), (.int (own_hi c0)), (.int (own_lo c1)), (.int (own_hi c1))] dv) :
    own_Met l Z (⟨"java/lang/StringUTF16", "compress", "([BII)[B"⟩ : MethodName) jdk_52_method_17_code 6 (some (.array .byte)) own_r_own_db_2_0 #[(.ref b), (.int 1), (.int 1)] h0 (own_Qb Z 1 [(.int c1.toInt8.toInt32)] h0 n0) := by
  refine own_body (by decide +kernel) ?_
  intro p e s m below meth c T0 X0 hx hZ hby hml hown hnm hret hlk e0
  have N0 := Fr.nil n0
  refine own_cast (own_frame (L := [rv b, iv 1, iv 1]) (ls := #[rv b, iv 1, iv 1, .unset, .unset, .unset]) rfl rfl) ?_
  obtain ⟨SC, hz, SF, rf⟩ := id hG
  refine og_iloadN X0 hx (hb hby d32_0) rfl ?_
  refine own_newP X0 hx hZ (own_hw hw 23 rfl) e0 (hb hby d32_1) (by decide) 1 (by decide) (by decide) (by decide) (by decide) ?_
  intro T1 h1 k1 b1 g1 X1 e1 E1 A1
  have ne_b_b1 : b ≠ b1 := Nat.ne_of_lt (Nat.lt_of_lt_of_eq Ab.lt g1.symm)
  have ge_b1 : n0 ≤ b1 := Nat.le_trans (own_oldle hO) (Nat.le_of_eq g1.symm)
  have sz_b1 : h0.size ≤ b1 := Nat.le_trans (Keep.refl h0 []).1 (Nat.le_of_eq g1.symm)
  have A_b_1 := Ab.ext E1
  have O1 := hO.ext E1
  have K1 := (Keep.refl h0 []).ext E1
  have A_b1_1 : Arv Z h1 b1 k1 .byte 1 [(.int (0 : Int32))] (.int (0 : Int32)) := A1
  show own_Go p e below _ T1 (mkF m 3 #[rv b, iv 1, iv 1, .unset, .unset, .unset] [(.ref b1)])
  refine og_astoreN X1 hx #[rv b, iv 1, iv 1, rv b1, .unset, .unset] (hb hby d32_3) rfl rfl ?_
  refine og_aloadN X1 hx (hb hby d32_4) rfl rfl ?_
  refine og_iloadN X1 hx (hb hby d32_5) rfl ?_
  refine og_aloadN X1 hx (hb hby d32_6) rfl rfl ?_
  refine og_iconst X1 hx (hb hby d32_7) ?_
  refine og_iloadN X1 hx (hb hby d32_8) rfl ?_
  refine own_callS X1 hx hZ hown (own_hw hw 141 rfl) (own_hw hw 142 rfl) (own_hw hw 21 rfl) (own_hw hw 143 rfl) (by decide) (argsL := [(.ref b), (.int 1), (.ref b1), (.int 0), (.int 1)]) (rest := []) (own_dm_1_1 l Z a0 hw z sf b b1 _ _ _ c0 c1 h1 n0 O1 hG hU hR1 ge_b1 ne_b_b1 m1 A_b_1 A_b1_1) e1 (by rw [hml]; rfl) (lenOf own_pd11257 rfl) rfl (hb hby d32_9) (W := 0) (Nat.le_of_eq rfl) (by decide) ?_
  intro v2 T2 L2 X2 q2
  obtain ⟨rfl, N2q, K2q, A2q⟩ := q2
  have N2 := Fr.app N0 N2q
  have A_b_2 := A_b_1.keep K2q (ninS ne_b_b1 nin0)
  have O2 := O1.keep K2q (allS ge_b1 all0)
  have K2 := K1.trans K2q (allS (Or.inr sz_b1) all0)
  show own_Go p e below _ T2 (mkF m 12 #[rv b, iv 1, iv 1, rv b1, .unset, .unset] [(.int 1)])
  refine og_istore X2 hx #[rv b, iv 1, iv 1, rv b1, iv 1, .unset] (hb hby d32_12) rfl ?_
  refine og_iload X2 hx (hb hby d32_14) rfl ?_
  refine og_iloadN X2 hx (hb hby d32_16) rfl ?_
  refine og_icY X2 hx 64 (hb hby d32_17) (teq rfl).1 (by decide) (by decide) ?_
  refine og_aloadN X2 hx (hb hby d32_64) rfl rfl ?_
  exact own_retA X2 hx hret hlk (hb hby d32_65) rfl rfl (by decide) (by decide) (⟨b1, _, rfl, N2, K2, sz_b1, ge_b1, A2q⟩)
theorem own_db1 (l : Launch) (Z : State) (a0 : Array Value) (hw : own_W a0 Z) (z : Int32) (sf : Value) (b : Addr) (kb : ClassId) (dv : Value) (c0 c1 NN cd : Int32) (vs : List Value) (h0 : Heap) (n0 : Nat) (hO : Old Z n0 h0) (hG : own_Gs Z z sf) (hU : own_Us Z) (hR1 : own_R c1) (hK : own_K1 c1 NN vs cd) (Ab : Arv Z h0 b kb .byte 4 [(.int (own_lo c0)), (.int (own_hi c0)), (.int (own_lo c1)), (.int (own_hi c1))] dv) :
    own_Met l Z (⟨"java/lang/StringUTF16", "compress", "([BII)[B"⟩ : MethodName) jdk_52_method_17_code 6 (some (.array .byte)) own_r_own_db_2_0 #[.ref b, .int 1, .int 1] h0 (own_Qb Z NN vs h0 n0) := by
  rcases hK with ⟨m1, rfl, rfl, rfl⟩ | ⟨hq, rfl, rfl, rfl⟩
  · exact own_db_1_1 l Z a0 hw z sf b kb dv c0 c1 h0 n0 hO hG hU hR1 m1 Ab
  have m1 : (255 : Int32) < c1 := hq
  exact own_db_1_0 l Z a0 hw z sf b kb dv c0 c1 h0 n0 hO hG hU hR1 m1 Ab
theorem own_db2 (l : Launch) (Z : State) (a0 : Array Value) (hw : own_W a0 Z) (z : Int32) (sf : Value) (b : Addr) (kb : ClassId) (dv : Value) (c0 c1 c2 NN cd : Int32) (vs : List Value) (h0 : Heap) (n0 : Nat) (hO : Old Z n0 h0) (hG : own_Gs Z z sf) (hU : own_Us Z) (hR1 : own_R c1) (hR2 : own_R c2) (hK : own_K2 c1 c2 NN vs cd) (Ab : Arv Z h0 b kb .byte 6 [(.int (own_lo c0)), (.int (own_hi c0)), (.int (own_lo c1)), (.int (own_hi c1)), (.int (own_lo c2)), (.int (own_hi c2))] dv) :
    own_Met l Z (⟨"java/lang/StringUTF16", "compress", "([BII)[B"⟩ : MethodName) jdk_52_method_17_code 6 (some (.array .byte)) own_r_own_db_2_0 #[.ref b, .int 1, .int 2] h0 (own_Qb Z NN vs h0 n0) := by
  rcases hK with ⟨m1, m2, rfl, rfl, rfl⟩ | ⟨hq, rfl, rfl, rfl⟩
  · exact own_db_2_2 l Z a0 hw z sf b kb dv c0 c1 c2 h0 n0 hO hG hU hR1 hR2 m1 m2 Ab
  by_cases m1 : (255 : Int32) < c1
  · exact own_db_2_0 l Z a0 hw z sf b kb dv c0 c1 c2 h0 n0 hO hG hU hR1 hR2 m1 Ab
  have m2 : (255 : Int32) < c2 := hq.resolve_left m1
  exact own_db_2_1 l Z a0 hw z sf b kb dv c0 c1 c2 h0 n0 hO hG hU hR1 hR2 m1 m2 Ab
def own_Qsi (Z : State) (a1 a2 : Addr) (cd : Int32) (h0 : Heap) (n0 : Nat) (v : Option Value) (h : Heap) (L : List Loc) : Prop := v = none ∧ Fr n0 L ∧ Keep h0 h [a1] ∧ own_V Z h a1 a2 ∧ own_Cd Z h a1 cd
theorem d41_0 : decode jdk_42_method_151_code 0 = .ok (.aload_n 0, 1) := by decide +kernel
theorem d41_1 : decode jdk_42_method_151_code 1 = .ok (.invokespecial 1, 3) := by decide +kernel
theorem d41_4 : decode jdk_42_method_151_code 4 = .ok (.aload_n 0, 1) := by decide +kernel
theorem d41_5 : decode jdk_42_method_151_code 5 = .ok (.aload_n 1, 1) := by decide +kernel
theorem d41_6 : decode jdk_42_method_151_code 6 = .ok (.putfield 9, 3) := by decide +kernel
theorem d41_9 : decode jdk_42_method_151_code 9 = .ok (.aload_n 0, 1) := by decide +kernel
theorem d41_10 : decode jdk_42_method_151_code 10 = .ok (.iload_n 2, 1) := by decide +kernel
theorem d41_11 : decode jdk_42_method_151_code 11 = .ok (.putfield 15, 3) := by decide +kernel
theorem d41_14 : decode jdk_42_method_151_code 14 = .ok (.return_, 1) := by decide +kernel
def own_r_own_sib : Room := { frames := 1, cells := 0, slots := 0, locals := 12 }
theorem own_sib (l : Launch) (Z : State) (a0 : Array Value) (hw : own_W a0 Z) (a1 a2 : Addr) (u1 u2 : Value) (cd : Int32) (h0 : Heap) (n0 : Nat) (hO : Old Z n0 h0) (g1 : n0 ≤ a1) (hcb : narrow .byte (.int cd) = .int cd ∧ fits .byte (.int cd) = true) (E1a : own_E Z h0 a1) (F1a : Fld Z h0 a1 "java/lang/String" "value" "[B" u1) (F2a : Fld Z h0 a1 "java/lang/String" "coder" "B" u2) :
    own_Met l Z (⟨"java/lang/String", "<init>", "([BB)V"⟩ : MethodName) jdk_42_method_151_code 3 none own_r_own_sib #[(.ref a1), (.ref a2), (.int cd)] h0 (own_Qsi Z a1 a2 cd h0 n0) := by
  refine own_body (by decide +kernel) ?_
  intro p e s m below meth c T0 X0 hx hZ hby hml hown hnm hret hlk e0
  have N0 := Fr.nil n0
  refine own_cast (own_frame (L := [rv a1, rv a2, iv cd]) (ls := #[rv a1, rv a2, iv cd]) rfl rfl) ?_
  refine og_aloadN X0 hx (hb hby d41_0) rfl rfl ?_
  obtain ⟨T1, X1, e1, st1⟩ := initO X0 hx hZ hown (own_hw hw 15 rfl) (own_hw hw 16 rfl) (own_hw hw 17 rfl) e0 (g := (mkF m 1 #[rv a1, rv a2, iv cd] [(.ref a1)])) rfl (by rw [hml]; rfl) rfl (hb hby d41_1) (by decide) (W := 0) (by show 2 * 0 + _ ≤ _; exact Nat.le_of_eq rfl) (by decide)
  refine own_go st1 ?_
  show own_Go p e below _ T1 (mkF m 4 #[rv a1, rv a2, iv cd] [])
  refine og_aloadN X1 hx (hb hby d41_4) rfl rfl ?_
  refine og_aloadN X1 hx (hb hby d41_5) rfl rfl ?_
  obtain ⟨T2, h2, X2, e2, W2, st2⟩ := putF X1 hx hZ hown (host := "") (Or.inl (own_hw hw 32 rfl)) Via.refl e1 F1a E1a (Or.inr ⟨(own_hw hw 33 rfl), rfl, hnm⟩) (own_hw hw 5 rfl) (ty := (.array .byte)) (by decide) rfl rfl (g := (mkF m 6 #[rv a1, rv a2, iv cd] [(.ref a2), (.ref a1)])) rfl rfl (hb hby d41_6)
  refine own_go st2 ?_
  have E_a1_2 := E1a.wr W2
  have F_a1_coder_2 := F2a.other W2 (Or.inr (slot_ne (Or.inr (own_hw hw 31 rfl)) (Or.inr (own_hw hw 33 rfl)) (by decide) (t := .byte) (t' := (.array .byte)) (by decide) (by decide)))
  have O2 := hO.wr W2 g1
  have K2 := (Keep.refl h0 [a1]).wr W2 (Or.inl (by simp))
  have N2 := Fr.snoc X2 N0 g1
  have F_a1_value_2 : Fld Z h2 a1 "java/lang/String" "value" "[B" (.ref a2) := F1a.same W2
  show own_Go p e below _ T2 (mkF m 9 #[rv a1, rv a2, iv cd] [])
  refine og_aloadN X2 hx (hb hby d41_9) rfl rfl ?_
  refine og_iloadN X2 hx (hb hby d41_10) rfl ?_
  obtain ⟨T3, h3, X3, e3, W3, st3⟩ := putFN X2 hx hZ hown (own_hw hw 30 rfl) Via.refl e2 F_a1_coder_2 E_a1_2 (Or.inr ⟨(own_hw hw 31 rfl), rfl, hnm⟩) (own_hw hw 5 rfl) (ty := .byte) (v' := (.int cd)) (by decide) hcb.1 hcb.2 (g := (mkF m 11 #[rv a1, rv a2, iv cd] [(.int cd), (.ref a1)])) rfl rfl (hb hby d41_11)
  refine own_go st3 ?_
  have E_a1_3 := E_a1_2.wr W3
  have F_a1_value_3 := F_a1_value_2.other W3 (Or.inr (slot_ne (Or.inr (own_hw hw 33 rfl)) (Or.inr (own_hw hw 31 rfl)) (by decide) (t := (.array .byte)) (t' := .byte) (by decide) (by decide)))
  have O3 := O2.wr W3 g1
  have K3 := K2.wr W3 (Or.inl (by simp))
  have N3 := Fr.snoc X3 N2 g1
  have F_a1_coder_3 : Fld Z h3 a1 "java/lang/String" "coder" "B" (.int cd) := F_a1_coder_2.same W3
  show own_Go p e below _ T3 (mkF m 14 #[rv a1, rv a2, iv cd] [])
  exact own_retV X3 hx hret hlk (hb hby d41_14) (by decide) (by decide) (by rw [e3]; exact ⟨rfl, N3, K3, F_a1_value_3, F_a1_coder_3⟩)
theorem d31_0 : decode jdk_52_method_69_code 0 = .ok (.iload_n 2, 1) := by decide +kernel
theorem d31_1 : decode jdk_52_method_69_code 1 = .ok (.ifCond .ne 7, 3) := by decide +kernel
theorem d31_8 : decode jdk_52_method_69_code 8 = .ok (.getstatic 251, 3) := by decide +kernel
theorem d31_11 : decode jdk_52_method_69_code 11 = .ok (.ifCond .eq 28, 3) := by decide +kernel
theorem d31_14 : decode jdk_52_method_69_code 14 = .ok (.aload_n 0, 1) := by decide +kernel
theorem d31_15 : decode jdk_52_method_69_code 15 = .ok (.iload_n 1, 1) := by decide +kernel
theorem d31_16 : decode jdk_52_method_69_code 16 = .ok (.iload_n 2, 1) := by decide +kernel
theorem d31_17 : decode jdk_52_method_69_code 17 = .ok (.invokestatic 257, 3) := by decide +kernel
theorem d31_20 : decode jdk_52_method_69_code 20 = .ok (.astore_n 3, 1) := by decide +kernel
theorem d31_21 : decode jdk_52_method_69_code 21 = .ok (.aload_n 3, 1) := by decide +kernel
theorem d31_22 : decode jdk_52_method_69_code 22 = .ok (.iload_n 2, 1) := by decide +kernel
theorem d31_23 : decode jdk_52_method_69_code 23 = .ok (.invokestatic 259, 3) := by decide +kernel
theorem d31_26 : decode jdk_52_method_69_code 26 = .ok (.istore 4, 2) := by decide +kernel
theorem d31_28 : decode jdk_52_method_69_code 28 = .ok (.new 3, 3) := by decide +kernel
theorem d31_31 : decode jdk_52_method_69_code 31 = .ok (.dup, 1) := by decide +kernel
theorem d31_32 : decode jdk_52_method_69_code 32 = .ok (.aload_n 3, 1) := by decide +kernel
theorem d31_33 : decode jdk_52_method_69_code 33 = .ok (.iload 4, 2) := by decide +kernel
theorem d31_35 : decode jdk_52_method_69_code 35 = .ok (.invokespecial 263, 3) := by decide +kernel
theorem d31_38 : decode jdk_52_method_69_code 38 = .ok (.areturn, 1) := by decide +kernel
theorem own_pd58512 : parseMethodDescriptor "([BB)V" = some ⟨[(.array .byte), .byte], none⟩ := by decide +kernel
def own_r_own_nsg : Room := { frames := 5, cells := 3, slots := 10, locals := 78 }
theorem own_nsg (l : Launch) (Z : State) (a0 : Array Value) (hw : own_W a0 Z) (z : Int32) (sf : Value) (b : Addr) (n NN cd : Int32) (vs : List Value) (h0 : Heap) (n0 : Nat) (hO : Old Z n0 h0) (hG : own_Gs Z z sf) (hn0 : ¬ n = 0) (hcf : own_cdf n NN = cd ∧ narrow .byte (.int cd) = .int cd ∧ fits .byte (.int cd) = true) (inn : own_Met l Z (⟨"java/lang/StringUTF16", "compress", "([BII)[B"⟩ : MethodName) jdk_52_method_17_code 6 (some (.array .byte)) own_r_own_db_2_0 #[.ref b, .int 1, .int n] h0 (own_Qb Z NN vs h0 n0)) :
    own_Met l Z (⟨"java/lang/StringUTF16", "newString", "([BII)Ljava/lang/String;"⟩ : MethodName) jdk_52_method_69_code 5 (some (.object "java/lang/String")) own_r_own_nsg #[(.ref b), (.int 1), (.int n)] h0 (own_Qm Z NN cd vs h0 n0) := by
  refine own_body (by decide +kernel) ?_
  intro p e s m below meth c T0 X0 hx hZ hby hml hown hnm hret hlk e0
  have N0 := Fr.nil n0
  refine own_cast (own_frame (L := [rv b, iv 1, iv n]) (ls := #[rv b, iv 1, iv n, .unset, .unset]) rfl rfl) ?_
  obtain ⟨SC, hz, SF, rf⟩ := id hG
  refine og_iloadN X0 hx (hb hby d31_0) rfl ?_
  refine og_ifY X0 hx 8 (hb hby d31_1) (feq hn0).2 (by decide) (by decide) ?_
  refine og_getS X0 hx hZ hown (own_hw hw 137 rfl) Via.refl e0 (SC.ext hO.2) (hb hby d31_8) ?_
  intro T1 X1 e1
  show own_Go p e below _ T1 (mkF m 11 #[rv b, iv 1, iv n, .unset, .unset] [(.int z)])
  refine og_ifN X1 hx (hb hby d31_11) (feq hz).1 ?_
  refine og_aloadN X1 hx (hb hby d31_14) rfl rfl ?_
  refine og_iloadN X1 hx (hb hby d31_15) rfl ?_
  refine og_iloadN X1 hx (hb hby d31_16) rfl ?_
  refine own_callS X1 hx hZ hown (own_hw hw 138 rfl) (own_hw hw 139 rfl) (own_hw hw 21 rfl) (own_hw hw 140 rfl) (by decide) (argsL := [(.ref b), (.int 1), (.int n)]) (rest := []) inn e1 (by rw [hml]; rfl) (lenOf own_pd77155 rfl) rfl (hb hby d31_17) (W := 0) (Nat.le_of_eq rfl) (by decide) ?_
  intro v2 T2 L2 X2 q2
  obtain ⟨b2, k2, rfl, N2q, K2q, z2q, g2q, A2q⟩ := q2
  have N2 := Fr.app N0 N2q
  have sz_b2 : h0.size ≤ b2 := Nat.le_trans (Keep.refl h0 []).1 z2q
  have O2 := hO.keep K2q all0
  have K2 := (Keep.refl h0 []).trans K2q all0
  show own_Go p e below _ T2 (mkF m 20 #[rv b, iv 1, iv n, .unset, .unset] [(.ref b2)])
  refine og_astoreN X2 hx #[rv b, iv 1, iv n, rv b2, .unset] (hb hby d31_20) rfl rfl ?_
  refine og_aloadN X2 hx (hb hby d31_21) rfl rfl ?_
  refine og_iloadN X2 hx (hb hby d31_22) rfl ?_
  refine own_callS X2 hx hZ hown (own_hw hw 171 rfl) (own_hw hw 28 rfl) (own_hw hw 21 rfl) (own_hw hw 29 rfl) (by decide) (argsL := [(.ref b2), (.int n)]) (rest := []) (own_cfl l Z a0 hw b2 _ _ _ n NN cd T2.heap n0 hcf A2q) rfl (by rw [hml]; rfl) (lenOf own_pd73100 rfl) rfl (hb hby d31_23) (W := 0) (Nat.le_of_eq rfl) (by decide) ?_
  intro v3 T3 L3 X3 q3
  obtain ⟨rfl, N3q, e3⟩ := q3
  have N3 := Fr.app N2 N3q
  show own_Go p e below _ T3 (mkF m 26 #[rv b, iv 1, iv n, rv b2, .unset] [(.int cd)])
  refine og_istore X3 hx #[rv b, iv 1, iv n, rv b2, iv cd] (hb hby d31_26) rfl ?_
  refine own_newO X3 hx hZ hown (own_hw hw 172 rfl) (own_hw hw 5 rfl) (own_hw hw 6 rfl) e3 (hb hby d31_28) (by decide) (by decide) ?_
  intro T4 h4 b4 g4 X4 e4 E4 A4 D4
  have ne_b2_b4 : b2 ≠ b4 := Nat.ne_of_lt (Nat.lt_of_lt_of_eq A2q.lt g4.symm)
  have ge_b4 : n0 ≤ b4 := Nat.le_trans (own_oldle O2) (Nat.le_of_eq g4.symm)
  have sz_b4 : h0.size ≤ b4 := Nat.le_trans K2.1 (Nat.le_of_eq g4.symm)
  have A_b2_4 := A2q.ext E4
  have O4 := O2.ext E4
  have K4 := K2.ext E4
  have F_b4_coder_4 : Fld Z h4 b4 "java/lang/String" "coder" "B" (.int 0) := D4 (Or.inr (own_hw hw 31 rfl)) (ty := .byte) (by decide)
  have F_b4_value_4 : Fld Z h4 b4 "java/lang/String" "value" "[B" .null := D4 (Or.inr (own_hw hw 33 rfl)) (ty := (.array .byte)) (by decide)
  show own_Go p e below _ T4 (mkF m 31 #[rv b, iv 1, iv n, rv b2, iv cd] [(.ref b4)])
  refine og_dup X4 hx (hb hby d31_31) rfl ?_
  refine og_aloadN X4 hx (hb hby d31_32) rfl rfl ?_
  refine og_iload X4 hx (hb hby d31_33) rfl ?_
  refine own_callN X4 hx hZ hown (own_hw hw 173 rfl) (own_hw hw 174 rfl) (own_hw hw 175 rfl) (own_hw hw 6 rfl) (by decide) rfl (b := b4) (argsL := [(.ref b2), (.int cd)]) (rest := [(.ref b4)]) (own_sib l Z a0 hw b4 b2 _ _ cd h4 n0 O4 ge_b4 hcf.2 A4 F_b4_value_4 F_b4_coder_4) e4 (by rw [hml]; rfl) (lenOf own_pd58512 rfl) rfl (hb hby d31_35) (W := 1) (Nat.le_of_eq rfl) (by decide) ?_
  intro v5 T5 L5 X5 q5
  obtain ⟨rfl, N5q, K5q, Fv5, Fc5⟩ := q5
  have N5 := Fr.app N3 N5q
  have A_b2_5 := A_b2_4.keep K5q (ninS ne_b2_b4 nin0)
  have E_b4_5 := A4.keep K5q
  have O5 := O4.keep K5q (allS ge_b4 all0)
  have K5 := K4.trans K5q (allS (Or.inr sz_b4) all0)
  show own_Go p e below _ T5 (mkF m 38 #[rv b, iv 1, iv n, rv b2, iv cd] [(.ref b4)])
  exact own_retA X5 hx hret hlk (hb hby d31_38) rfl rfl (by decide) (by decide) (⟨b4, b2, _, rfl, N5, K5, sz_b4, ge_b4, E_b4_5, Fv5, Fc5, A_b2_5⟩)
def own_Qe (Z : State) (h0 : Heap) (n0 : Nat) (v : Option Value) (h : Heap) (L : List Loc) : Prop := ∃ (t b : Addr) (k : ClassId), v = some (.ref t) ∧ Fr n0 L ∧ Keep h0 h [] ∧ own_E Z h t ∧ own_V Z h t b ∧ own_C Z h t ∧ Arv Z h b k .byte (0 : Int32) [] (.int (0 : Int32))
theorem d31_4 : decode jdk_52_method_69_code 4 = .ok (.ldc_w 295, 3) := by decide +kernel
theorem d31_7 : decode jdk_52_method_69_code 7 = .ok (.areturn, 1) := by decide +kernel
def own_r_own_nse : Room := { frames := 0, cells := 2, slots := 4, locals := 0 }
theorem own_nse (l : Launch) (Z : State) (a0 : Array Value) (hw : own_W a0 Z) (b : Addr) (h0 : Heap) (n0 : Nat) (hO : Old Z n0 h0) :
    own_MetH l Z own_EL (⟨"java/lang/StringUTF16", "newString", "([BII)Ljava/lang/String;"⟩ : MethodName) jdk_52_method_69_code 5 (some (.object "java/lang/String")) own_r_own_nse #[(.ref b), (.int 1), (.int 0)] h0 (own_Qe Z h0 n0) := by
  refine own_bodyH (by decide +kernel) ?_
  intro p e s m below meth c T0 X0 hx hZ hby hml hown hnm hret hlk e0 hS hk C0
  have hwS : ∀ a ∈ Bundle.stringAtoms, a.before a0 Z = true := fun d hd => hw d ((by decide +kernel : ∀ d ∈ Bundle.stringAtoms, d ∈ tables_1) d hd)
  have N0 := Fr.nil n0
  refine own_cast (own_frame (L := [rv b, iv 1, iv 0]) (ls := #[rv b, iv 1, iv 0, .unset, .unset]) rfl rfl) ?_
  refine og_iloadN X0 hx (hb hby d31_0) rfl ?_
  refine og_ifN X0 hx (hb hby d31_1) (teq rfl).2 ?_
  show own_Go p e below _ T0 (mkF m 4 #[rv b, iv 1, iv 0, .unset, .unset] [])
  refine own_ldcW X0 hx hZ hown (own_hw hw 176 rfl) hwS e0 hS hk (own_EW hw) (List.mem_of_getElem? (i := 1) rfl) C0.1 (hb hby d31_4) (by decide) (by decide) ?_
  intro s1 T1 h1 k1 d1 kb1 X1 e1 E1 hS1 hk1 hZ1 hown1 Es1 Fc1 Fv1 As1 C1q
  have C1 := C0.trans C1q
  have O1 := hO.ext E1
  have K1 := (Keep.refl h0 []).ext E1
  have E_s1_1 : Exa Z h1 s1 "java/lang/String" := Es1
  have F_s1_coder_1 : Fld Z h1 s1 "java/lang/String" "coder" "B" (.int (0 : Int32)) := Fc1
  have F_s1_value_1 : Fld Z h1 s1 "java/lang/String" "value" "[B" (.ref d1) := Fv1
  have A_d1_1 : Arv Z h1 d1 kb1 .byte 0 [] (.int 0) := As1
  show own_Go p e below _ T1 (mkF m 7 #[rv b, iv 1, iv 0, .unset, .unset] [(.ref s1)])
  exact own_retAH X1 hx hret hlk (hb hby d31_7) rfl rfl hZ1 (own_EW hw) C1 e1 hS1 hk1 (by decide) (by decide) (by rw [e1]; exact ⟨s1, d1, _, rfl, N0, K1, E_s1_1, F_s1_value_1, F_s1_coder_1, A_d1_1⟩)
theorem d30_0 : decode jdk_41_method_12_code 0 = .ok (.iload_n 0, 1) := by decide +kernel
theorem d30_1 : decode jdk_41_method_12_code 1 = .ok (.ifCond .lt 13, 3) := by decide +kernel
theorem d30_4 : decode jdk_41_method_12_code 4 = .ok (.iload_n 0, 1) := by decide +kernel
theorem d30_5 : decode jdk_41_method_12_code 5 = .ok (.iload_n 1, 1) := by decide +kernel
theorem d30_6 : decode jdk_41_method_12_code 6 = .ok (.if_icmp .gt 8, 3) := by decide +kernel
theorem d30_9 : decode jdk_41_method_12_code 9 = .ok (.iload_n 1, 1) := by decide +kernel
theorem d30_10 : decode jdk_41_method_12_code 10 = .ok (.iload_n 2, 1) := by decide +kernel
theorem d30_11 : decode jdk_41_method_12_code 11 = .ok (.if_icmp .le 11, 3) := by decide +kernel
theorem d30_22 : decode jdk_41_method_12_code 22 = .ok (.iload_n 0, 1) := by decide +kernel
theorem d30_23 : decode jdk_41_method_12_code 23 = .ok (.ireturn, 1) := by decide +kernel
def own_r_own_cft : Room := { frames := 0, cells := 0, slots := 0, locals := 0 }
theorem own_cft (l : Launch) (Z : State) (a0 : Array Value) (hw : own_W a0 Z) (lo hi n : Int32) (sf : Value) (h0 : Heap) (n0 : Nat) (rf : sf.isRef = true) (h1 : ¬ lo < 0) (h2 : ¬ hi < lo) (h3 : ¬ n < hi) :
    own_Met l Z (⟨"jdk/internal/util/Preconditions", "checkFromToIndex", "(IIILjava/util/function/BiFunction;)I"⟩ : MethodName) jdk_41_method_12_code 4 (some .int) own_r_own_cft #[(.int lo), (.int hi), (.int n), sf] h0 (own_Qv (some (.int lo)) h0 n0) := by
  refine own_body (by decide +kernel) ?_
  intro p e s m below meth c T0 X0 hx hZ hby hml hown hnm hret hlk e0
  have N0 := Fr.nil n0
  refine own_cast (own_frame (L := [iv lo, iv hi, iv n, .val sf]) (ls := #[iv lo, iv hi, iv n, .val sf]) (congrArg (fun q => iv lo :: iv hi :: iv n :: q) (own_laid1 rf)) rfl) ?_
  refine og_iloadN X0 hx (hb hby d30_0) rfl ?_
  refine og_ifN X0 hx (hb hby d30_1) (flt h1).1 ?_
  refine og_iloadN X0 hx (hb hby d30_4) rfl ?_
  refine og_iloadN X0 hx (hb hby d30_5) rfl ?_
  refine og_icN X0 hx (hb hby d30_6) (flt h2).2.2.1 ?_
  refine og_iloadN X0 hx (hb hby d30_9) rfl ?_
  refine og_iloadN X0 hx (hb hby d30_10) rfl ?_
  refine og_icY X0 hx 22 (hb hby d30_11) (flt h3).2.2.2 (by decide) (by decide) ?_
  refine og_iloadN X0 hx (hb hby d30_22) rfl ?_
  exact own_retI X0 hx hret hlk (hb hby d30_23) rfl (by simp) (by decide) (by decide) (⟨rfl, N0, e0⟩)
theorem d29_0 : decode jdk_42_method_158_code 0 = .ok (.iload_n 0, 1) := by decide +kernel
theorem d29_1 : decode jdk_42_method_158_code 1 = .ok (.iload_n 1, 1) := by decide +kernel
theorem d29_2 : decode jdk_42_method_158_code 2 = .ok (.iload_n 2, 1) := by decide +kernel
theorem d29_3 : decode jdk_42_method_158_code 3 = .ok (.getstatic 1053, 3) := by decide +kernel
theorem d29_6 : decode jdk_42_method_158_code 6 = .ok (.invokestatic 1062, 3) := by decide +kernel
theorem d29_9 : decode jdk_42_method_158_code 9 = .ok (.pop, 1) := by decide +kernel
theorem d29_10 : decode jdk_42_method_158_code 10 = .ok (.return_, 1) := by decide +kernel
def own_r_own_cbb : Room := { frames := 1, cells := 0, slots := 0, locals := 15 }
theorem own_cbb (l : Launch) (Z : State) (a0 : Array Value) (hw : own_W a0 Z) (z : Int32) (sf : Value) (lo hi n : Int32) (h0 : Heap) (n0 : Nat) (hO : Old Z n0 h0) (hG : own_Gs Z z sf) (h1 : ¬ lo < 0) (h2 : ¬ hi < lo) (h3 : ¬ n < hi) :
    own_Met l Z (⟨"java/lang/String", "checkBoundsBeginEnd", "(III)V"⟩ : MethodName) jdk_42_method_158_code 3 none own_r_own_cbb #[(.int lo), (.int hi), (.int n)] h0 (own_Qv none h0 n0) := by
  refine own_body (by decide +kernel) ?_
  intro p e s m below meth c T0 X0 hx hZ hby hml hown hnm hret hlk e0
  have N0 := Fr.nil n0
  refine own_cast (own_frame (L := [iv lo, iv hi, iv n]) (ls := #[iv lo, iv hi, iv n]) rfl rfl) ?_
  obtain ⟨SC, hz, SF, rf⟩ := id hG
  refine og_iloadN X0 hx (hb hby d29_0) rfl ?_
  refine og_iloadN X0 hx (hb hby d29_1) rfl ?_
  refine og_iloadN X0 hx (hb hby d29_2) rfl ?_
  refine og_getS X0 hx hZ hown (own_hw hw 60 rfl) Via.refl e0 (SF.ext hO.2) (hb hby d29_3) ?_
  intro T1 X1 e1
  show own_Go p e below _ T1 (mkF m 6 #[iv lo, iv hi, iv n] [sf, (.int n), (.int hi), (.int lo)])
  refine own_callS X1 hx hZ hown (own_hw hw 131 rfl) (own_hw hw 132 rfl) (own_hw hw 61 rfl) (own_hw hw 133 rfl) (by decide) (argsL := [(.int lo), (.int hi), (.int n), sf]) (rest := []) (own_cft l Z a0 hw lo hi n sf h0 n0 rf h1 h2 h3) e1 (by rw [hml]; rfl) (lenOf own_pd49920 rfl) rfl (hb hby d29_6) (W := 0) (Nat.le_of_eq rfl) (by decide) ?_
  intro v2 T2 L2 X2 q2
  obtain ⟨rfl, N2q, e2⟩ := q2
  have N2 := Fr.app N0 N2q
  show own_Go p e below _ T2 (mkF m 9 #[iv lo, iv hi, iv n] [(.int lo)])
  refine og_pop X2 hx (hb hby d29_9) rfl ?_
  exact own_retV X2 hx hret hlk (hb hby d29_10) (by decide) (by decide) (⟨rfl, N2, e2⟩)
theorem d28_0 : decode jdk_42_method_92_code 0 = .ok (.aload_n 0, 1) := by decide +kernel
theorem d28_1 : decode jdk_42_method_92_code 1 = .ok (.invokevirtual 505, 3) := by decide +kernel
theorem d28_4 : decode jdk_42_method_92_code 4 = .ok (.istore_n 3, 1) := by decide +kernel
theorem d28_5 : decode jdk_42_method_92_code 5 = .ok (.iload_n 1, 1) := by decide +kernel
theorem d28_6 : decode jdk_42_method_92_code 6 = .ok (.iload_n 2, 1) := by decide +kernel
theorem d28_7 : decode jdk_42_method_92_code 7 = .ok (.iload_n 3, 1) := by decide +kernel
theorem d28_8 : decode jdk_42_method_92_code 8 = .ok (.invokestatic 521, 3) := by decide +kernel
theorem d28_11 : decode jdk_42_method_92_code 11 = .ok (.iload_n 1, 1) := by decide +kernel
theorem d28_12 : decode jdk_42_method_92_code 12 = .ok (.ifCond .ne 10, 3) := by decide +kernel
theorem d28_22 : decode jdk_42_method_92_code 22 = .ok (.iload_n 2, 1) := by decide +kernel
theorem d28_23 : decode jdk_42_method_92_code 23 = .ok (.iload_n 1, 1) := by decide +kernel
theorem d28_24 : decode jdk_42_method_92_code 24 = .ok (.isub, 1) := by decide +kernel
theorem d28_25 : decode jdk_42_method_92_code 25 = .ok (.istore 4, 2) := by decide +kernel
theorem d28_27 : decode jdk_42_method_92_code 27 = .ok (.aload_n 0, 1) := by decide +kernel
theorem d28_28 : decode jdk_42_method_92_code 28 = .ok (.invokevirtual 492, 3) := by decide +kernel
theorem d28_31 : decode jdk_42_method_92_code 31 = .ok (.ifCond .eq 16, 3) := by decide +kernel
theorem d28_47 : decode jdk_42_method_92_code 47 = .ok (.aload_n 0, 1) := by decide +kernel
theorem d28_48 : decode jdk_42_method_92_code 48 = .ok (.getfield 9, 3) := by decide +kernel
theorem d28_51 : decode jdk_42_method_92_code 51 = .ok (.iload_n 1, 1) := by decide +kernel
theorem d28_52 : decode jdk_42_method_92_code 52 = .ok (.iload 4, 2) := by decide +kernel
theorem d28_54 : decode jdk_42_method_92_code 54 = .ok (.invokestatic 689, 3) := by decide +kernel
theorem d28_57 : decode jdk_42_method_92_code 57 = .ok (.areturn, 1) := by decide +kernel
theorem own_pd13941 : parseMethodDescriptor "()I" = some ⟨[], some .int⟩ := by decide +kernel
theorem own_pd73746 : parseMethodDescriptor "(III)V" = some ⟨[.int, .int, .int], none⟩ := by decide +kernel
theorem own_pd78060 : parseMethodDescriptor "([BII)Ljava/lang/String;" = some ⟨[(.array .byte), .int, .int], some (.object "java/lang/String")⟩ := by decide +kernel
def own_r_own_sub1 : Room := { frames := 2, cells := 2, slots := 4, locals := 29 }
theorem own_sub1 (l : Launch) (Z : State) (a0 : Array Value) (hw : own_W a0 Z) (z : Int32) (sf : Value) (t b : Addr) (kb : ClassId) (dv : Value) (c0 : Int32) (h0 : Heap) (n0 : Nat) (hO : Old Z n0 h0) (hG : own_Gs Z z sf) (Et : own_E Z h0 t) (Fv : own_V Z h0 t b) (Fc : own_Cd Z h0 t 1) (Ab : Arv Z h0 b kb .byte 2 [(.int (own_lo c0)), (.int (own_hi c0))] dv) :
    own_MetH l Z own_EL (⟨"java/lang/String", "substring", "(II)Ljava/lang/String;"⟩ : MethodName) jdk_42_method_92_code 5 (some (.object "java/lang/String")) own_r_own_sub1 #[(.ref t), (.int 1), (.int 1)] h0 (own_Qe Z h0 n0) := by
  refine own_bodyH (by decide +kernel) ?_
  intro p e s m below meth c T0 X0 hx hZ hby hml hown hnm hret hlk e0 hS hk C0
  have hwS : ∀ a ∈ Bundle.stringAtoms, a.before a0 Z = true := fun d hd => hw d ((by decide +kernel : ∀ d ∈ Bundle.stringAtoms, d ∈ tables_1) d hd)
  have N0 := Fr.nil n0
  refine own_cast (own_frame (L := [rv t, iv 1, iv 1]) (ls := #[rv t, iv 1, iv 1, .unset, .unset]) rfl rfl) ?_
  obtain ⟨SC, hz, SF, rf⟩ := id hG
  refine og_aloadN X0 hx (hb hby d28_0) rfl rfl ?_
  refine own_callV X0 hx hZ hown (own_hw hw 113 rfl) (own_hw hw 114 rfl) (notFace_of_selects (args := #[]) (mvT hZ (own_hw hw 116 rfl))) (own_hw hw 116 rfl) (own_hw hw 115 rfl) (own_hw hw 117 rfl) (own_hw hw 6 rfl) (by decide) (b := t) (argsL := []) (rest := []) (own_slU1 l Z a0 hw z sf t b _ _ c0 h0 n0 hO hG Et Fv Fc Ab) e0 Et (by rw [hml]; rfl) (lenOf own_pd13941 rfl) rfl (hb hby d28_1) (W := 0) (Nat.le_of_eq rfl) (by decide) ?_
  intro v1 T1 L1 X1 q1
  obtain ⟨rfl, N1q, e1⟩ := q1
  have N1 := Fr.app N0 N1q
  show own_Go p e below _ T1 (mkF m 4 #[rv t, iv 1, iv 1, .unset, .unset] [(.int 1)])
  refine og_istoreN X1 hx #[rv t, iv 1, iv 1, iv 1, .unset] (hb hby d28_4) rfl ?_
  refine og_iloadN X1 hx (hb hby d28_5) rfl ?_
  refine og_iloadN X1 hx (hb hby d28_6) rfl ?_
  refine og_iloadN X1 hx (hb hby d28_7) rfl ?_
  refine own_callS X1 hx hZ hown (own_hw hw 128 rfl) (own_hw hw 129 rfl) (own_hw hw 6 rfl) (own_hw hw 130 rfl) (by decide) (argsL := [(.int 1), (.int 1), (.int 1)]) (rest := []) (own_cbb l Z a0 hw z sf 1 1 1 h0 n0 hO hG (by decide) (by decide) (by decide)) e1 (by rw [hml]; rfl) (lenOf own_pd73746 rfl) rfl (hb hby d28_8) (W := 0) (Nat.le_of_eq rfl) (by decide) ?_
  intro v2 T2 L2 X2 q2
  obtain ⟨rfl, N2q, e2⟩ := q2
  have N2 := Fr.app N1 N2q
  show own_Go p e below _ T2 (mkF m 11 #[rv t, iv 1, iv 1, iv 1, .unset] [])
  refine og_iloadN X2 hx (hb hby d28_11) rfl ?_
  refine og_ifY X2 hx 22 (hb hby d28_12) (feq (by decide)).2 (by decide) (by decide) ?_
  refine og_iloadN X2 hx (hb hby d28_22) rfl ?_
  refine og_iloadN X2 hx (hb hby d28_23) rfl ?_
  refine og_isub X2 hx (hb hby d28_24) ?_
  refine og_istore X2 hx #[rv t, iv 1, iv 1, iv 1, iv 0] (hb hby d28_25) rfl ?_
  refine og_aloadN X2 hx (hb hby d28_27) rfl rfl ?_
  refine own_callV X2 hx hZ hown (own_hw hw 48 rfl) (own_hw hw 49 rfl) (notFace_of_selects (args := #[]) (mvT hZ (own_hw hw 51 rfl))) (own_hw hw 51 rfl) (own_hw hw 50 rfl) (own_hw hw 52 rfl) (own_hw hw 6 rfl) (by decide) (b := t) (argsL := []) (rest := []) (own_isl0 l Z a0 hw z sf t h0 n0 hO hG Fc) e2 Et (by rw [hml]; rfl) (lenOf own_pd61835 rfl) rfl (hb hby d28_28) (W := 0) (Nat.le_of_eq rfl) (by decide) ?_
  intro v3 T3 L3 X3 q3
  obtain ⟨rfl, N3q, e3⟩ := q3
  have N3 := Fr.app N2 N3q
  show own_Go p e below _ T3 (mkF m 31 #[rv t, iv 1, iv 1, iv 1, iv 0] [(.int 0)])
  refine og_ifY X3 hx 47 (hb hby d28_31) (teq rfl).1 (by decide) (by decide) ?_
  refine og_aloadN X3 hx (hb hby d28_47) rfl rfl ?_
  refine og_getF X3 hx hZ hown (own_hw hw 32 rfl) Via.refl e3 Fv (hb hby d28_48) ?_
  intro T4 X4 e4
  refine og_iloadN X4 hx (hb hby d28_51) rfl ?_
  refine og_iload X4 hx (hb hby d28_52) rfl ?_
  refine own_callSH X4 hx hZ hown (own_hw hw 134 rfl) (own_hw hw 135 rfl) (own_hw hw 21 rfl) (own_hw hw 136 rfl) (by decide) (argsL := [(.ref b), (.int 1), (.int 0)]) (rest := []) (own_nse l Z a0 hw b h0 n0 hO) (own_EW hw) C0.1 hS hk e4 (by rw [hml]; rfl) (lenOf own_pd78060 rfl) rfl (hb hby d28_54) (W := 0) (Nat.le_of_eq rfl) (by decide) ?_
  intro v5 T5 L5 X5 hS5 hZ5 hown5 C5q q5
  obtain ⟨t5, vb5, k5, rfl, N5q, K5q, Et5, Ft5, Ct5, At5⟩ := q5
  have N5 := Fr.app N3 N5q
  have C5 := C0.trans C5q
  have E_t_5 := Et.keep K5q
  have F_t_value_5 := Fv.keep K5q nin0
  have F_t_coder_5 := Fc.keep K5q nin0
  have A_b_5 := Ab.keep K5q nin0
  have O5 := hO.keep K5q all0
  have K5 := (Keep.refl h0 []).trans K5q all0
  show own_Go p e below _ T5 (mkF m 57 #[rv t, iv 1, iv 1, iv 1, iv 0] [(.ref t5)])
  exact own_retAH X5 hx hret hlk (hb hby d28_57) rfl rfl hZ5 (own_EW hw) C5 rfl hS5 (Nat.le_refl _) (by decide) (by decide) (⟨t5, vb5, _, rfl, N5, K5, Et5, Ft5, Ct5, At5⟩)
theorem d25_0 : decode jdk_42_method_91_code 0 = .ok (.aload_n 0, 1) := by decide +kernel
theorem d25_1 : decode jdk_42_method_91_code 1 = .ok (.iload_n 1, 1) := by decide +kernel
theorem d25_2 : decode jdk_42_method_91_code 2 = .ok (.aload_n 0, 1) := by decide +kernel
theorem d25_3 : decode jdk_42_method_91_code 3 = .ok (.invokevirtual 505, 3) := by decide +kernel
theorem d25_6 : decode jdk_42_method_91_code 6 = .ok (.invokevirtual 681, 3) := by decide +kernel
theorem d25_9 : decode jdk_42_method_91_code 9 = .ok (.areturn, 1) := by decide +kernel
theorem own_pd41291 : parseMethodDescriptor "(II)Ljava/lang/String;" = some ⟨[.int, .int], some (.object "java/lang/String")⟩ := by decide +kernel
def own_r_own_su1_1 : Room := { frames := 3, cells := 2, slots := 4, locals := 45 }
theorem own_su1_1 (l : Launch) (Z : State) (a0 : Array Value) (hw : own_W a0 Z) (z : Int32) (sf : Value) (t b : Addr) (kb : ClassId) (dv : Value) (c0 : Int32) (h0 : Heap) (n0 : Nat) (hO : Old Z n0 h0) (hG : own_Gs Z z sf) (Et : own_E Z h0 t) (Fv : own_V Z h0 t b) (Fc : own_Cd Z h0 t 1) (Ab : Arv Z h0 b kb .byte 2 [(.int (own_lo c0)), (.int (own_hi c0))] dv) :
    own_MetH l Z own_EL (⟨"java/lang/String", "substring", "(I)Ljava/lang/String;"⟩ : MethodName) jdk_42_method_91_code 2 (some (.object "java/lang/String")) own_r_own_su1_1 #[(.ref t), (.int 1)] h0 (own_Qe Z h0 n0) := by
  refine own_bodyH (by decide +kernel) ?_
  intro p e s m below meth c T0 X0 hx hZ hby hml hown hnm hret hlk e0 hS hk C0
  have hwS : ∀ a ∈ Bundle.stringAtoms, a.before a0 Z = true := fun d hd => hw d ((by decide +kernel : ∀ d ∈ Bundle.stringAtoms, d ∈ tables_1) d hd)
  have N0 := Fr.nil n0
  refine own_cast (own_frame (L := [rv t, iv 1]) (ls := #[rv t, iv 1]) rfl rfl) ?_
  obtain ⟨SC, hz, SF, rf⟩ := id hG
  refine og_aloadN X0 hx (hb hby d25_0) rfl rfl ?_
  refine og_iloadN X0 hx (hb hby d25_1) rfl ?_
  refine og_aloadN X0 hx (hb hby d25_2) rfl rfl ?_
  refine own_callV X0 hx hZ hown (own_hw hw 113 rfl) (own_hw hw 114 rfl) (notFace_of_selects (args := #[]) (mvT hZ (own_hw hw 116 rfl))) (own_hw hw 116 rfl) (own_hw hw 115 rfl) (own_hw hw 117 rfl) (own_hw hw 6 rfl) (by decide) (b := t) (argsL := []) (rest := [(.int 1), (.ref t)]) (own_slU1 l Z a0 hw z sf t b _ _ c0 h0 n0 hO hG Et Fv Fc Ab) e0 Et (by rw [hml]; rfl) (lenOf own_pd13941 rfl) rfl (hb hby d25_3) (W := 2) (Nat.le_of_eq rfl) (by decide) ?_
  intro v1 T1 L1 X1 q1
  obtain ⟨rfl, N1q, e1⟩ := q1
  have N1 := Fr.app N0 N1q
  show own_Go p e below _ T1 (mkF m 6 #[rv t, iv 1] [(.int 1), (.int 1), (.ref t)])
  refine own_callVH X1 hx hZ hown (own_hw hw 123 rfl) (own_hw hw 124 rfl) (notFace_of_selects (args := #[]) (mvT hZ (own_hw hw 126 rfl))) (own_hw hw 126 rfl) (own_hw hw 125 rfl) (own_hw hw 127 rfl) (own_hw hw 6 rfl) (by decide) (b := t) (argsL := [(.int 1), (.int 1)]) (rest := []) (own_sub1 l Z a0 hw z sf t b _ _ c0 h0 n0 hO hG Et Fv Fc Ab) (own_EW hw) C0.1 hS hk e1 Et (by rw [hml]; rfl) (lenOf own_pd41291 rfl) rfl (hb hby d25_6) (W := 0) (Nat.le_of_eq rfl) (by decide) ?_
  intro v2 T2 L2 X2 hS2 hZ2 hown2 C2q q2
  obtain ⟨t2, vb2, k2, rfl, N2q, K2q, Et2, Ft2, Ct2, At2⟩ := q2
  have N2 := Fr.app N1 N2q
  have C2 := C0.trans C2q
  have E_t_2 := Et.keep K2q
  have F_t_value_2 := Fv.keep K2q nin0
  have F_t_coder_2 := Fc.keep K2q nin0
  have A_b_2 := Ab.keep K2q nin0
  have O2 := hO.keep K2q all0
  have K2 := (Keep.refl h0 []).trans K2q all0
  show own_Go p e below _ T2 (mkF m 9 #[rv t, iv 1] [(.ref t2)])
  exact own_retAH X2 hx hret hlk (hb hby d25_9) rfl rfl hZ2 (own_EW hw) C2 rfl hS2 (Nat.le_refl _) (by decide) (by decide) (⟨t2, vb2, _, rfl, N2, K2, Et2, Ft2, Ct2, At2⟩)
theorem d8_0 : decode prog_38_method_5_code 0 = .ok (.aload_n 0, 1) := by decide +kernel
theorem d8_1 : decode prog_38_method_5_code 1 = .ok (.invokevirtual 72, 3) := by decide +kernel
theorem d8_4 : decode prog_38_method_5_code 4 = .ok (.ifCond .ne 21, 3) := by decide +kernel
theorem d8_7 : decode prog_38_method_5_code 7 = .ok (.aload_n 0, 1) := by decide +kernel
theorem d8_8 : decode prog_38_method_5_code 8 = .ok (.iconst 0, 1) := by decide +kernel
theorem d8_9 : decode prog_38_method_5_code 9 = .ok (.invokevirtual 78, 3) := by decide +kernel
theorem d8_12 : decode prog_38_method_5_code 12 = .ok (.ldc 82, 2) := by decide +kernel
theorem d8_14 : decode prog_38_method_5_code 14 = .ok (.if_icmp .ne 11, 3) := by decide +kernel
theorem d8_17 : decode prog_38_method_5_code 17 = .ok (.aload_n 0, 1) := by decide +kernel
theorem d8_18 : decode prog_38_method_5_code 18 = .ok (.iconst 1, 1) := by decide +kernel
theorem d8_19 : decode prog_38_method_5_code 19 = .ok (.invokevirtual 83, 3) := by decide +kernel
theorem d8_22 : decode prog_38_method_5_code 22 = .ok (.goto 4, 3) := by decide +kernel
theorem d8_26 : decode prog_38_method_5_code 26 = .ok (.areturn, 1) := by decide +kernel
theorem own_pd47939 : parseMethodDescriptor "(I)C" = some ⟨[.int], some .char⟩ := by decide +kernel
theorem own_pd44404 : parseMethodDescriptor "(I)Ljava/lang/String;" = some ⟨[.int], some (.object "java/lang/String")⟩ := by decide +kernel
def own_r_own_wm1 : Room := { frames := 5, cells := 2, slots := 4, locals := 66 }
theorem own_wm1 (l : Launch) (Z : State) (a0 : Array Value) (hw : own_W a0 Z) (z : Int32) (sf : Value) (t b : Addr) (kb : ClassId) (dv : Value) (c0 : Int32) (h0 : Heap) (n0 : Nat) (hO : Old Z n0 h0) (hG : own_Gs Z z sf) (hU : own_Us Z) (hR0 : own_R c0) (hm : c0 = 65279) (Et : own_E Z h0 t) (Fv : own_V Z h0 t b) (Fc : own_Cd Z h0 t 1) (Ab : Arv Z h0 b kb .byte 2 [(.int (own_lo c0)), (.int (own_hi c0))] dv) :
    own_MetH l Z own_EL (⟨"com/example/winnow/winnow/io/TextFiles", "withoutByteOrderMark", "(Ljava/lang/String;)Ljava/lang/String;"⟩ : MethodName) prog_38_method_5_code 1 (some (.object "java/lang/String")) own_r_own_wm1 #[(.ref t)] h0 (own_Qe Z h0 n0) := by
  refine own_bodyH (by decide +kernel) ?_
  intro p e s m below meth c T0 X0 hx hZ hby hml hown hnm hret hlk e0 hS hk C0
  have hwS : ∀ a ∈ Bundle.stringAtoms, a.before a0 Z = true := fun d hd => hw d ((by decide +kernel : ∀ d ∈ Bundle.stringAtoms, d ∈ tables_1) d hd)
  have N0 := Fr.nil n0
  refine own_cast (own_frame (L := [rv t]) (ls := #[rv t]) rfl rfl) ?_
  obtain ⟨SC, hz, SF, rf⟩ := id hG
  refine og_aloadN X0 hx (hb hby d8_0) rfl rfl ?_
  refine own_callV X0 hx hZ hown (own_hw hw 38 rfl) (own_hw hw 39 rfl) (notFace_of_selects (args := #[]) (mvT hZ (own_hw hw 41 rfl))) (own_hw hw 41 rfl) (own_hw hw 40 rfl) (own_hw hw 42 rfl) (own_hw hw 6 rfl) (by decide) (b := t) (argsL := []) (rest := []) (own_iem l Z a0 hw t b _ _ _ _ h0 n0 (by decide) Fv Ab) e0 Et (by rw [hml]; rfl) (lenOf own_pd61835 rfl) rfl (hb hby d8_1) (W := 0) (Nat.le_of_eq rfl) (by decide) ?_
  intro v1 T1 L1 X1 q1
  obtain ⟨rfl, N1q, e1⟩ := q1
  have N1 := Fr.app N0 N1q
  show own_Go p e below _ T1 (mkF m 4 #[rv t] [(.int 0)])
  refine og_ifN X1 hx (hb hby d8_4) (teq rfl).2 ?_
  refine og_aloadN X1 hx (hb hby d8_7) rfl rfl ?_
  refine og_iconst X1 hx (hb hby d8_8) ?_
  refine own_callV X1 hx hZ hown (own_hw hw 43 rfl) (own_hw hw 44 rfl) (notFace_of_selects (args := #[]) (mvT hZ (own_hw hw 46 rfl))) (own_hw hw 46 rfl) (own_hw hw 45 rfl) (own_hw hw 47 rfl) (own_hw hw 6 rfl) (by decide) (b := t) (argsL := [(.int 0)]) (rest := []) (own_chU1 l Z a0 hw z sf t b _ _ c0 h0 n0 hO hG hU hR0 Et Fv Fc Ab) e1 Et (by rw [hml]; rfl) (lenOf own_pd47939 rfl) rfl (hb hby d8_9) (W := 0) (Nat.le_of_eq rfl) (by decide) ?_
  intro v2 T2 L2 X2 q2
  obtain ⟨rfl, N2q, e2⟩ := q2
  have N2 := Fr.app N1 N2q
  show own_Go p e below _ T2 (mkF m 12 #[rv t] [(.int c0)])
  refine og_ldcI X2 hx hZ hown (own_hw hw 65 rfl) (hb hby d8_12) ?_
  show own_Go p e below _ T2 (mkF m 14 #[rv t] [(.int 65279), (.int c0)])
  refine og_icN X2 hx (hb hby d8_14) (teq hm).2 ?_
  refine og_aloadN X2 hx (hb hby d8_17) rfl rfl ?_
  refine og_iconst X2 hx (hb hby d8_18) ?_
  refine own_callVH X2 hx hZ hown (own_hw hw 108 rfl) (own_hw hw 109 rfl) (notFace_of_selects (args := #[]) (mvT hZ (own_hw hw 111 rfl))) (own_hw hw 111 rfl) (own_hw hw 110 rfl) (own_hw hw 112 rfl) (own_hw hw 6 rfl) (by decide) (b := t) (argsL := [(.int 1)]) (rest := []) (own_su1_1 l Z a0 hw z sf t b _ _ c0 h0 n0 hO hG Et Fv Fc Ab) (own_EW hw) C0.1 hS hk e2 Et (by rw [hml]; rfl) (lenOf own_pd44404 rfl) rfl (hb hby d8_19) (W := 0) (Nat.le_of_eq rfl) (by decide) ?_
  intro v3 T3 L3 X3 hS3 hZ3 hown3 C3q q3
  obtain ⟨t3, vb3, k3, rfl, N3q, K3q, Et3, Ft3, Ct3, At3⟩ := q3
  have N3 := Fr.app N2 N3q
  have C3 := C0.trans C3q
  have E_t_3 := Et.keep K3q
  have F_t_value_3 := Fv.keep K3q nin0
  have F_t_coder_3 := Fc.keep K3q nin0
  have A_b_3 := Ab.keep K3q nin0
  have O3 := hO.keep K3q all0
  have K3 := (Keep.refl h0 []).trans K3q all0
  show own_Go p e below _ T3 (mkF m 22 #[rv t] [(.ref t3)])
  refine og_goto X3 hx 26 (hb hby d8_22) (by decide) (by decide) ?_
  exact own_retAH X3 hx hret hlk (hb hby d8_26) rfl rfl hZ3 (own_EW hw) C3 rfl hS3 (Nat.le_refl _) (by decide) (by decide) (⟨t3, vb3, _, rfl, N3, K3, Et3, Ft3, Ct3, At3⟩)
theorem own_kz1 {c0 NN : Int32} {vs : List Value} {cd : Int32} (hK : own_K1 c0 NN vs cd) : ¬ NN = 0 := by
  rcases hK with ⟨-, rfl, rfl, rfl⟩ | ⟨-, rfl, rfl, rfl⟩ <;> decide
theorem d8_25 : decode prog_38_method_5_code 25 = .ok (.aload_n 0, 1) := by decide +kernel
def own_r_own_wn1 : Room := { frames := 5, cells := 0, slots := 0, locals := 66 }
theorem own_wn1 (l : Launch) (Z : State) (a0 : Array Value) (hw : own_W a0 Z) (z : Int32) (sf : Value) (t b : Addr) (kb : ClassId) (dv : Value) (c0 NN cd : Int32) (vs : List Value) (h0 : Heap) (n0 : Nat) (hO : Old Z n0 h0) (hG : own_Gs Z z sf) (hU : own_Us Z) (hR0 : own_R c0) (hm : ¬ c0 = 65279) (hK : own_K1 c0 NN vs cd) (Et : own_E Z h0 t) (Fv : own_V Z h0 t b) (Fc : own_Cd Z h0 t cd) (Ab : Arv Z h0 b kb .byte NN vs dv) :
    own_Met l Z (⟨"com/example/winnow/winnow/io/TextFiles", "withoutByteOrderMark", "(Ljava/lang/String;)Ljava/lang/String;"⟩ : MethodName) prog_38_method_5_code 1 (some (.object "java/lang/String")) own_r_own_wn1 #[(.ref t)] h0 (own_Qv (some (.ref t)) h0 n0) := by
  refine own_body (by decide +kernel) ?_
  intro p e s m below meth c T0 X0 hx hZ hby hml hown hnm hret hlk e0
  have N0 := Fr.nil n0
  refine own_cast (own_frame (L := [rv t]) (ls := #[rv t]) rfl rfl) ?_
  obtain ⟨SC, hz, SF, rf⟩ := id hG
  refine og_aloadN X0 hx (hb hby d8_0) rfl rfl ?_
  refine own_callV X0 hx hZ hown (own_hw hw 38 rfl) (own_hw hw 39 rfl) (notFace_of_selects (args := #[]) (mvT hZ (own_hw hw 41 rfl))) (own_hw hw 41 rfl) (own_hw hw 40 rfl) (own_hw hw 42 rfl) (own_hw hw 6 rfl) (by decide) (b := t) (argsL := []) (rest := []) (own_iem l Z a0 hw t b _ _ _ _ h0 n0 (own_kz1 hK) Fv Ab) e0 Et (by rw [hml]; rfl) (lenOf own_pd61835 rfl) rfl (hb hby d8_1) (W := 0) (Nat.le_of_eq rfl) (by decide) ?_
  intro v1 T1 L1 X1 q1
  obtain ⟨rfl, N1q, e1⟩ := q1
  have N1 := Fr.app N0 N1q
  show own_Go p e below _ T1 (mkF m 4 #[rv t] [(.int 0)])
  refine og_ifN X1 hx (hb hby d8_4) (teq rfl).2 ?_
  refine og_aloadN X1 hx (hb hby d8_7) rfl rfl ?_
  refine og_iconst X1 hx (hb hby d8_8) ?_
  refine own_callV X1 hx hZ hown (own_hw hw 43 rfl) (own_hw hw 44 rfl) (notFace_of_selects (args := #[]) (mvT hZ (own_hw hw 46 rfl))) (own_hw hw 46 rfl) (own_hw hw 45 rfl) (own_hw hw 47 rfl) (own_hw hw 6 rfl) (by decide) (b := t) (argsL := [(.int 0)]) (rest := []) (own_chr1 l Z a0 hw z sf t b _ _ c0 NN cd vs h0 n0 hO hG hU hR0 hK Et Fv Fc Ab) e1 Et (by rw [hml]; rfl) (lenOf own_pd47939 rfl) rfl (hb hby d8_9) (W := 0) (Nat.le_of_eq rfl) (by decide) ?_
  intro v2 T2 L2 X2 q2
  obtain ⟨rfl, N2q, e2⟩ := q2
  have N2 := Fr.app N1 N2q
  show own_Go p e below _ T2 (mkF m 12 #[rv t] [(.int c0)])
  refine og_ldcI X2 hx hZ hown (own_hw hw 65 rfl) (hb hby d8_12) ?_
  show own_Go p e below _ T2 (mkF m 14 #[rv t] [(.int 65279), (.int c0)])
  refine og_icY X2 hx 25 (hb hby d8_14) (feq hm).2 (by decide) (by decide) ?_
  refine og_aloadN X2 hx (hb hby d8_25) rfl rfl ?_
  exact own_retA X2 hx hret hlk (hb hby d8_26) rfl rfl (by decide) (by decide) (⟨rfl, N2, e2⟩)
def own_r_own_sub2 : Room := { frames := 6, cells := 3, slots := 10, locals := 94 }
theorem own_sub2 (l : Launch) (Z : State) (a0 : Array Value) (hw : own_W a0 Z) (z : Int32) (sf : Value) (t b : Addr) (kb : ClassId) (dv : Value) (c0 c1 : Int32) (NN cd : Int32) (vs : List Value) (h0 : Heap) (n0 : Nat) (hO : Old Z n0 h0) (hG : own_Gs Z z sf) (hU : own_Us Z) (hR1 : own_R c1) (hK : own_K1 c1 NN vs cd) (Et : own_E Z h0 t) (Fv : own_V Z h0 t b) (Fc : own_Cd Z h0 t 1) (Ab : Arv Z h0 b kb .byte 4 [(.int (own_lo c0)), (.int (own_hi c0)), (.int (own_lo c1)), (.int (own_hi c1))] dv) :
    own_Met l Z (⟨"java/lang/String", "substring", "(II)Ljava/lang/String;"⟩ : MethodName) jdk_42_method_92_code 5 (some (.object "java/lang/String")) own_r_own_sub2 #[(.ref t), (.int 1), (.int 2)] h0 (own_Qm Z NN cd vs h0 n0) := by
  refine own_body (by decide +kernel) ?_
  intro p e s m below meth c T0 X0 hx hZ hby hml hown hnm hret hlk e0
  have N0 := Fr.nil n0
  refine own_cast (own_frame (L := [rv t, iv 1, iv 2]) (ls := #[rv t, iv 1, iv 2, .unset, .unset]) rfl rfl) ?_
  obtain ⟨SC, hz, SF, rf⟩ := id hG
  refine og_aloadN X0 hx (hb hby d28_0) rfl rfl ?_
  refine own_callV X0 hx hZ hown (own_hw hw 113 rfl) (own_hw hw 114 rfl) (notFace_of_selects (args := #[]) (mvT hZ (own_hw hw 116 rfl))) (own_hw hw 116 rfl) (own_hw hw 115 rfl) (own_hw hw 117 rfl) (own_hw hw 6 rfl) (by decide) (b := t) (argsL := []) (rest := []) (own_slU2 l Z a0 hw z sf t b _ _ c0 c1 h0 n0 hO hG Et Fv Fc Ab) e0 Et (by rw [hml]; rfl) (lenOf own_pd13941 rfl) rfl (hb hby d28_1) (W := 0) (Nat.le_of_eq rfl) (by decide) ?_
  intro v1 T1 L1 X1 q1
  obtain ⟨rfl, N1q, e1⟩ := q1
  have N1 := Fr.app N0 N1q
  show own_Go p e below _ T1 (mkF m 4 #[rv t, iv 1, iv 2, .unset, .unset] [(.int 2)])
  refine og_istoreN X1 hx #[rv t, iv 1, iv 2, iv 2, .unset] (hb hby d28_4) rfl ?_
  refine og_iloadN X1 hx (hb hby d28_5) rfl ?_
  refine og_iloadN X1 hx (hb hby d28_6) rfl ?_
  refine og_iloadN X1 hx (hb hby d28_7) rfl ?_
  refine own_callS X1 hx hZ hown (own_hw hw 128 rfl) (own_hw hw 129 rfl) (own_hw hw 6 rfl) (own_hw hw 130 rfl) (by decide) (argsL := [(.int 1), (.int 2), (.int 2)]) (rest := []) (own_cbb l Z a0 hw z sf 1 2 2 h0 n0 hO hG (by decide) (by decide) (by decide)) e1 (by rw [hml]; rfl) (lenOf own_pd73746 rfl) rfl (hb hby d28_8) (W := 0) (Nat.le_of_eq rfl) (by decide) ?_
  intro v2 T2 L2 X2 q2
  obtain ⟨rfl, N2q, e2⟩ := q2
  have N2 := Fr.app N1 N2q
  show own_Go p e below _ T2 (mkF m 11 #[rv t, iv 1, iv 2, iv 2, .unset] [])
  refine og_iloadN X2 hx (hb hby d28_11) rfl ?_
  refine og_ifY X2 hx 22 (hb hby d28_12) (feq (by decide)).2 (by decide) (by decide) ?_
  refine og_iloadN X2 hx (hb hby d28_22) rfl ?_
  refine og_iloadN X2 hx (hb hby d28_23) rfl ?_
  refine og_isub X2 hx (hb hby d28_24) ?_
  refine og_istore X2 hx #[rv t, iv 1, iv 2, iv 2, iv 1] (hb hby d28_25) rfl ?_
  refine og_aloadN X2 hx (hb hby d28_27) rfl rfl ?_
  refine own_callV X2 hx hZ hown (own_hw hw 48 rfl) (own_hw hw 49 rfl) (notFace_of_selects (args := #[]) (mvT hZ (own_hw hw 51 rfl))) (own_hw hw 51 rfl) (own_hw hw 50 rfl) (own_hw hw 52 rfl) (own_hw hw 6 rfl) (by decide) (b := t) (argsL := []) (rest := []) (own_isl0 l Z a0 hw z sf t h0 n0 hO hG Fc) e2 Et (by rw [hml]; rfl) (lenOf own_pd61835 rfl) rfl (hb hby d28_28) (W := 0) (Nat.le_of_eq rfl) (by decide) ?_
  intro v3 T3 L3 X3 q3
  obtain ⟨rfl, N3q, e3⟩ := q3
  have N3 := Fr.app N2 N3q
  show own_Go p e below _ T3 (mkF m 31 #[rv t, iv 1, iv 2, iv 2, iv 1] [(.int 0)])
  refine og_ifY X3 hx 47 (hb hby d28_31) (teq rfl).1 (by decide) (by decide) ?_
  refine og_aloadN X3 hx (hb hby d28_47) rfl rfl ?_
  refine og_getF X3 hx hZ hown (own_hw hw 32 rfl) Via.refl e3 Fv (hb hby d28_48) ?_
  intro T4 X4 e4
  refine og_iloadN X4 hx (hb hby d28_51) rfl ?_
  refine og_iload X4 hx (hb hby d28_52) rfl ?_
  refine own_callS X4 hx hZ hown (own_hw hw 134 rfl) (own_hw hw 135 rfl) (own_hw hw 21 rfl) (own_hw hw 136 rfl) (by decide) (argsL := [(.ref b), (.int 1), (.int 1)]) (rest := []) (own_nsg l Z a0 hw z sf b 1 NN cd vs h0 n0 hO hG (by decide) (own_kc1 hK) (own_db1 l Z a0 hw z sf b _ _ c0 c1 NN cd vs h0 n0 hO hG hU hR1 hK Ab)) e4 (by rw [hml]; rfl) (lenOf own_pd78060 rfl) rfl (hb hby d28_54) (W := 0) (Nat.le_of_eq rfl) (by decide) ?_
  intro v5 T5 L5 X5 q5
  obtain ⟨t5, vb5, k5, rfl, N5q, K5q, zt5, gt5, Et5, Ft5, Ct5, At5⟩ := q5
  have N5 := Fr.app N3 N5q
  have ne_b_t5 : b ≠ t5 := Nat.ne_of_lt (Nat.lt_of_lt_of_le Ab.lt zt5)
  have ne_t_t5 : t ≠ t5 := Nat.ne_of_lt (Nat.lt_of_lt_of_le Et.lt zt5)
  have sz_t5 : h0.size ≤ t5 := Nat.le_trans (Keep.refl h0 []).1 zt5
  have E_t_5 := Et.keep K5q
  have F_t_value_5 := Fv.keep K5q nin0
  have F_t_coder_5 := Fc.keep K5q nin0
  have A_b_5 := Ab.keep K5q nin0
  have O5 := hO.keep K5q all0
  have K5 := (Keep.refl h0 []).trans K5q all0
  show own_Go p e below _ T5 (mkF m 57 #[rv t, iv 1, iv 2, iv 2, iv 1] [(.ref t5)])
  exact own_retA X5 hx hret hlk (hb hby d28_57) rfl rfl (by decide) (by decide) (⟨t5, vb5, _, rfl, N5, K5, sz_t5, gt5, Et5, Ft5, Ct5, At5⟩)
def own_r_own_su1_2 : Room := { frames := 7, cells := 3, slots := 10, locals := 110 }
theorem own_su1_2 (l : Launch) (Z : State) (a0 : Array Value) (hw : own_W a0 Z) (z : Int32) (sf : Value) (t b : Addr) (kb : ClassId) (dv : Value) (c0 c1 : Int32) (NN cd : Int32) (vs : List Value) (h0 : Heap) (n0 : Nat) (hO : Old Z n0 h0) (hG : own_Gs Z z sf) (hU : own_Us Z) (hR1 : own_R c1) (hK : own_K1 c1 NN vs cd) (Et : own_E Z h0 t) (Fv : own_V Z h0 t b) (Fc : own_Cd Z h0 t 1) (Ab : Arv Z h0 b kb .byte 4 [(.int (own_lo c0)), (.int (own_hi c0)), (.int (own_lo c1)), (.int (own_hi c1))] dv) :
    own_Met l Z (⟨"java/lang/String", "substring", "(I)Ljava/lang/String;"⟩ : MethodName) jdk_42_method_91_code 2 (some (.object "java/lang/String")) own_r_own_su1_2 #[(.ref t), (.int 1)] h0 (own_Qm Z NN cd vs h0 n0) := by
  refine own_body (by decide +kernel) ?_
  intro p e s m below meth c T0 X0 hx hZ hby hml hown hnm hret hlk e0
  have N0 := Fr.nil n0
  refine own_cast (own_frame (L := [rv t, iv 1]) (ls := #[rv t, iv 1]) rfl rfl) ?_
  obtain ⟨SC, hz, SF, rf⟩ := id hG
  refine og_aloadN X0 hx (hb hby d25_0) rfl rfl ?_
  refine og_iloadN X0 hx (hb hby d25_1) rfl ?_
  refine og_aloadN X0 hx (hb hby d25_2) rfl rfl ?_
  refine own_callV X0 hx hZ hown (own_hw hw 113 rfl) (own_hw hw 114 rfl) (notFace_of_selects (args := #[]) (mvT hZ (own_hw hw 116 rfl))) (own_hw hw 116 rfl) (own_hw hw 115 rfl) (own_hw hw 117 rfl) (own_hw hw 6 rfl) (by decide) (b := t) (argsL := []) (rest := [(.int 1), (.ref t)]) (own_slU2 l Z a0 hw z sf t b _ _ c0 c1 h0 n0 hO hG Et Fv Fc Ab) e0 Et (by rw [hml]; rfl) (lenOf own_pd13941 rfl) rfl (hb hby d25_3) (W := 2) (Nat.le_of_eq rfl) (by decide) ?_
  intro v1 T1 L1 X1 q1
  obtain ⟨rfl, N1q, e1⟩ := q1
  have N1 := Fr.app N0 N1q
  show own_Go p e below _ T1 (mkF m 6 #[rv t, iv 1] [(.int 2), (.int 1), (.ref t)])
  refine own_callV X1 hx hZ hown (own_hw hw 123 rfl) (own_hw hw 124 rfl) (notFace_of_selects (args := #[]) (mvT hZ (own_hw hw 126 rfl))) (own_hw hw 126 rfl) (own_hw hw 125 rfl) (own_hw hw 127 rfl) (own_hw hw 6 rfl) (by decide) (b := t) (argsL := [(.int 1), (.int 2)]) (rest := []) (own_sub2 l Z a0 hw z sf t b _ _ c0 c1 NN cd vs h0 n0 hO hG hU hR1 hK Et Fv Fc Ab) e1 Et (by rw [hml]; rfl) (lenOf own_pd41291 rfl) rfl (hb hby d25_6) (W := 0) (Nat.le_of_eq rfl) (by decide) ?_
  intro v2 T2 L2 X2 q2
  obtain ⟨t2, vb2, k2, rfl, N2q, K2q, zt2, gt2, Et2, Ft2, Ct2, At2⟩ := q2
  have N2 := Fr.app N1 N2q
  have ne_b_t2 : b ≠ t2 := Nat.ne_of_lt (Nat.lt_of_lt_of_le Ab.lt zt2)
  have ne_t_t2 : t ≠ t2 := Nat.ne_of_lt (Nat.lt_of_lt_of_le Et.lt zt2)
  have sz_t2 : h0.size ≤ t2 := Nat.le_trans (Keep.refl h0 []).1 zt2
  have E_t_2 := Et.keep K2q
  have F_t_value_2 := Fv.keep K2q nin0
  have F_t_coder_2 := Fc.keep K2q nin0
  have A_b_2 := Ab.keep K2q nin0
  have O2 := hO.keep K2q all0
  have K2 := (Keep.refl h0 []).trans K2q all0
  show own_Go p e below _ T2 (mkF m 9 #[rv t, iv 1] [(.ref t2)])
  exact own_retA X2 hx hret hlk (hb hby d25_9) rfl rfl (by decide) (by decide) (⟨t2, vb2, _, rfl, N2, K2, sz_t2, gt2, Et2, Ft2, Ct2, At2⟩)
def own_r_own_wm2 : Room := { frames := 8, cells := 3, slots := 10, locals := 123 }
theorem own_wm2 (l : Launch) (Z : State) (a0 : Array Value) (hw : own_W a0 Z) (z : Int32) (sf : Value) (t b : Addr) (kb : ClassId) (dv : Value) (c0 c1 : Int32) (NN cd : Int32) (vs : List Value) (h0 : Heap) (n0 : Nat) (hO : Old Z n0 h0) (hG : own_Gs Z z sf) (hU : own_Us Z) (hR1 : own_R c1) (hK : own_K1 c1 NN vs cd) (hR0 : own_R c0) (hm : c0 = 65279) (Et : own_E Z h0 t) (Fv : own_V Z h0 t b) (Fc : own_Cd Z h0 t 1) (Ab : Arv Z h0 b kb .byte 4 [(.int (own_lo c0)), (.int (own_hi c0)), (.int (own_lo c1)), (.int (own_hi c1))] dv) :
    own_Met l Z (⟨"com/example/winnow/winnow/io/TextFiles", "withoutByteOrderMark", "(Ljava/lang/String;)Ljava/lang/String;"⟩ : MethodName) prog_38_method_5_code 1 (some (.object "java/lang/String")) own_r_own_wm2 #[(.ref t)] h0 (own_Qm Z NN cd vs h0 n0) := by
  refine own_body (by decide +kernel) ?_
  intro p e s m below meth c T0 X0 hx hZ hby hml hown hnm hret hlk e0
  have N0 := Fr.nil n0
  refine own_cast (own_frame (L := [rv t]) (ls := #[rv t]) rfl rfl) ?_
  obtain ⟨SC, hz, SF, rf⟩ := id hG
  refine og_aloadN X0 hx (hb hby d8_0) rfl rfl ?_
  refine own_callV X0 hx hZ hown (own_hw hw 38 rfl) (own_hw hw 39 rfl) (notFace_of_selects (args := #[]) (mvT hZ (own_hw hw 41 rfl))) (own_hw hw 41 rfl) (own_hw hw 40 rfl) (own_hw hw 42 rfl) (own_hw hw 6 rfl) (by decide) (b := t) (argsL := []) (rest := []) (own_iem l Z a0 hw t b _ _ _ _ h0 n0 (by decide) Fv Ab) e0 Et (by rw [hml]; rfl) (lenOf own_pd61835 rfl) rfl (hb hby d8_1) (W := 0) (Nat.le_of_eq rfl) (by decide) ?_
  intro v1 T1 L1 X1 q1
  obtain ⟨rfl, N1q, e1⟩ := q1
  have N1 := Fr.app N0 N1q
  show own_Go p e below _ T1 (mkF m 4 #[rv t] [(.int 0)])
  refine og_ifN X1 hx (hb hby d8_4) (teq rfl).2 ?_
  refine og_aloadN X1 hx (hb hby d8_7) rfl rfl ?_
  refine og_iconst X1 hx (hb hby d8_8) ?_
  refine own_callV X1 hx hZ hown (own_hw hw 43 rfl) (own_hw hw 44 rfl) (notFace_of_selects (args := #[]) (mvT hZ (own_hw hw 46 rfl))) (own_hw hw 46 rfl) (own_hw hw 45 rfl) (own_hw hw 47 rfl) (own_hw hw 6 rfl) (by decide) (b := t) (argsL := [(.int 0)]) (rest := []) (own_chU2 l Z a0 hw z sf t b _ _ c0 c1 h0 n0 hO hG hU hR0 Et Fv Fc Ab) e1 Et (by rw [hml]; rfl) (lenOf own_pd47939 rfl) rfl (hb hby d8_9) (W := 0) (Nat.le_of_eq rfl) (by decide) ?_
  intro v2 T2 L2 X2 q2
  obtain ⟨rfl, N2q, e2⟩ := q2
  have N2 := Fr.app N1 N2q
  show own_Go p e below _ T2 (mkF m 12 #[rv t] [(.int c0)])
  refine og_ldcI X2 hx hZ hown (own_hw hw 65 rfl) (hb hby d8_12) ?_
  show own_Go p e below _ T2 (mkF m 14 #[rv t] [(.int 65279), (.int c0)])
  refine og_icN X2 hx (hb hby d8_14) (teq hm).2 ?_
  refine og_aloadN X2 hx (hb hby d8_17) rfl rfl ?_
  refine og_iconst X2 hx (hb hby d8_18) ?_
  refine own_callV X2 hx hZ hown (own_hw hw 108 rfl) (own_hw hw 109 rfl) (notFace_of_selects (args := #[]) (mvT hZ (own_hw hw 111 rfl))) (own_hw hw 111 rfl) (own_hw hw 110 rfl) (own_hw hw 112 rfl) (own_hw hw 6 rfl) (by decide) (b := t) (argsL := [(.int 1)]) (rest := []) (own_su1_2 l Z a0 hw z sf t b _ _ c0 c1 NN cd vs h0 n0 hO hG hU hR1 hK Et Fv Fc Ab) e2 Et (by rw [hml]; rfl) (lenOf own_pd44404 rfl) rfl (hb hby d8_19) (W := 0) (Nat.le_of_eq rfl) (by decide) ?_
  intro v3 T3 L3 X3 q3
  obtain ⟨t3, vb3, k3, rfl, N3q, K3q, zt3, gt3, Et3, Ft3, Ct3, At3⟩ := q3
  have N3 := Fr.app N2 N3q
  have ne_b_t3 : b ≠ t3 := Nat.ne_of_lt (Nat.lt_of_lt_of_le Ab.lt zt3)
  have ne_t_t3 : t ≠ t3 := Nat.ne_of_lt (Nat.lt_of_lt_of_le Et.lt zt3)
  have sz_t3 : h0.size ≤ t3 := Nat.le_trans (Keep.refl h0 []).1 zt3
  have E_t_3 := Et.keep K3q
  have F_t_value_3 := Fv.keep K3q nin0
  have F_t_coder_3 := Fc.keep K3q nin0
  have A_b_3 := Ab.keep K3q nin0
  have O3 := hO.keep K3q all0
  have K3 := (Keep.refl h0 []).trans K3q all0
  show own_Go p e below _ T3 (mkF m 22 #[rv t] [(.ref t3)])
  refine og_goto X3 hx 26 (hb hby d8_22) (by decide) (by decide) ?_
  exact own_retA X3 hx hret hlk (hb hby d8_26) rfl rfl (by decide) (by decide) (⟨t3, vb3, _, rfl, N3, K3, sz_t3, gt3, Et3, Ft3, Ct3, At3⟩)
theorem own_kz2 {c0 c1 NN : Int32} {vs : List Value} {cd : Int32} (hK : own_K2 c0 c1 NN vs cd) : ¬ NN = 0 := by
  rcases hK with ⟨-, -, rfl, rfl, rfl⟩ | ⟨-, rfl, rfl, rfl⟩ <;> decide
def own_r_own_wn2 : Room := { frames := 5, cells := 0, slots := 0, locals := 66 }
theorem own_wn2 (l : Launch) (Z : State) (a0 : Array Value) (hw : own_W a0 Z) (z : Int32) (sf : Value) (t b : Addr) (kb : ClassId) (dv : Value) (c0 c1 NN cd : Int32) (vs : List Value) (h0 : Heap) (n0 : Nat) (hO : Old Z n0 h0) (hG : own_Gs Z z sf) (hU : own_Us Z) (hR0 : own_R c0) (hm : ¬ c0 = 65279) (hK : own_K2 c0 c1 NN vs cd) (Et : own_E Z h0 t) (Fv : own_V Z h0 t b) (Fc : own_Cd Z h0 t cd) (Ab : Arv Z h0 b kb .byte NN vs dv) :
    own_Met l Z (⟨"com/example/winnow/winnow/io/TextFiles", "withoutByteOrderMark", "(Ljava/lang/String;)Ljava/lang/String;"⟩ : MethodName) prog_38_method_5_code 1 (some (.object "java/lang/String")) own_r_own_wn2 #[(.ref t)] h0 (own_Qv (some (.ref t)) h0 n0) := by
  refine own_body (by decide +kernel) ?_
  intro p e s m below meth c T0 X0 hx hZ hby hml hown hnm hret hlk e0
  have N0 := Fr.nil n0
  refine own_cast (own_frame (L := [rv t]) (ls := #[rv t]) rfl rfl) ?_
  obtain ⟨SC, hz, SF, rf⟩ := id hG
  refine og_aloadN X0 hx (hb hby d8_0) rfl rfl ?_
  refine own_callV X0 hx hZ hown (own_hw hw 38 rfl) (own_hw hw 39 rfl) (notFace_of_selects (args := #[]) (mvT hZ (own_hw hw 41 rfl))) (own_hw hw 41 rfl) (own_hw hw 40 rfl) (own_hw hw 42 rfl) (own_hw hw 6 rfl) (by decide) (b := t) (argsL := []) (rest := []) (own_iem l Z a0 hw t b _ _ _ _ h0 n0 (own_kz2 hK) Fv Ab) e0 Et (by rw [hml]; rfl) (lenOf own_pd61835 rfl) rfl (hb hby d8_1) (W := 0) (Nat.le_of_eq rfl) (by decide) ?_
  intro v1 T1 L1 X1 q1
  obtain ⟨rfl, N1q, e1⟩ := q1
  have N1 := Fr.app N0 N1q
  show own_Go p e below _ T1 (mkF m 4 #[rv t] [(.int 0)])
  refine og_ifN X1 hx (hb hby d8_4) (teq rfl).2 ?_
  refine og_aloadN X1 hx (hb hby d8_7) rfl rfl ?_
  refine og_iconst X1 hx (hb hby d8_8) ?_
  refine own_callV X1 hx hZ hown (own_hw hw 43 rfl) (own_hw hw 44 rfl) (notFace_of_selects (args := #[]) (mvT hZ (own_hw hw 46 rfl))) (own_hw hw 46 rfl) (own_hw hw 45 rfl) (own_hw hw 47 rfl) (own_hw hw 6 rfl) (by decide) (b := t) (argsL := [(.int 0)]) (rest := []) (own_chr2 l Z a0 hw z sf t b _ _ c0 c1 NN cd vs h0 n0 hO hG hU hR0 hK Et Fv Fc Ab) e1 Et (by rw [hml]; rfl) (lenOf own_pd47939 rfl) rfl (hb hby d8_9) (W := 0) (Nat.le_of_eq rfl) (by decide) ?_
  intro v2 T2 L2 X2 q2
  obtain ⟨rfl, N2q, e2⟩ := q2
  have N2 := Fr.app N1 N2q
  show own_Go p e below _ T2 (mkF m 12 #[rv t] [(.int c0)])
  refine og_ldcI X2 hx hZ hown (own_hw hw 65 rfl) (hb hby d8_12) ?_
  show own_Go p e below _ T2 (mkF m 14 #[rv t] [(.int 65279), (.int c0)])
  refine og_icY X2 hx 25 (hb hby d8_14) (feq hm).2 (by decide) (by decide) ?_
  refine og_aloadN X2 hx (hb hby d8_25) rfl rfl ?_
  exact own_retA X2 hx hret hlk (hb hby d8_26) rfl rfl (by decide) (by decide) (⟨rfl, N2, e2⟩)
def own_r_own_sub3 : Room := { frames := 6, cells := 3, slots := 10, locals := 94 }
theorem own_sub3 (l : Launch) (Z : State) (a0 : Array Value) (hw : own_W a0 Z) (z : Int32) (sf : Value) (t b : Addr) (kb : ClassId) (dv : Value) (c0 c1 c2 : Int32) (NN cd : Int32) (vs : List Value) (h0 : Heap) (n0 : Nat) (hO : Old Z n0 h0) (hG : own_Gs Z z sf) (hU : own_Us Z) (hR1 : own_R c1) (hR2 : own_R c2) (hK : own_K2 c1 c2 NN vs cd) (Et : own_E Z h0 t) (Fv : own_V Z h0 t b) (Fc : own_Cd Z h0 t 1) (Ab : Arv Z h0 b kb .byte 6 [(.int (own_lo c0)), (.int (own_hi c0)), (.int (own_lo c1)), (.int (own_hi c1)), (.int (own_lo c2)), (.int (own_hi c2))] dv) :
    own_Met l Z (⟨"java/lang/String", "substring", "(II)Ljava/lang/String;"⟩ : MethodName) jdk_42_method_92_code 5 (some (.object "java/lang/String")) own_r_own_sub3 #[(.ref t), (.int 1), (.int 3)] h0 (own_Qm Z NN cd vs h0 n0) := by
  refine own_body (by decide +kernel) ?_
  intro p e s m below meth c T0 X0 hx hZ hby hml hown hnm hret hlk e0
  have N0 := Fr.nil n0
  refine own_cast (own_frame (L := [rv t, iv 1, iv 3]) (ls := #[rv t, iv 1, iv 3, .unset, .unset]) rfl rfl) ?_
  obtain ⟨SC, hz, SF, rf⟩ := id hG
  refine og_aloadN X0 hx (hb hby d28_0) rfl rfl ?_
  refine own_callV X0 hx hZ hown (own_hw hw 113 rfl) (own_hw hw 114 rfl) (notFace_of_selects (args := #[]) (mvT hZ (own_hw hw 116 rfl))) (own_hw hw 116 rfl) (own_hw hw 115 rfl) (own_hw hw 117 rfl) (own_hw hw 6 rfl) (by decide) (b := t) (argsL := []) (rest := []) (own_slU3 l Z a0 hw z sf t b _ _ c0 c1 c2 h0 n0 hO hG Et Fv Fc Ab) e0 Et (by rw [hml]; rfl) (lenOf own_pd13941 rfl) rfl (hb hby d28_1) (W := 0) (Nat.le_of_eq rfl) (by decide) ?_
  intro v1 T1 L1 X1 q1
  obtain ⟨rfl, N1q, e1⟩ := q1
  have N1 := Fr.app N0 N1q
  show own_Go p e below _ T1 (mkF m 4 #[rv t, iv 1, iv 3, .unset, .unset] [(.int 3)])
  refine og_istoreN X1 hx #[rv t, iv 1, iv 3, iv 3, .unset] (hb hby d28_4) rfl ?_
  refine og_iloadN X1 hx (hb hby d28_5) rfl ?_
  refine og_iloadN X1 hx (hb hby d28_6) rfl ?_
  refine og_iloadN X1 hx (hb hby d28_7) rfl ?_
  refine own_callS X1 hx hZ hown (own_hw hw 128 rfl) (own_hw hw 129 rfl) (own_hw hw 6 rfl) (own_hw hw 130 rfl) (by decide) (argsL := [(.int 1), (.int 3), (.int 3)]) (rest := []) (own_cbb l Z a0 hw z sf 1 3 3 h0 n0 hO hG (by decide) (by decide) (by decide)) e1 (by rw [hml]; rfl) (lenOf own_pd73746 rfl) rfl (hb hby d28_8) (W := 0) (Nat.le_of_eq rfl) (by decide) ?_
  intro v2 T2 L2 X2 q2
  obtain ⟨rfl, N2q, e2⟩ := q2
  have N2 := Fr.app N1 N2q
  show own_Go p e below _ T2 (mkF m 11 #[rv t, iv 1, iv 3, iv 3, .unset] [])
  refine og_iloadN X2 hx (hb hby d28_11) rfl ?_
  refine og_ifY X2 hx 22 (hb hby d28_12) (feq (by decide)).2 (by decide) (by decide) ?_
  refine og_iloadN X2 hx (hb hby d28_22) rfl ?_
  refine og_iloadN X2 hx (hb hby d28_23) rfl ?_
  refine og_isub X2 hx (hb hby d28_24) ?_
  refine og_istore X2 hx #[rv t, iv 1, iv 3, iv 3, iv 2] (hb hby d28_25) rfl ?_
  refine og_aloadN X2 hx (hb hby d28_27) rfl rfl ?_
  refine own_callV X2 hx hZ hown (own_hw hw 48 rfl) (own_hw hw 49 rfl) (notFace_of_selects (args := #[]) (mvT hZ (own_hw hw 51 rfl))) (own_hw hw 51 rfl) (own_hw hw 50 rfl) (own_hw hw 52 rfl) (own_hw hw 6 rfl) (by decide) (b := t) (argsL := []) (rest := []) (own_isl0 l Z a0 hw z sf t h0 n0 hO hG Fc) e2 Et (by rw [hml]; rfl) (lenOf own_pd61835 rfl) rfl (hb hby d28_28) (W := 0) (Nat.le_of_eq rfl) (by decide) ?_
  intro v3 T3 L3 X3 q3
  obtain ⟨rfl, N3q, e3⟩ := q3
  have N3 := Fr.app N2 N3q
  show own_Go p e below _ T3 (mkF m 31 #[rv t, iv 1, iv 3, iv 3, iv 2] [(.int 0)])
  refine og_ifY X3 hx 47 (hb hby d28_31) (teq rfl).1 (by decide) (by decide) ?_
  refine og_aloadN X3 hx (hb hby d28_47) rfl rfl ?_
  refine og_getF X3 hx hZ hown (own_hw hw 32 rfl) Via.refl e3 Fv (hb hby d28_48) ?_
  intro T4 X4 e4
  refine og_iloadN X4 hx (hb hby d28_51) rfl ?_
  refine og_iload X4 hx (hb hby d28_52) rfl ?_
  refine own_callS X4 hx hZ hown (own_hw hw 134 rfl) (own_hw hw 135 rfl) (own_hw hw 21 rfl) (own_hw hw 136 rfl) (by decide) (argsL := [(.ref b), (.int 1), (.int 2)]) (rest := []) (own_nsg l Z a0 hw z sf b 2 NN cd vs h0 n0 hO hG (by decide) (own_kc2 hK) (own_db2 l Z a0 hw z sf b _ _ c0 c1 c2 NN cd vs h0 n0 hO hG hU hR1 hR2 hK Ab)) e4 (by rw [hml]; rfl) (lenOf own_pd78060 rfl) rfl (hb hby d28_54) (W := 0) (Nat.le_of_eq rfl) (by decide) ?_
  intro v5 T5 L5 X5 q5
  obtain ⟨t5, vb5, k5, rfl, N5q, K5q, zt5, gt5, Et5, Ft5, Ct5, At5⟩ := q5
  have N5 := Fr.app N3 N5q
  have ne_b_t5 : b ≠ t5 := Nat.ne_of_lt (Nat.lt_of_lt_of_le Ab.lt zt5)
  have ne_t_t5 : t ≠ t5 := Nat.ne_of_lt (Nat.lt_of_lt_of_le Et.lt zt5)
  have sz_t5 : h0.size ≤ t5 := Nat.le_trans (Keep.refl h0 []).1 zt5
  have E_t_5 := Et.keep K5q
  have F_t_value_5 := Fv.keep K5q nin0
  have F_t_coder_5 := Fc.keep K5q nin0
  have A_b_5 := Ab.keep K5q nin0
  have O5 := hO.keep K5q all0
  have K5 := (Keep.refl h0 []).trans K5q all0
  show own_Go p e below _ T5 (mkF m 57 #[rv t, iv 1, iv 3, iv 3, iv 2] [(.ref t5)])
  exact own_retA X5 hx hret hlk (hb hby d28_57) rfl rfl (by decide) (by decide) (⟨t5, vb5, _, rfl, N5, K5, sz_t5, gt5, Et5, Ft5, Ct5, At5⟩)
def own_r_own_su1_3 : Room := { frames := 7, cells := 3, slots := 10, locals := 110 }
theorem own_su1_3 (l : Launch) (Z : State) (a0 : Array Value) (hw : own_W a0 Z) (z : Int32) (sf : Value) (t b : Addr) (kb : ClassId) (dv : Value) (c0 c1 c2 : Int32) (NN cd : Int32) (vs : List Value) (h0 : Heap) (n0 : Nat) (hO : Old Z n0 h0) (hG : own_Gs Z z sf) (hU : own_Us Z) (hR1 : own_R c1) (hR2 : own_R c2) (hK : own_K2 c1 c2 NN vs cd) (Et : own_E Z h0 t) (Fv : own_V Z h0 t b) (Fc : own_Cd Z h0 t 1) (Ab : Arv Z h0 b kb .byte 6 [(.int (own_lo c0)), (.int (own_hi c0)), (.int (own_lo c1)), (.int (own_hi c1)), (.int (own_lo c2)), (.int (own_hi c2))] dv) :
    own_Met l Z (⟨"java/lang/String", "substring", "(I)Ljava/lang/String;"⟩ : MethodName) jdk_42_method_91_code 2 (some (.object "java/lang/String")) own_r_own_su1_3 #[(.ref t), (.int 1)] h0 (own_Qm Z NN cd vs h0 n0) := by
  refine own_body (by decide +kernel) ?_
  intro p e s m below meth c T0 X0 hx hZ hby hml hown hnm hret hlk e0
  have N0 := Fr.nil n0
  refine own_cast (own_frame (L := [rv t, iv 1]) (ls := #[rv t, iv 1]) rfl rfl) ?_
  obtain ⟨SC, hz, SF, rf⟩ := id hG
  refine og_aloadN X0 hx (hb hby d25_0) rfl rfl ?_
  refine og_iloadN X0 hx (hb hby d25_1) rfl ?_
  refine og_aloadN X0 hx (hb hby d25_2) rfl rfl ?_
  refine own_callV X0 hx hZ hown (own_hw hw 113 rfl) (own_hw hw 114 rfl) (notFace_of_selects (args := #[]) (mvT hZ (own_hw hw 116 rfl))) (own_hw hw 116 rfl) (own_hw hw 115 rfl) (own_hw hw 117 rfl) (own_hw hw 6 rfl) (by decide) (b := t) (argsL := []) (rest := [(.int 1), (.ref t)]) (own_slU3 l Z a0 hw z sf t b _ _ c0 c1 c2 h0 n0 hO hG Et Fv Fc Ab) e0 Et (by rw [hml]; rfl) (lenOf own_pd13941 rfl) rfl (hb hby d25_3) (W := 2) (Nat.le_of_eq rfl) (by decide) ?_
  intro v1 T1 L1 X1 q1
  obtain ⟨rfl, N1q, e1⟩ := q1
  have N1 := Fr.app N0 N1q
  show own_Go p e below _ T1 (mkF m 6 #[rv t, iv 1] [(.int 3), (.int 1), (.ref t)])
  refine own_callV X1 hx hZ hown (own_hw hw 123 rfl) (own_hw hw 124 rfl) (notFace_of_selects (args := #[]) (mvT hZ (own_hw hw 126 rfl))) (own_hw hw 126 rfl) (own_hw hw 125 rfl) (own_hw hw 127 rfl) (own_hw hw 6 rfl) (by decide) (b := t) (argsL := [(.int 1), (.int 3)]) (rest := []) (own_sub3 l Z a0 hw z sf t b _ _ c0 c1 c2 NN cd vs h0 n0 hO hG hU hR1 hR2 hK Et Fv Fc Ab) e1 Et (by rw [hml]; rfl) (lenOf own_pd41291 rfl) rfl (hb hby d25_6) (W := 0) (Nat.le_of_eq rfl) (by decide) ?_
  intro v2 T2 L2 X2 q2
  obtain ⟨t2, vb2, k2, rfl, N2q, K2q, zt2, gt2, Et2, Ft2, Ct2, At2⟩ := q2
  have N2 := Fr.app N1 N2q
  have ne_b_t2 : b ≠ t2 := Nat.ne_of_lt (Nat.lt_of_lt_of_le Ab.lt zt2)
  have ne_t_t2 : t ≠ t2 := Nat.ne_of_lt (Nat.lt_of_lt_of_le Et.lt zt2)
  have sz_t2 : h0.size ≤ t2 := Nat.le_trans (Keep.refl h0 []).1 zt2
  have E_t_2 := Et.keep K2q
  have F_t_value_2 := Fv.keep K2q nin0
  have F_t_coder_2 := Fc.keep K2q nin0
  have A_b_2 := Ab.keep K2q nin0
  have O2 := hO.keep K2q all0
  have K2 := (Keep.refl h0 []).trans K2q all0
  show own_Go p e below _ T2 (mkF m 9 #[rv t, iv 1] [(.ref t2)])
  exact own_retA X2 hx hret hlk (hb hby d25_9) rfl rfl (by decide) (by decide) (⟨t2, vb2, _, rfl, N2, K2, sz_t2, gt2, Et2, Ft2, Ct2, At2⟩)
def own_r_own_wm3 : Room := { frames := 8, cells := 3, slots := 10, locals := 123 }
theorem own_wm3 (l : Launch) (Z : State) (a0 : Array Value) (hw : own_W a0 Z) (z : Int32) (sf : Value) (t b : Addr) (kb : ClassId) (dv : Value) (c0 c1 c2 : Int32) (NN cd : Int32) (vs : List Value) (h0 : Heap) (n0 : Nat) (hO : Old Z n0 h0) (hG : own_Gs Z z sf) (hU : own_Us Z) (hR1 : own_R c1) (hR2 : own_R c2) (hK : own_K2 c1 c2 NN vs cd) (hR0 : own_R c0) (hm : c0 = 65279) (Et : own_E Z h0 t) (Fv : own_V Z h0 t b) (Fc : own_Cd Z h0 t 1) (Ab : Arv Z h0 b kb .byte 6 [(.int (own_lo c0)), (.int (own_hi c0)), (.int (own_lo c1)), (.int (own_hi c1)), (.int (own_lo c2)), (.int (own_hi c2))] dv) :
    own_Met l Z (⟨"com/example/winnow/winnow/io/TextFiles", "withoutByteOrderMark", "(Ljava/lang/String;)Ljava/lang/String;"⟩ : MethodName) prog_38_method_5_code 1 (some (.object "java/lang/String")) own_r_own_wm3 #[(.ref t)] h0 (own_Qm Z NN cd vs h0 n0) := by
  refine own_body (by decide +kernel) ?_
  intro p e s m below meth c T0 X0 hx hZ hby hml hown hnm hret hlk e0
  have N0 := Fr.nil n0
  refine own_cast (own_frame (L := [rv t]) (ls := #[rv t]) rfl rfl) ?_
  obtain ⟨SC, hz, SF, rf⟩ := id hG
  refine og_aloadN X0 hx (hb hby d8_0) rfl rfl ?_
  refine own_callV X0 hx hZ hown (own_hw hw 38 rfl) (own_hw hw 39 rfl) (notFace_of_selects (args := #[]) (mvT hZ (own_hw hw 41 rfl))) (own_hw hw 41 rfl) (own_hw hw 40 rfl) (own_hw hw 42 rfl) (own_hw hw 6 rfl) (by decide) (b := t) (argsL := []) (rest := []) (own_iem l Z a0 hw t b _ _ _ _ h0 n0 (by decide) Fv Ab) e0 Et (by rw [hml]; rfl) (lenOf own_pd61835 rfl) rfl (hb hby d8_1) (W := 0) (Nat.le_of_eq rfl) (by decide) ?_
  intro v1 T1 L1 X1 q1
  obtain ⟨rfl, N1q, e1⟩ := q1
  have N1 := Fr.app N0 N1q
  show own_Go p e below _ T1 (mkF m 4 #[rv t] [(.int 0)])
  refine og_ifN X1 hx (hb hby d8_4) (teq rfl).2 ?_
  refine og_aloadN X1 hx (hb hby d8_7) rfl rfl ?_
  refine og_iconst X1 hx (hb hby d8_8) ?_
  refine own_callV X1 hx hZ hown (own_hw hw 43 rfl) (own_hw hw 44 rfl) (notFace_of_selects (args := #[]) (mvT hZ (own_hw hw 46 rfl))) (own_hw hw 46 rfl) (own_hw hw 45 rfl) (own_hw hw 47 rfl) (own_hw hw 6 rfl) (by decide) (b := t) (argsL := [(.int 0)]) (rest := []) (own_chU3 l Z a0 hw z sf t b _ _ c0 c1 c2 h0 n0 hO hG hU hR0 Et Fv Fc Ab) e1 Et (by rw [hml]; rfl) (lenOf own_pd47939 rfl) rfl (hb hby d8_9) (W := 0) (Nat.le_of_eq rfl) (by decide) ?_
  intro v2 T2 L2 X2 q2
  obtain ⟨rfl, N2q, e2⟩ := q2
  have N2 := Fr.app N1 N2q
  show own_Go p e below _ T2 (mkF m 12 #[rv t] [(.int c0)])
  refine og_ldcI X2 hx hZ hown (own_hw hw 65 rfl) (hb hby d8_12) ?_
  show own_Go p e below _ T2 (mkF m 14 #[rv t] [(.int 65279), (.int c0)])
  refine og_icN X2 hx (hb hby d8_14) (teq hm).2 ?_
  refine og_aloadN X2 hx (hb hby d8_17) rfl rfl ?_
  refine og_iconst X2 hx (hb hby d8_18) ?_
  refine own_callV X2 hx hZ hown (own_hw hw 108 rfl) (own_hw hw 109 rfl) (notFace_of_selects (args := #[]) (mvT hZ (own_hw hw 111 rfl))) (own_hw hw 111 rfl) (own_hw hw 110 rfl) (own_hw hw 112 rfl) (own_hw hw 6 rfl) (by decide) (b := t) (argsL := [(.int 1)]) (rest := []) (own_su1_3 l Z a0 hw z sf t b _ _ c0 c1 c2 NN cd vs h0 n0 hO hG hU hR1 hR2 hK Et Fv Fc Ab) e2 Et (by rw [hml]; rfl) (lenOf own_pd44404 rfl) rfl (hb hby d8_19) (W := 0) (Nat.le_of_eq rfl) (by decide) ?_
  intro v3 T3 L3 X3 q3
  obtain ⟨t3, vb3, k3, rfl, N3q, K3q, zt3, gt3, Et3, Ft3, Ct3, At3⟩ := q3
  have N3 := Fr.app N2 N3q
  have ne_b_t3 : b ≠ t3 := Nat.ne_of_lt (Nat.lt_of_lt_of_le Ab.lt zt3)
  have ne_t_t3 : t ≠ t3 := Nat.ne_of_lt (Nat.lt_of_lt_of_le Et.lt zt3)
  have sz_t3 : h0.size ≤ t3 := Nat.le_trans (Keep.refl h0 []).1 zt3
  have E_t_3 := Et.keep K3q
  have F_t_value_3 := Fv.keep K3q nin0
  have F_t_coder_3 := Fc.keep K3q nin0
  have A_b_3 := Ab.keep K3q nin0
  have O3 := hO.keep K3q all0
  have K3 := (Keep.refl h0 []).trans K3q all0
  show own_Go p e below _ T3 (mkF m 22 #[rv t] [(.ref t3)])
  refine og_goto X3 hx 26 (hb hby d8_22) (by decide) (by decide) ?_
  exact own_retA X3 hx hret hlk (hb hby d8_26) rfl rfl (by decide) (by decide) (⟨t3, vb3, _, rfl, N3, K3, sz_t3, gt3, Et3, Ft3, Ct3, At3⟩)
theorem own_kz3 {c0 c1 c2 NN : Int32} {vs : List Value} {cd : Int32} (hK : own_K3 c0 c1 c2 NN vs cd) : ¬ NN = 0 := by
  rcases hK with ⟨-, -, -, rfl, rfl, rfl⟩ | ⟨-, rfl, rfl, rfl⟩ <;> decide
def own_r_own_wn3 : Room := { frames := 5, cells := 0, slots := 0, locals := 66 }
theorem own_wn3 (l : Launch) (Z : State) (a0 : Array Value) (hw : own_W a0 Z) (z : Int32) (sf : Value) (t b : Addr) (kb : ClassId) (dv : Value) (c0 c1 c2 NN cd : Int32) (vs : List Value) (h0 : Heap) (n0 : Nat) (hO : Old Z n0 h0) (hG : own_Gs Z z sf) (hU : own_Us Z) (hR0 : own_R c0) (hm : ¬ c0 = 65279) (hK : own_K3 c0 c1 c2 NN vs cd) (Et : own_E Z h0 t) (Fv : own_V Z h0 t b) (Fc : own_Cd Z h0 t cd) (Ab : Arv Z h0 b kb .byte NN vs dv) :
    own_Met l Z (⟨"com/example/winnow/winnow/io/TextFiles", "withoutByteOrderMark", "(Ljava/lang/String;)Ljava/lang/String;"⟩ : MethodName) prog_38_method_5_code 1 (some (.object "java/lang/String")) own_r_own_wn3 #[(.ref t)] h0 (own_Qv (some (.ref t)) h0 n0) := by
  refine own_body (by decide +kernel) ?_
  intro p e s m below meth c T0 X0 hx hZ hby hml hown hnm hret hlk e0
  have N0 := Fr.nil n0
  refine own_cast (own_frame (L := [rv t]) (ls := #[rv t]) rfl rfl) ?_
  obtain ⟨SC, hz, SF, rf⟩ := id hG
  refine og_aloadN X0 hx (hb hby d8_0) rfl rfl ?_
  refine own_callV X0 hx hZ hown (own_hw hw 38 rfl) (own_hw hw 39 rfl) (notFace_of_selects (args := #[]) (mvT hZ (own_hw hw 41 rfl))) (own_hw hw 41 rfl) (own_hw hw 40 rfl) (own_hw hw 42 rfl) (own_hw hw 6 rfl) (by decide) (b := t) (argsL := []) (rest := []) (own_iem l Z a0 hw t b _ _ _ _ h0 n0 (own_kz3 hK) Fv Ab) e0 Et (by rw [hml]; rfl) (lenOf own_pd61835 rfl) rfl (hb hby d8_1) (W := 0) (Nat.le_of_eq rfl) (by decide) ?_
  intro v1 T1 L1 X1 q1
  obtain ⟨rfl, N1q, e1⟩ := q1
  have N1 := Fr.app N0 N1q
  show own_Go p e below _ T1 (mkF m 4 #[rv t] [(.int 0)])
  refine og_ifN X1 hx (hb hby d8_4) (teq rfl).2 ?_
  refine og_aloadN X1 hx (hb hby d8_7) rfl rfl ?_
  refine og_iconst X1 hx (hb hby d8_8) ?_
  refine own_callV X1 hx hZ hown (own_hw hw 43 rfl) (own_hw hw 44 rfl) (notFace_of_selects (args := #[]) (mvT hZ (own_hw hw 46 rfl))) (own_hw hw 46 rfl) (own_hw hw 45 rfl) (own_hw hw 47 rfl) (own_hw hw 6 rfl) (by decide) (b := t) (argsL := [(.int 0)]) (rest := []) (own_chr3 l Z a0 hw z sf t b _ _ c0 c1 c2 NN cd vs h0 n0 hO hG hU hR0 hK Et Fv Fc Ab) e1 Et (by rw [hml]; rfl) (lenOf own_pd47939 rfl) rfl (hb hby d8_9) (W := 0) (Nat.le_of_eq rfl) (by decide) ?_
  intro v2 T2 L2 X2 q2
  obtain ⟨rfl, N2q, e2⟩ := q2
  have N2 := Fr.app N1 N2q
  show own_Go p e below _ T2 (mkF m 12 #[rv t] [(.int c0)])
  refine og_ldcI X2 hx hZ hown (own_hw hw 65 rfl) (hb hby d8_12) ?_
  show own_Go p e below _ T2 (mkF m 14 #[rv t] [(.int 65279), (.int c0)])
  refine og_icY X2 hx 25 (hb hby d8_14) (feq hm).2 (by decide) (by decide) ?_
  refine og_aloadN X2 hx (hb hby d8_25) rfl rfl ?_
  exact own_retA X2 hx hret hlk (hb hby d8_26) rfl rfl (by decide) (by decide) (⟨rfl, N2, e2⟩)
def own_r_own_wz : Room := { frames := 1, cells := 0, slots := 0, locals := 12 }
theorem own_wz (l : Launch) (Z : State) (a0 : Array Value) (hw : own_W a0 Z) (t b : Addr) (kb : ClassId) (dv : Value) (h0 : Heap) (n0 : Nat) (Et : own_E Z h0 t) (Fv : own_V Z h0 t b) (Ab : Arv Z h0 b kb .byte 0 [] dv) :
    own_Met l Z (⟨"com/example/winnow/winnow/io/TextFiles", "withoutByteOrderMark", "(Ljava/lang/String;)Ljava/lang/String;"⟩ : MethodName) prog_38_method_5_code 1 (some (.object "java/lang/String")) own_r_own_wz #[(.ref t)] h0 (own_Qv (some (.ref t)) h0 n0) := by
  refine own_body (by decide +kernel) ?_
  intro p e s m below meth c T0 X0 hx hZ hby hml hown hnm hret hlk e0
  have N0 := Fr.nil n0
  refine own_cast (own_frame (L := [rv t]) (ls := #[rv t]) rfl rfl) ?_
  refine og_aloadN X0 hx (hb hby d8_0) rfl rfl ?_
  refine own_callV X0 hx hZ hown (own_hw hw 38 rfl) (own_hw hw 39 rfl) (notFace_of_selects (args := #[]) (mvT hZ (own_hw hw 41 rfl))) (own_hw hw 41 rfl) (own_hw hw 40 rfl) (own_hw hw 42 rfl) (own_hw hw 6 rfl) (by decide) (b := t) (argsL := []) (rest := []) (own_iez l Z a0 hw t b _ _ h0 n0 Fv Ab) e0 Et (by rw [hml]; rfl) (lenOf own_pd61835 rfl) rfl (hb hby d8_1) (W := 0) (Nat.le_of_eq rfl) (by decide) ?_
  intro v1 T1 L1 X1 q1
  obtain ⟨rfl, N1q, e1⟩ := q1
  have N1 := Fr.app N0 N1q
  show own_Go p e below _ T1 (mkF m 4 #[rv t] [(.int 1)])
  refine og_ifY X1 hx 25 (hb hby d8_4) (feq (by decide)).2 (by decide) (by decide) ?_
  refine og_aloadN X1 hx (hb hby d8_25) rfl rfl ?_
  exact own_retA X1 hx hret hlk (hb hby d8_26) rfl rfl (by decide) (by decide) (⟨rfl, N1, e1⟩)
theorem d16_0 : decode jdk_43_method_13_code 0 = .ok (.aload_n 0, 1) := by decide +kernel
theorem d16_1 : decode jdk_43_method_13_code 1 = .ok (.arraylength, 1) := by decide +kernel
theorem d16_2 : decode jdk_43_method_13_code 2 = .ok (.aload_n 1, 1) := by decide +kernel
theorem d16_3 : decode jdk_43_method_13_code 3 = .ok (.arraylength, 1) := by decide +kernel
theorem d16_4 : decode jdk_43_method_13_code 4 = .ok (.if_icmp .ne 30, 3) := by decide +kernel
theorem d16_7 : decode jdk_43_method_13_code 7 = .ok (.iconst 0, 1) := by decide +kernel
theorem d16_8 : decode jdk_43_method_13_code 8 = .ok (.istore_n 2, 1) := by decide +kernel
theorem d16_9 : decode jdk_43_method_13_code 9 = .ok (.iload_n 2, 1) := by decide +kernel
theorem d16_10 : decode jdk_43_method_13_code 10 = .ok (.aload_n 0, 1) := by decide +kernel
theorem d16_11 : decode jdk_43_method_13_code 11 = .ok (.arraylength, 1) := by decide +kernel
theorem d16_12 : decode jdk_43_method_13_code 12 = .ok (.if_icmp .ge 20, 3) := by decide +kernel
theorem d16_32 : decode jdk_43_method_13_code 32 = .ok (.iconst 1, 1) := by decide +kernel
theorem d16_33 : decode jdk_43_method_13_code 33 = .ok (.ireturn, 1) := by decide +kernel
theorem own_leq_0 (l : Launch) (Z : State) (a0 : Array Value) (hw : own_W a0 Z) (b1 b2 : Addr) (kp kq : ClassId) (dp dq : Value) (h0 : Heap) (n0 : Nat) (Ap : Arv Z h0 b1 kp .byte 0 [] dp) (Aq : Arv Z h0 b2 kq .byte 0 [] dq) :
    own_Met l Z (⟨"java/lang/StringLatin1", "equals", "([B[B)Z"⟩ : MethodName) jdk_43_method_13_code 3 (some .boolean) own_r_cm #[(.ref b1), (.ref b2)] h0 (own_Qv (some (.int 1)) h0 n0) := by
  refine own_body (by decide +kernel) ?_
  intro p e s m below meth c T0 X0 hx hZ hby hml hown hnm hret hlk e0
  have N0 := Fr.nil n0
  refine own_cast (own_frame (L := [rv b1, rv b2]) (ls := #[rv b1, rv b2, .unset]) rfl rfl) ?_
  refine og_aloadN X0 hx (hb hby d16_0) rfl rfl ?_
  refine own_len X0 hx hZ e0 Ap (hb hby d16_1) ?_
  show own_Go p e below _ T0 (mkF m 2 #[rv b1, rv b2, .unset] [(.int 0)])
  refine og_aloadN X0 hx (hb hby d16_2) rfl rfl ?_
  refine own_len X0 hx hZ e0 Aq (hb hby d16_3) ?_
  show own_Go p e below _ T0 (mkF m 4 #[rv b1, rv b2, .unset] [(.int 0), (.int 0)])
  refine og_icN X0 hx (hb hby d16_4) (teq rfl).2 ?_
  refine og_iconst X0 hx (hb hby d16_7) ?_
  refine og_istoreN X0 hx #[rv b1, rv b2, iv 0] (hb hby d16_8) rfl ?_
  refine og_iloadN X0 hx (hb hby d16_9) rfl ?_
  refine og_aloadN X0 hx (hb hby d16_10) rfl rfl ?_
  refine own_len X0 hx hZ e0 Ap (hb hby d16_11) ?_
  show own_Go p e below _ T0 (mkF m 12 #[rv b1, rv b2, iv 0] [(.int 0), (.int 0)])
  refine og_icY X0 hx 32 (hb hby d16_12) (flt (by decide)).2.1 (by decide) (by decide) ?_
  refine og_iconst X0 hx (hb hby d16_32) ?_
  exact own_retI X0 hx hret hlk (hb hby d16_33) rfl (by simp) (by decide) (by decide) (⟨rfl, N0, e0⟩)
theorem d16_15 : decode jdk_43_method_13_code 15 = .ok (.aload_n 0, 1) := by decide +kernel
theorem d16_16 : decode jdk_43_method_13_code 16 = .ok (.iload_n 2, 1) := by decide +kernel
theorem d16_17 : decode jdk_43_method_13_code 17 = .ok (.baload, 1) := by decide +kernel
theorem d16_18 : decode jdk_43_method_13_code 18 = .ok (.aload_n 1, 1) := by decide +kernel
theorem d16_19 : decode jdk_43_method_13_code 19 = .ok (.iload_n 2, 1) := by decide +kernel
theorem d16_20 : decode jdk_43_method_13_code 20 = .ok (.baload, 1) := by decide +kernel
theorem d16_21 : decode jdk_43_method_13_code 21 = .ok (.if_icmp .eq 5, 3) := by decide +kernel
theorem d16_26 : decode jdk_43_method_13_code 26 = .ok (.iinc 2 1, 3) := by decide +kernel
theorem d16_29 : decode jdk_43_method_13_code 29 = .ok (.goto (-20), 3) := by decide +kernel
theorem own_leq_1 (l : Launch) (Z : State) (a0 : Array Value) (hw : own_W a0 Z) (b1 b2 : Addr) (kp kq : ClassId) (dp dq : Value) (y0 : Int32) (h0 : Heap) (n0 : Nat) (Ap : Arv Z h0 b1 kp .byte 1 [(.int y0)] dp) (Aq : Arv Z h0 b2 kq .byte 1 [(.int y0)] dq) :
    own_Met l Z (⟨"java/lang/StringLatin1", "equals", "([B[B)Z"⟩ : MethodName) jdk_43_method_13_code 3 (some .boolean) own_r_cm #[(.ref b1), (.ref b2)] h0 (own_Qv (some (.int 1)) h0 n0) := by
  refine own_body (by decide +kernel) ?_
  intro p e s m below meth c T0 X0 hx hZ hby hml hown hnm hret hlk e0
  have N0 := Fr.nil n0
  refine own_cast (own_frame (L := [rv b1, rv b2]) (ls := #[rv b1, rv b2, .unset]) rfl rfl) ?_
  refine og_aloadN X0 hx (hb hby d16_0) rfl rfl ?_
  refine own_len X0 hx hZ e0 Ap (hb hby d16_1) ?_
  show own_Go p e below _ T0 (mkF m 2 #[rv b1, rv b2, .unset] [(.int 1)])
  refine og_aloadN X0 hx (hb hby d16_2) rfl rfl ?_
  refine own_len X0 hx hZ e0 Aq (hb hby d16_3) ?_
  show own_Go p e below _ T0 (mkF m 4 #[rv b1, rv b2, .unset] [(.int 1), (.int 1)])
  refine og_icN X0 hx (hb hby d16_4) (teq rfl).2 ?_
  refine og_iconst X0 hx (hb hby d16_7) ?_
  refine og_istoreN X0 hx #[rv b1, rv b2, iv 0] (hb hby d16_8) rfl ?_
  refine og_iloadN X0 hx (hb hby d16_9) rfl ?_
  refine og_aloadN X0 hx (hb hby d16_10) rfl rfl ?_
  refine own_len X0 hx hZ e0 Ap (hb hby d16_11) ?_
  show own_Go p e below _ T0 (mkF m 12 #[rv b1, rv b2, iv 0] [(.int 1), (.int 0)])
  refine og_icN X0 hx (hb hby d16_12) (tlt (by decide)).2.1 ?_
  refine og_aloadN X0 hx (hb hby d16_15) rfl rfl ?_
  refine og_iloadN X0 hx (hb hby d16_16) rfl ?_
  refine own_ldB X0 hx hZ e0 Ap ⟨by decide, by decide⟩ rfl (hb hby d16_17) ?_
  show own_Go p e below _ T0 (mkF m 18 #[rv b1, rv b2, iv 0] [(.int y0)])
  refine og_aloadN X0 hx (hb hby d16_18) rfl rfl ?_
  refine og_iloadN X0 hx (hb hby d16_19) rfl ?_
  refine own_ldB X0 hx hZ e0 Aq ⟨by decide, by decide⟩ rfl (hb hby d16_20) ?_
  show own_Go p e below _ T0 (mkF m 21 #[rv b1, rv b2, iv 0] [(.int y0), (.int y0)])
  refine og_icY X0 hx 26 (hb hby d16_21) (teq rfl).1 (by decide) (by decide) ?_
  refine own_go (fun t k => XS.iinc X0.here hx rfl (hb hby d16_26) rfl (l' := #[rv b1, rv b2, iv 1]) rfl k) ?_
  show own_Go p e below _ T0 (mkF m 29 #[rv b1, rv b2, iv 1] [])
  refine og_goto X0 hx 9 (hb hby d16_29) (by decide) (by decide) ?_
  refine og_iloadN X0 hx (hb hby d16_9) rfl ?_
  refine og_aloadN X0 hx (hb hby d16_10) rfl rfl ?_
  refine own_len X0 hx hZ e0 Ap (hb hby d16_11) ?_
  show own_Go p e below _ T0 (mkF m 12 #[rv b1, rv b2, iv 1] [(.int 1), (.int 1)])
  refine og_icY X0 hx 32 (hb hby d16_12) (flt (by decide)).2.1 (by decide) (by decide) ?_
  refine og_iconst X0 hx (hb hby d16_32) ?_
  exact own_retI X0 hx hret hlk (hb hby d16_33) rfl (by simp) (by decide) (by decide) (⟨rfl, N0, e0⟩)
theorem own_leq_2 (l : Launch) (Z : State) (a0 : Array Value) (hw : own_W a0 Z) (b1 b2 : Addr) (kp kq : ClassId) (dp dq : Value) (y0 y1 : Int32) (h0 : Heap) (n0 : Nat) (Ap : Arv Z h0 b1 kp .byte 2 [(.int y0), (.int y1)] dp) (Aq : Arv Z h0 b2 kq .byte 2 [(.int y0), (.int y1)] dq) :
    own_Met l Z (⟨"java/lang/StringLatin1", "equals", "([B[B)Z"⟩ : MethodName) jdk_43_method_13_code 3 (some .boolean) own_r_cm #[(.ref b1), (.ref b2)] h0 (own_Qv (some (.int 1)) h0 n0) := by
  refine own_body (by decide +kernel) ?_
  intro p e s m below meth c T0 X0 hx hZ hby hml hown hnm hret hlk e0
  have N0 := Fr.nil n0
  refine own_cast (own_frame (L := [rv b1, rv b2]) (ls := #[rv b1, rv b2, .unset]) rfl rfl) ?_
  refine og_aloadN X0 hx (hb hby d16_0) rfl rfl ?_
  refine own_len X0 hx hZ e0 Ap (hb hby d16_1) ?_
  show own_Go p e below _ T0 (mkF m 2 #[rv b1, rv b2, .unset] [(.int 2)])
  refine og_aloadN X0 hx (hb hby d16_2) rfl rfl ?_
  refine own_len X0 hx hZ e0 Aq (hb hby d16_3) ?_
  show own_Go p e below _ T0 (mkF m 4 #[rv b1, rv b2, .unset] [(.int 2), (.int 2)])
  refine og_icN X0 hx (hb hby d16_4) (teq rfl).2 ?_
  refine og_iconst X0 hx (hb hby d16_7) ?_
  refine og_istoreN X0 hx #[rv b1, rv b2, iv 0] (hb hby d16_8) rfl ?_
  refine og_iloadN X0 hx (hb hby d16_9) rfl ?_
  refine og_aloadN X0 hx (hb hby d16_10) rfl rfl ?_
  refine own_len X0 hx hZ e0 Ap (hb hby d16_11) ?_
  show own_Go p e below _ T0 (mkF m 12 #[rv b1, rv b2, iv 0] [(.int 2), (.int 0)])
  refine og_icN X0 hx (hb hby d16_12) (tlt (by decide)).2.1 ?_
  refine og_aloadN X0 hx (hb hby d16_15) rfl rfl ?_
  refine og_iloadN X0 hx (hb hby d16_16) rfl ?_
  refine own_ldB X0 hx hZ e0 Ap ⟨by decide, by decide⟩ rfl (hb hby d16_17) ?_
  show own_Go p e below _ T0 (mkF m 18 #[rv b1, rv b2, iv 0] [(.int y0)])
  refine og_aloadN X0 hx (hb hby d16_18) rfl rfl ?_
  refine og_iloadN X0 hx (hb hby d16_19) rfl ?_
  refine own_ldB X0 hx hZ e0 Aq ⟨by decide, by decide⟩ rfl (hb hby d16_20) ?_
  show own_Go p e below _ T0 (mkF m 21 #[rv b1, rv b2, iv 0] [(.int y0), (.int y0)])
  refine og_icY X0 hx 26 (hb hby d16_21) (teq rfl).1 (by decide) (by decide) ?_
  refine own_go (fun t k => XS.iinc X0.here hx rfl (hb hby d16_26) rfl (l' := #[rv b1, rv b2, iv 1]) rfl k) ?_
  show own_Go p e below _ T0 (mkF m 29 #[rv b1, rv b2, iv 1] [])
  refine og_goto X0 hx 9 (hb hby d16_29) (by decide) (by decide) ?_
  refine og_iloadN X0 hx (hb hby d16_9) rfl ?_
  refine og_aloadN X0 hx (hb hby d16_10) rfl rfl ?_
  refine own_len X0 hx hZ e0 Ap (hb hby d16_11) ?_
  show own_Go p e below _ T0 (mkF m 12 #[rv b1, rv b2, iv 1] [(.int 2), (.int 1)])
  refine og_icN X0 hx (hb hby d16_12) (tlt (by decide)).2.1 ?_
  refine og_aloadN X0 hx (hb hby d16_15) rfl rfl ?_
  refine og_iloadN X0 hx (hb hby d16_16) rfl ?_
  refine own_ldB X0 hx hZ e0 Ap ⟨by decide, by decide⟩ rfl (hb hby d16_17) ?_
  show own_Go p e below _ T0 (mkF m 18 #[rv b1, rv b2, iv 1] [(.int y1)])
  refine og_aloadN X0 hx (hb hby d16_18) rfl rfl ?_
  refine og_iloadN X0 hx (hb hby d16_19) rfl ?_
  refine own_ldB X0 hx hZ e0 Aq ⟨by decide, by decide⟩ rfl (hb hby d16_20) ?_
  show own_Go p e below _ T0 (mkF m 21 #[rv b1, rv b2, iv 1] [(.int y1), (.int y1)])
  refine og_icY X0 hx 26 (hb hby d16_21) (teq rfl).1 (by decide) (by decide) ?_
  refine own_go (fun t k => XS.iinc X0.here hx rfl (hb hby d16_26) rfl (l' := #[rv b1, rv b2, iv 2]) rfl k) ?_
  show own_Go p e below _ T0 (mkF m 29 #[rv b1, rv b2, iv 2] [])
  refine og_goto X0 hx 9 (hb hby d16_29) (by decide) (by decide) ?_
  refine og_iloadN X0 hx (hb hby d16_9) rfl ?_
  refine og_aloadN X0 hx (hb hby d16_10) rfl rfl ?_
  refine own_len X0 hx hZ e0 Ap (hb hby d16_11) ?_
  show own_Go p e below _ T0 (mkF m 12 #[rv b1, rv b2, iv 2] [(.int 2), (.int 2)])
  refine og_icY X0 hx 32 (hb hby d16_12) (flt (by decide)).2.1 (by decide) (by decide) ?_
  refine og_iconst X0 hx (hb hby d16_32) ?_
  exact own_retI X0 hx hret hlk (hb hby d16_33) rfl (by simp) (by decide) (by decide) (⟨rfl, N0, e0⟩)
theorem own_leq_3 (l : Launch) (Z : State) (a0 : Array Value) (hw : own_W a0 Z) (b1 b2 : Addr) (kp kq : ClassId) (dp dq : Value) (y0 y1 y2 : Int32) (h0 : Heap) (n0 : Nat) (Ap : Arv Z h0 b1 kp .byte 3 [(.int y0), (.int y1), (.int y2)] dp) (Aq : Arv Z h0 b2 kq .byte 3 [(.int y0), (.int y1), (.int y2)] dq) :
    own_Met l Z (⟨"java/lang/StringLatin1", "equals", "([B[B)Z"⟩ : MethodName) jdk_43_method_13_code 3 (some .boolean) own_r_cm #[(.ref b1), (.ref b2)] h0 (own_Qv (some (.int 1)) h0 n0) := by
  refine own_body (by decide +kernel) ?_
  intro p e s m below meth c T0 X0 hx hZ hby hml hown hnm hret hlk e0
  have N0 := Fr.nil n0
  refine own_cast (own_frame (L := [rv b1, rv b2]) (ls := #[rv b1, rv b2, .unset]) rfl rfl) ?_
  refine og_aloadN X0 hx (hb hby d16_0) rfl rfl ?_
  refine own_len X0 hx hZ e0 Ap (hb hby d16_1) ?_
  show own_Go p e below _ T0 (mkF m 2 #[rv b1, rv b2, .unset] [(.int 3)])
  refine og_aloadN X0 hx (hb hby d16_2) rfl rfl ?_
  refine own_len X0 hx hZ e0 Aq (hb hby d16_3) ?_
  show own_Go p e below _ T0 (mkF m 4 #[rv b1, rv b2, .unset] [(.int 3), (.int 3)])
  refine og_icN X0 hx (hb hby d16_4) (teq rfl).2 ?_
  refine og_iconst X0 hx (hb hby d16_7) ?_
  refine og_istoreN X0 hx #[rv b1, rv b2, iv 0] (hb hby d16_8) rfl ?_
  refine og_iloadN X0 hx (hb hby d16_9) rfl ?_
  refine og_aloadN X0 hx (hb hby d16_10) rfl rfl ?_
  refine own_len X0 hx hZ e0 Ap (hb hby d16_11) ?_
  show own_Go p e below _ T0 (mkF m 12 #[rv b1, rv b2, iv 0] [(.int 3), (.int 0)])
  refine og_icN X0 hx (hb hby d16_12) (tlt (by decide)).2.1 ?_
  refine og_aloadN X0 hx (hb hby d16_15) rfl rfl ?_
  refine og_iloadN X0 hx (hb hby d16_16) rfl ?_
  refine own_ldB X0 hx hZ e0 Ap ⟨by decide, by decide⟩ rfl (hb hby d16_17) ?_
  show own_Go p e below _ T0 (mkF m 18 #[rv b1, rv b2, iv 0] [(.int y0)])
  refine og_aloadN X0 hx (hb hby d16_18) rfl rfl ?_
  refine og_iloadN X0 hx (hb hby d16_19) rfl ?_
  refine own_ldB X0 hx hZ e0 Aq ⟨by decide, by decide⟩ rfl (hb hby d16_20) ?_
  show own_Go p e below _ T0 (mkF m 21 #[rv b1, rv b2, iv 0] [(.int y0), (.int y0)])
  refine og_icY X0 hx 26 (hb hby d16_21) (teq rfl).1 (by decide) (by decide) ?_
  refine own_go (fun t k => XS.iinc X0.here hx rfl (hb hby d16_26) rfl (l' := #[rv b1, rv b2, iv 1]) rfl k) ?_
  show own_Go p e below _ T0 (mkF m 29 #[rv b1, rv b2, iv 1] [])
  refine og_goto X0 hx 9 (hb hby d16_29) (by decide) (by decide) ?_
  refine og_iloadN X0 hx (hb hby d16_9) rfl ?_
  refine og_aloadN X0 hx (hb hby d16_10) rfl rfl ?_
  refine own_len X0 hx hZ e0 Ap (hb hby d16_11) ?_
  show own_Go p e below _ T0 (mkF m 12 #[rv b1, rv b2, iv 1] [(.int 3), (.int 1)])
  refine og_icN X0 hx (hb hby d16_12) (tlt (by decide)).2.1 ?_
  refine og_aloadN X0 hx (hb hby d16_15) rfl rfl ?_
  refine og_iloadN X0 hx (hb hby d16_16) rfl ?_
  refine own_ldB X0 hx hZ e0 Ap ⟨by decide, by decide⟩ rfl (hb hby d16_17) ?_
  show own_Go p e below _ T0 (mkF m 18 #[rv b1, rv b2, iv 1] [(.int y1)])
  refine og_aloadN X0 hx (hb hby d16_18) rfl rfl ?_
  refine og_iloadN X0 hx (hb hby d16_19) rfl ?_
  refine own_ldB X0 hx hZ e0 Aq ⟨by decide, by decide⟩ rfl (hb hby d16_20) ?_
  show own_Go p e below _ T0 (mkF m 21 #[rv b1, rv b2, iv 1] [(.int y1), (.int y1)])
  refine og_icY X0 hx 26 (hb hby d16_21) (teq rfl).1 (by decide) (by decide) ?_
  refine own_go (fun t k => XS.iinc X0.here hx rfl (hb hby d16_26) rfl (l' := #[rv b1, rv b2, iv 2]) rfl k) ?_
  show own_Go p e below _ T0 (mkF m 29 #[rv b1, rv b2, iv 2] [])
  refine og_goto X0 hx 9 (hb hby d16_29) (by decide) (by decide) ?_
  refine og_iloadN X0 hx (hb hby d16_9) rfl ?_
  refine og_aloadN X0 hx (hb hby d16_10) rfl rfl ?_
  refine own_len X0 hx hZ e0 Ap (hb hby d16_11) ?_
  show own_Go p e below _ T0 (mkF m 12 #[rv b1, rv b2, iv 2] [(.int 3), (.int 2)])
  refine og_icN X0 hx (hb hby d16_12) (tlt (by decide)).2.1 ?_
  refine og_aloadN X0 hx (hb hby d16_15) rfl rfl ?_
  refine og_iloadN X0 hx (hb hby d16_16) rfl ?_
  refine own_ldB X0 hx hZ e0 Ap ⟨by decide, by decide⟩ rfl (hb hby d16_17) ?_
  show own_Go p e below _ T0 (mkF m 18 #[rv b1, rv b2, iv 2] [(.int y2)])
  refine og_aloadN X0 hx (hb hby d16_18) rfl rfl ?_
  refine og_iloadN X0 hx (hb hby d16_19) rfl ?_
  refine own_ldB X0 hx hZ e0 Aq ⟨by decide, by decide⟩ rfl (hb hby d16_20) ?_
  show own_Go p e below _ T0 (mkF m 21 #[rv b1, rv b2, iv 2] [(.int y2), (.int y2)])
  refine og_icY X0 hx 26 (hb hby d16_21) (teq rfl).1 (by decide) (by decide) ?_
  refine own_go (fun t k => XS.iinc X0.here hx rfl (hb hby d16_26) rfl (l' := #[rv b1, rv b2, iv 3]) rfl k) ?_
  show own_Go p e below _ T0 (mkF m 29 #[rv b1, rv b2, iv 3] [])
  refine og_goto X0 hx 9 (hb hby d16_29) (by decide) (by decide) ?_
  refine og_iloadN X0 hx (hb hby d16_9) rfl ?_
  refine og_aloadN X0 hx (hb hby d16_10) rfl rfl ?_
  refine own_len X0 hx hZ e0 Ap (hb hby d16_11) ?_
  show own_Go p e below _ T0 (mkF m 12 #[rv b1, rv b2, iv 3] [(.int 3), (.int 3)])
  refine og_icY X0 hx 32 (hb hby d16_12) (flt (by decide)).2.1 (by decide) (by decide) ?_
  refine og_iconst X0 hx (hb hby d16_32) ?_
  exact own_retI X0 hx hret hlk (hb hby d16_33) rfl (by simp) (by decide) (by decide) (⟨rfl, N0, e0⟩)
theorem own_leq_4 (l : Launch) (Z : State) (a0 : Array Value) (hw : own_W a0 Z) (b1 b2 : Addr) (kp kq : ClassId) (dp dq : Value) (y0 y1 y2 y3 : Int32) (h0 : Heap) (n0 : Nat) (Ap : Arv Z h0 b1 kp .byte 4 [(.int y0), (.int y1), (.int y2), (.int y3)] dp) (Aq : Arv Z h0 b2 kq .byte 4 [(.int y0), (.int y1), (.int y2), (.int y3)] dq) :
    own_Met l Z (⟨"java/lang/StringLatin1", "equals", "([B[B)Z"⟩ : MethodName) jdk_43_method_13_code 3 (some .boolean) own_r_cm #[(.ref b1), (.ref b2)] h0 (own_Qv (some (.int 1)) h0 n0) := by
  refine own_body (by decide +kernel) ?_
  intro p e s m below meth c T0 X0 hx hZ hby hml hown hnm hret hlk e0
  have N0 := Fr.nil n0
  refine own_cast (own_frame (L := [rv b1, rv b2]) (ls := #[rv b1, rv b2, .unset]) rfl rfl) ?_
  refine og_aloadN X0 hx (hb hby d16_0) rfl rfl ?_
  refine own_len X0 hx hZ e0 Ap (hb hby d16_1) ?_
  show own_Go p e below _ T0 (mkF m 2 #[rv b1, rv b2, .unset] [(.int 4)])
  refine og_aloadN X0 hx (hb hby d16_2) rfl rfl ?_
  refine own_len X0 hx hZ e0 Aq (hb hby d16_3) ?_
  show own_Go p e below _ T0 (mkF m 4 #[rv b1, rv b2, .unset] [(.int 4), (.int 4)])
  refine og_icN X0 hx (hb hby d16_4) (teq rfl).2 ?_
  refine og_iconst X0 hx (hb hby d16_7) ?_
  refine og_istoreN X0 hx #[rv b1, rv b2, iv 0] (hb hby d16_8) rfl ?_
  refine og_iloadN X0 hx (hb hby d16_9) rfl ?_
  refine og_aloadN X0 hx (hb hby d16_10) rfl rfl ?_
  refine own_len X0 hx hZ e0 Ap (hb hby d16_11) ?_
  show own_Go p e below _ T0 (mkF m 12 #[rv b1, rv b2, iv 0] [(.int 4), (.int 0)])
  refine og_icN X0 hx (hb hby d16_12) (tlt (by decide)).2.1 ?_
  refine og_aloadN X0 hx (hb hby d16_15) rfl rfl ?_
  refine og_iloadN X0 hx (hb hby d16_16) rfl ?_
  refine own_ldB X0 hx hZ e0 Ap ⟨by decide, by decide⟩ rfl (hb hby d16_17) ?_
  show own_Go p e below _ T0 (mkF m 18 #[rv b1, rv b2, iv 0] [(.int y0)])
  refine og_aloadN X0 hx (hb hby d16_18) rfl rfl ?_
  refine og_iloadN X0 hx (hb hby d16_19) rfl ?_
  refine own_ldB X0 hx hZ e0 Aq ⟨by decide, by decide⟩ rfl (hb hby d16_20) ?_
  show own_Go p e below _ T0 (mkF m 21 #[rv b1, rv b2, iv 0] [(.int y0), (.int y0)])
  refine og_icY X0 hx 26 (hb hby d16_21) (teq rfl).1 (by decide) (by decide) ?_
  refine own_go (fun t k => XS.iinc X0.here hx rfl (hb hby d16_26) rfl (l' := #[rv b1, rv b2, iv 1]) rfl k) ?_
  show own_Go p e below _ T0 (mkF m 29 #[rv b1, rv b2, iv 1] [])
  refine og_goto X0 hx 9 (hb hby d16_29) (by decide) (by decide) ?_
  refine og_iloadN X0 hx (hb hby d16_9) rfl ?_
  refine og_aloadN X0 hx (hb hby d16_10) rfl rfl ?_
  refine own_len X0 hx hZ e0 Ap (hb hby d16_11) ?_
  show own_Go p e below _ T0 (mkF m 12 #[rv b1, rv b2, iv 1] [(.int 4), (.int 1)])
  refine og_icN X0 hx (hb hby d16_12) (tlt (by decide)).2.1 ?_
  refine og_aloadN X0 hx (hb hby d16_15) rfl rfl ?_
  refine og_iloadN X0 hx (hb hby d16_16) rfl ?_
  refine own_ldB X0 hx hZ e0 Ap ⟨by decide, by decide⟩ rfl (hb hby d16_17) ?_
  show own_Go p e below _ T0 (mkF m 18 #[rv b1, rv b2, iv 1] [(.int y1)])
  refine og_aloadN X0 hx (hb hby d16_18) rfl rfl ?_
  refine og_iloadN X0 hx (hb hby d16_19) rfl ?_
  refine own_ldB X0 hx hZ e0 Aq ⟨by decide, by decide⟩ rfl (hb hby d16_20) ?_
  show own_Go p e below _ T0 (mkF m 21 #[rv b1, rv b2, iv 1] [(.int y1), (.int y1)])
  refine og_icY X0 hx 26 (hb hby d16_21) (teq rfl).1 (by decide) (by decide) ?_
  refine own_go (fun t k => XS.iinc X0.here hx rfl (hb hby d16_26) rfl (l' := #[rv b1, rv b2, iv 2]) rfl k) ?_
  show own_Go p e below _ T0 (mkF m 29 #[rv b1, rv b2, iv 2] [])
  refine og_goto X0 hx 9 (hb hby d16_29) (by decide) (by decide) ?_
  refine og_iloadN X0 hx (hb hby d16_9) rfl ?_
  refine og_aloadN X0 hx (hb hby d16_10) rfl rfl ?_
  refine own_len X0 hx hZ e0 Ap (hb hby d16_11) ?_
  show own_Go p e below _ T0 (mkF m 12 #[rv b1, rv b2, iv 2] [(.int 4), (.int 2)])
  refine og_icN X0 hx (hb hby d16_12) (tlt (by decide)).2.1 ?_
  refine og_aloadN X0 hx (hb hby d16_15) rfl rfl ?_
  refine og_iloadN X0 hx (hb hby d16_16) rfl ?_
  refine own_ldB X0 hx hZ e0 Ap ⟨by decide, by decide⟩ rfl (hb hby d16_17) ?_
  show own_Go p e below _ T0 (mkF m 18 #[rv b1, rv b2, iv 2] [(.int y2)])
  refine og_aloadN X0 hx (hb hby d16_18) rfl rfl ?_
  refine og_iloadN X0 hx (hb hby d16_19) rfl ?_
  refine own_ldB X0 hx hZ e0 Aq ⟨by decide, by decide⟩ rfl (hb hby d16_20) ?_
  show own_Go p e below _ T0 (mkF m 21 #[rv b1, rv b2, iv 2] [(.int y2), (.int y2)])
  refine og_icY X0 hx 26 (hb hby d16_21) (teq rfl).1 (by decide) (by decide) ?_
  refine own_go (fun t k => XS.iinc X0.here hx rfl (hb hby d16_26) rfl (l' := #[rv b1, rv b2, iv 3]) rfl k) ?_
  show own_Go p e below _ T0 (mkF m 29 #[rv b1, rv b2, iv 3] [])
  refine og_goto X0 hx 9 (hb hby d16_29) (by decide) (by decide) ?_
  refine og_iloadN X0 hx (hb hby d16_9) rfl ?_
  refine og_aloadN X0 hx (hb hby d16_10) rfl rfl ?_
  refine own_len X0 hx hZ e0 Ap (hb hby d16_11) ?_
  show own_Go p e below _ T0 (mkF m 12 #[rv b1, rv b2, iv 3] [(.int 4), (.int 3)])
  refine og_icN X0 hx (hb hby d16_12) (tlt (by decide)).2.1 ?_
  refine og_aloadN X0 hx (hb hby d16_15) rfl rfl ?_
  refine og_iloadN X0 hx (hb hby d16_16) rfl ?_
  refine own_ldB X0 hx hZ e0 Ap ⟨by decide, by decide⟩ rfl (hb hby d16_17) ?_
  show own_Go p e below _ T0 (mkF m 18 #[rv b1, rv b2, iv 3] [(.int y3)])
  refine og_aloadN X0 hx (hb hby d16_18) rfl rfl ?_
  refine og_iloadN X0 hx (hb hby d16_19) rfl ?_
  refine own_ldB X0 hx hZ e0 Aq ⟨by decide, by decide⟩ rfl (hb hby d16_20) ?_
  show own_Go p e below _ T0 (mkF m 21 #[rv b1, rv b2, iv 3] [(.int y3), (.int y3)])
  refine og_icY X0 hx 26 (hb hby d16_21) (teq rfl).1 (by decide) (by decide) ?_
  refine own_go (fun t k => XS.iinc X0.here hx rfl (hb hby d16_26) rfl (l' := #[rv b1, rv b2, iv 4]) rfl k) ?_
  show own_Go p e below _ T0 (mkF m 29 #[rv b1, rv b2, iv 4] [])
  refine og_goto X0 hx 9 (hb hby d16_29) (by decide) (by decide) ?_
  refine og_iloadN X0 hx (hb hby d16_9) rfl ?_
  refine og_aloadN X0 hx (hb hby d16_10) rfl rfl ?_
  refine own_len X0 hx hZ e0 Ap (hb hby d16_11) ?_
  show own_Go p e below _ T0 (mkF m 12 #[rv b1, rv b2, iv 4] [(.int 4), (.int 4)])
  refine og_icY X0 hx 32 (hb hby d16_12) (flt (by decide)).2.1 (by decide) (by decide) ?_
  refine og_iconst X0 hx (hb hby d16_32) ?_
  exact own_retI X0 hx hret hlk (hb hby d16_33) rfl (by simp) (by decide) (by decide) (⟨rfl, N0, e0⟩)
theorem own_leq_6 (l : Launch) (Z : State) (a0 : Array Value) (hw : own_W a0 Z) (b1 b2 : Addr) (kp kq : ClassId) (dp dq : Value) (y0 y1 y2 y3 y4 y5 : Int32) (h0 : Heap) (n0 : Nat) (Ap : Arv Z h0 b1 kp .byte 6 [(.int y0), (.int y1), (.int y2), (.int y3), (.int y4), (.int y5)] dp) (Aq : Arv Z h0 b2 kq .byte 6 [(.int y0), (.int y1), (.int y2), (.int y3), (.int y4), (.int y5)] dq) :
    own_Met l Z (⟨"java/lang/StringLatin1", "equals", "([B[B)Z"⟩ : MethodName) jdk_43_method_13_code 3 (some .boolean) own_r_cm #[(.ref b1), (.ref b2)] h0 (own_Qv (some (.int 1)) h0 n0) := by
  refine own_body (by decide +kernel) ?_
  intro p e s m below meth c T0 X0 hx hZ hby hml hown hnm hret hlk e0
  have N0 := Fr.nil n0
  refine own_cast (own_frame (L := [rv b1, rv b2]) (ls := #[rv b1, rv b2, .unset]) rfl rfl) ?_
  refine og_aloadN X0 hx (hb hby d16_0) rfl rfl ?_
  refine own_len X0 hx hZ e0 Ap (hb hby d16_1) ?_
  show own_Go p e below _ T0 (mkF m 2 #[rv b1, rv b2, .unset] [(.int 6)])
  refine og_aloadN X0 hx (hb hby d16_2) rfl rfl ?_
  refine own_len X0 hx hZ e0 Aq (hb hby d16_3) ?_
  show own_Go p e below _ T0 (mkF m 4 #[rv b1, rv b2, .unset] [(.int 6), (.int 6)])
  refine og_icN X0 hx (hb hby d16_4) (teq rfl).2 ?_
  refine og_iconst X0 hx (hb hby d16_7) ?_
  refine og_istoreN X0 hx #[rv b1, rv b2, iv 0] (hb hby d16_8) rfl ?_
  refine og_iloadN X0 hx (hb hby d16_9) rfl ?_
  refine og_aloadN X0 hx (hb hby d16_10) rfl rfl ?_
  refine own_len X0 hx hZ e0 Ap (hb hby d16_11) ?_
  show own_Go p e below _ T0 (mkF m 12 #[rv b1, rv b2, iv 0] [(.int 6), (.int 0)])
  refine og_icN X0 hx (hb hby d16_12) (tlt (by decide)).2.1 ?_
  refine og_aloadN X0 hx (hb hby d16_15) rfl rfl ?_
  refine og_iloadN X0 hx (hb hby d16_16) rfl ?_
  refine own_ldB X0 hx hZ e0 Ap ⟨by decide, by decide⟩ rfl (hb hby d16_17) ?_
  show own_Go p e below _ T0 (mkF m 18 #[rv b1, rv b2, iv 0] [(.int y0)])
  refine og_aloadN X0 hx (hb hby d16_18) rfl rfl ?_
  refine og_iloadN X0 hx (hb hby d16_19) rfl ?_
  refine own_ldB X0 hx hZ e0 Aq ⟨by decide, by decide⟩ rfl (hb hby d16_20) ?_
  show own_Go p e below _ T0 (mkF m 21 #[rv b1, rv b2, iv 0] [(.int y0), (.int y0)])
  refine og_icY X0 hx 26 (hb hby d16_21) (teq rfl).1 (by decide) (by decide) ?_
  refine own_go (fun t k => XS.iinc X0.here hx rfl (hb hby d16_26) rfl (l' := #[rv b1, rv b2, iv 1]) rfl k) ?_
  show own_Go p e below _ T0 (mkF m 29 #[rv b1, rv b2, iv 1] [])
  refine og_goto X0 hx 9 (hb hby d16_29) (by decide) (by decide) ?_
  refine og_iloadN X0 hx (hb hby d16_9) rfl ?_
  refine og_aloadN X0 hx (hb hby d16_10) rfl rfl ?_
  refine own_len X0 hx hZ e0 Ap (hb hby d16_11) ?_
  show own_Go p e below _ T0 (mkF m 12 #[rv b1, rv b2, iv 1] [(.int 6), (.int 1)])
  refine og_icN X0 hx (hb hby d16_12) (tlt (by decide)).2.1 ?_
  refine og_aloadN X0 hx (hb hby d16_15) rfl rfl ?_
  refine og_iloadN X0 hx (hb hby d16_16) rfl ?_
  refine own_ldB X0 hx hZ e0 Ap ⟨by decide, by decide⟩ rfl (hb hby d16_17) ?_
  show own_Go p e below _ T0 (mkF m 18 #[rv b1, rv b2, iv 1] [(.int y1)])
  refine og_aloadN X0 hx (hb hby d16_18) rfl rfl ?_
  refine og_iloadN X0 hx (hb hby d16_19) rfl ?_
  refine own_ldB X0 hx hZ e0 Aq ⟨by decide, by decide⟩ rfl (hb hby d16_20) ?_
  show own_Go p e below _ T0 (mkF m 21 #[rv b1, rv b2, iv 1] [(.int y1), (.int y1)])
  refine og_icY X0 hx 26 (hb hby d16_21) (teq rfl).1 (by decide) (by decide) ?_
  refine own_go (fun t k => XS.iinc X0.here hx rfl (hb hby d16_26) rfl (l' := #[rv b1, rv b2, iv 2]) rfl k) ?_
  show own_Go p e below _ T0 (mkF m 29 #[rv b1, rv b2, iv 2] [])
  refine og_goto X0 hx 9 (hb hby d16_29) (by decide) (by decide) ?_
  refine og_iloadN X0 hx (hb hby d16_9) rfl ?_
  refine og_aloadN X0 hx (hb hby d16_10) rfl rfl ?_
  refine own_len X0 hx hZ e0 Ap (hb hby d16_11) ?_
  show own_Go p e below _ T0 (mkF m 12 #[rv b1, rv b2, iv 2] [(.int 6), (.int 2)])
  refine og_icN X0 hx (hb hby d16_12) (tlt (by decide)).2.1 ?_
  refine og_aloadN X0 hx (hb hby d16_15) rfl rfl ?_
  refine og_iloadN X0 hx (hb hby d16_16) rfl ?_
  refine own_ldB X0 hx hZ e0 Ap ⟨by decide, by decide⟩ rfl (hb hby d16_17) ?_
  show own_Go p e below _ T0 (mkF m 18 #[rv b1, rv b2, iv 2] [(.int y2)])
  refine og_aloadN X0 hx (hb hby d16_18) rfl rfl ?_
  refine og_iloadN X0 hx (hb hby d16_19) rfl ?_
  refine own_ldB X0 hx hZ e0 Aq ⟨by decide, by decide⟩ rfl (hb hby d16_20) ?_
  show own_Go p e below _ T0 (mkF m 21 #[rv b1, rv b2, iv 2] [(.int y2), (.int y2)])
  refine og_icY X0 hx 26 (hb hby d16_21) (teq rfl).1 (by decide) (by decide) ?_
  refine own_go (fun t k => XS.iinc X0.here hx rfl (hb hby d16_26) rfl (l' := #[rv b1, rv b2, iv 3]) rfl k) ?_
  show own_Go p e below _ T0 (mkF m 29 #[rv b1, rv b2, iv 3] [])
  refine og_goto X0 hx 9 (hb hby d16_29) (by decide) (by decide) ?_
  refine og_iloadN X0 hx (hb hby d16_9) rfl ?_
  refine og_aloadN X0 hx (hb hby d16_10) rfl rfl ?_
  refine own_len X0 hx hZ e0 Ap (hb hby d16_11) ?_
  show own_Go p e below _ T0 (mkF m 12 #[rv b1, rv b2, iv 3] [(.int 6), (.int 3)])
  refine og_icN X0 hx (hb hby d16_12) (tlt (by decide)).2.1 ?_
  refine og_aloadN X0 hx (hb hby d16_15) rfl rfl ?_
  refine og_iloadN X0 hx (hb hby d16_16) rfl ?_
  refine own_ldB X0 hx hZ e0 Ap ⟨by decide, by decide⟩ rfl (hb hby d16_17) ?_
  show own_Go p e below _ T0 (mkF m 18 #[rv b1, rv b2, iv 3] [(.int y3)])
  refine og_aloadN X0 hx (hb hby d16_18) rfl rfl ?_
  refine og_iloadN X0 hx (hb hby d16_19) rfl ?_
  refine own_ldB X0 hx hZ e0 Aq ⟨by decide, by decide⟩ rfl (hb hby d16_20) ?_
  show own_Go p e below _ T0 (mkF m 21 #[rv b1, rv b2, iv 3] [(.int y3), (.int y3)])
  refine og_icY X0 hx 26 (hb hby d16_21) (teq rfl).1 (by decide) (by decide) ?_
  refine own_go (fun t k => XS.iinc X0.here hx rfl (hb hby d16_26) rfl (l' := #[rv b1, rv b2, iv 4]) rfl k) ?_
  show own_Go p e below _ T0 (mkF m 29 #[rv b1, rv b2, iv 4] [])
  refine og_goto X0 hx 9 (hb hby d16_29) (by decide) (by decide) ?_
  refine og_iloadN X0 hx (hb hby d16_9) rfl ?_
  refine og_aloadN X0 hx (hb hby d16_10) rfl rfl ?_
  refine own_len X0 hx hZ e0 Ap (hb hby d16_11) ?_
  show own_Go p e below _ T0 (mkF m 12 #[rv b1, rv b2, iv 4] [(.int 6), (.int 4)])
  refine og_icN X0 hx (hb hby d16_12) (tlt (by decide)).2.1 ?_
  refine og_aloadN X0 hx (hb hby d16_15) rfl rfl ?_
  refine og_iloadN X0 hx (hb hby d16_16) rfl ?_
  refine own_ldB X0 hx hZ e0 Ap ⟨by decide, by decide⟩ rfl (hb hby d16_17) ?_
  show own_Go p e below _ T0 (mkF m 18 #[rv b1, rv b2, iv 4] [(.int y4)])
  refine og_aloadN X0 hx (hb hby d16_18) rfl rfl ?_
  refine og_iloadN X0 hx (hb hby d16_19) rfl ?_
  refine own_ldB X0 hx hZ e0 Aq ⟨by decide, by decide⟩ rfl (hb hby d16_20) ?_
  show own_Go p e below _ T0 (mkF m 21 #[rv b1, rv b2, iv 4] [(.int y4), (.int y4)])
  refine og_icY X0 hx 26 (hb hby d16_21) (teq rfl).1 (by decide) (by decide) ?_
  refine own_go (fun t k => XS.iinc X0.here hx rfl (hb hby d16_26) rfl (l' := #[rv b1, rv b2, iv 5]) rfl k) ?_
  show own_Go p e below _ T0 (mkF m 29 #[rv b1, rv b2, iv 5] [])
  refine og_goto X0 hx 9 (hb hby d16_29) (by decide) (by decide) ?_
  refine og_iloadN X0 hx (hb hby d16_9) rfl ?_
  refine og_aloadN X0 hx (hb hby d16_10) rfl rfl ?_
  refine own_len X0 hx hZ e0 Ap (hb hby d16_11) ?_
  show own_Go p e below _ T0 (mkF m 12 #[rv b1, rv b2, iv 5] [(.int 6), (.int 5)])
  refine og_icN X0 hx (hb hby d16_12) (tlt (by decide)).2.1 ?_
  refine og_aloadN X0 hx (hb hby d16_15) rfl rfl ?_
  refine og_iloadN X0 hx (hb hby d16_16) rfl ?_
  refine own_ldB X0 hx hZ e0 Ap ⟨by decide, by decide⟩ rfl (hb hby d16_17) ?_
  show own_Go p e below _ T0 (mkF m 18 #[rv b1, rv b2, iv 5] [(.int y5)])
  refine og_aloadN X0 hx (hb hby d16_18) rfl rfl ?_
  refine og_iloadN X0 hx (hb hby d16_19) rfl ?_
  refine own_ldB X0 hx hZ e0 Aq ⟨by decide, by decide⟩ rfl (hb hby d16_20) ?_
  show own_Go p e below _ T0 (mkF m 21 #[rv b1, rv b2, iv 5] [(.int y5), (.int y5)])
  refine og_icY X0 hx 26 (hb hby d16_21) (teq rfl).1 (by decide) (by decide) ?_
  refine own_go (fun t k => XS.iinc X0.here hx rfl (hb hby d16_26) rfl (l' := #[rv b1, rv b2, iv 6]) rfl k) ?_
  show own_Go p e below _ T0 (mkF m 29 #[rv b1, rv b2, iv 6] [])
  refine og_goto X0 hx 9 (hb hby d16_29) (by decide) (by decide) ?_
  refine og_iloadN X0 hx (hb hby d16_9) rfl ?_
  refine og_aloadN X0 hx (hb hby d16_10) rfl rfl ?_
  refine own_len X0 hx hZ e0 Ap (hb hby d16_11) ?_
  show own_Go p e below _ T0 (mkF m 12 #[rv b1, rv b2, iv 6] [(.int 6), (.int 6)])
  refine og_icY X0 hx 32 (hb hby d16_12) (flt (by decide)).2.1 (by decide) (by decide) ?_
  refine og_iconst X0 hx (hb hby d16_32) ?_
  exact own_retI X0 hx hret hlk (hb hby d16_33) rfl (by simp) (by decide) (by decide) (⟨rfl, N0, e0⟩)
theorem own_leq (l : Launch) (Z : State) (a0 : Array Value) (hw : own_W a0 Z) (b1 b2 : Addr) (kp kq : ClassId) (dp dq : Value) (NN : Int32) (vs : List Value) (h0 : Heap) (n0 : Nat) (hL : own_LN NN vs) (Ap : Arv Z h0 b1 kp .byte NN vs dp) (Aq : Arv Z h0 b2 kq .byte NN vs dq) :
    own_Met l Z (⟨"java/lang/StringLatin1", "equals", "([B[B)Z"⟩ : MethodName) jdk_43_method_13_code 3 (some .boolean) own_r_cm #[.ref b1, .ref b2] h0 (own_Qv (some (.int 1)) h0 n0) := by
  rcases hL with ⟨rfl, rfl⟩ | ⟨y0, rfl, rfl⟩ | ⟨y0, y1, rfl, rfl⟩ | ⟨y0, y1, y2, rfl, rfl⟩ | ⟨y0, y1, y2, y3, rfl, rfl⟩ | ⟨y0, y1, y2, y3, y4, y5, rfl, rfl⟩
  · exact own_leq_0 l Z a0 hw b1 b2 kp kq dp dq  h0 n0 Ap Aq
  · exact own_leq_1 l Z a0 hw b1 b2 kp kq dp dq y0 h0 n0 Ap Aq
  · exact own_leq_2 l Z a0 hw b1 b2 kp kq dp dq y0 y1 h0 n0 Ap Aq
  · exact own_leq_3 l Z a0 hw b1 b2 kp kq dp dq y0 y1 y2 h0 n0 Ap Aq
  · exact own_leq_4 l Z a0 hw b1 b2 kp kq dp dq y0 y1 y2 y3 h0 n0 Ap Aq
  · exact own_leq_6 l Z a0 hw b1 b2 kp kq dp dq y0 y1 y2 y3 y4 y5 h0 n0 Ap Aq
theorem d15_0 : decode jdk_42_method_66_code 0 = .ok (.aload_n 0, 1) := by decide +kernel
theorem d15_1 : decode jdk_42_method_66_code 1 = .ok (.aload_n 1, 1) := by decide +kernel
theorem d15_2 : decode jdk_42_method_66_code 2 = .ok (.if_acmp .ne 5, 3) := by decide +kernel
theorem d15_7 : decode jdk_42_method_66_code 7 = .ok (.aload_n 1, 1) := by decide +kernel
theorem d15_8 : decode jdk_42_method_66_code 8 = .ok (.instanceof 10, 3) := by decide +kernel
theorem d15_11 : decode jdk_42_method_66_code 11 = .ok (.ifCond .eq 43, 3) := by decide +kernel
theorem d15_14 : decode jdk_42_method_66_code 14 = .ok (.aload_n 1, 1) := by decide +kernel
theorem d15_15 : decode jdk_42_method_66_code 15 = .ok (.checkcast 10, 3) := by decide +kernel
theorem d15_18 : decode jdk_42_method_66_code 18 = .ok (.astore_n 2, 1) := by decide +kernel
theorem d15_19 : decode jdk_42_method_66_code 19 = .ok (.getstatic 38, 3) := by decide +kernel
theorem d15_22 : decode jdk_42_method_66_code 22 = .ok (.ifCond .eq 14, 3) := by decide +kernel
theorem d15_25 : decode jdk_42_method_66_code 25 = .ok (.aload_n 0, 1) := by decide +kernel
theorem d15_26 : decode jdk_42_method_66_code 26 = .ok (.getfield 15, 3) := by decide +kernel
theorem d15_29 : decode jdk_42_method_66_code 29 = .ok (.aload_n 2, 1) := by decide +kernel
theorem d15_30 : decode jdk_42_method_66_code 30 = .ok (.getfield 15, 3) := by decide +kernel
theorem d15_33 : decode jdk_42_method_66_code 33 = .ok (.if_icmp .ne 21, 3) := by decide +kernel
theorem d15_36 : decode jdk_42_method_66_code 36 = .ok (.aload_n 0, 1) := by decide +kernel
theorem d15_37 : decode jdk_42_method_66_code 37 = .ok (.getfield 9, 3) := by decide +kernel
theorem d15_40 : decode jdk_42_method_66_code 40 = .ok (.aload_n 2, 1) := by decide +kernel
theorem d15_41 : decode jdk_42_method_66_code 41 = .ok (.getfield 9, 3) := by decide +kernel
theorem d15_44 : decode jdk_42_method_66_code 44 = .ok (.invokestatic 541, 3) := by decide +kernel
theorem d15_47 : decode jdk_42_method_66_code 47 = .ok (.ifCond .eq 7, 3) := by decide +kernel
theorem d15_50 : decode jdk_42_method_66_code 50 = .ok (.iconst 1, 1) := by decide +kernel
theorem d15_51 : decode jdk_42_method_66_code 51 = .ok (.goto 4, 3) := by decide +kernel
theorem d15_55 : decode jdk_42_method_66_code 55 = .ok (.ireturn, 1) := by decide +kernel
theorem own_pd17428 : parseMethodDescriptor "([B[B)Z" = some ⟨[(.array .byte), (.array .byte)], some .boolean⟩ := by decide +kernel
def own_r_own_seq : Room := { frames := 1, cells := 0, slots := 0, locals := 14 }
theorem own_seq (l : Launch) (Z : State) (a0 : Array Value) (hw : own_W a0 Z) (z : Int32) (sf : Value) (t1 b1 t2 b2 : Addr) (kp kq : ClassId) (dp dq : Value) (NN cd : Int32) (vs : List Value) (h0 : Heap) (n0 : Nat) (hO : Old Z n0 h0) (hG : own_Gs Z z sf) (ne12 : t1 ≠ t2) (hL : own_LN NN vs) (Ep : own_E Z h0 t1) (Vp : own_V Z h0 t1 b1) (Cp : own_Cd Z h0 t1 cd) (Ap : Arv Z h0 b1 kp .byte NN vs dp) (Eq : own_E Z h0 t2) (Vq : own_V Z h0 t2 b2) (Cq : own_Cd Z h0 t2 cd) (Aq : Arv Z h0 b2 kq .byte NN vs dq) :
    own_Met l Z (⟨"java/lang/String", "equals", "(Ljava/lang/Object;)Z"⟩ : MethodName) jdk_42_method_66_code 3 (some .boolean) own_r_own_seq #[(.ref t1), (.ref t2)] h0 (own_Qv (some (.int 1)) h0 n0) := by
  refine own_body (by decide +kernel) ?_
  intro p e s m below meth c T0 X0 hx hZ hby hml hown hnm hret hlk e0
  have N0 := Fr.nil n0
  refine own_cast (own_frame (L := [rv t1, rv t2]) (ls := #[rv t1, rv t2, .unset]) rfl rfl) ?_
  obtain ⟨SC, hz, SF, rf⟩ := id hG
  refine og_aloadN X0 hx (hb hby d15_0) rfl rfl ?_
  refine og_aloadN X0 hx (hb hby d15_1) rfl rfl ?_
  refine og_acmp X0 hx (pc' := 7) (same := false) rfl rfl (hb hby d15_2) (decide_eq_false (fun q => ne12 (Value.ref.inj q))) (by decide) (by decide) ?_
  show own_Go p e below _ T0 (mkF m 7 #[rv t1, rv t2, .unset] [])
  refine og_aloadN X0 hx (hb hby d15_7) rfl rfl ?_
  refine own_instY X0 hx hZ hown (own_hw hw 72 rfl) e0 (Ins.self Eq) (hb hby d15_8) ?_
  intro T1 X1 e1
  show own_Go p e below _ T1 (mkF m 11 #[rv t1, rv t2, .unset] [(.int 1)])
  refine og_ifN X1 hx (hb hby d15_11) (feq (by decide)).1 ?_
  refine og_aloadN X1 hx (hb hby d15_14) rfl rfl ?_
  refine own_castY X1 hx hZ hown (own_hw hw 72 rfl) e1 (Ins.self Eq) (hb hby d15_15) ?_
  intro T2 X2 e2
  show own_Go p e below _ T2 (mkF m 18 #[rv t1, rv t2, .unset] [(.ref t2)])
  refine og_astoreN X2 hx #[rv t1, rv t2, rv t2] (hb hby d15_18) rfl rfl ?_
  refine og_getS X2 hx hZ hown (own_hw hw 18 rfl) Via.refl e2 (SC.ext hO.2) (hb hby d15_19) ?_
  intro T3 X3 e3
  show own_Go p e below _ T3 (mkF m 22 #[rv t1, rv t2, rv t2] [(.int z)])
  refine og_ifN X3 hx (hb hby d15_22) (feq hz).1 ?_
  refine og_aloadN X3 hx (hb hby d15_25) rfl rfl ?_
  refine og_getF X3 hx hZ hown (own_hw hw 30 rfl) Via.refl e3 Cp (hb hby d15_26) ?_
  intro T4 X4 e4
  refine og_aloadN X4 hx (hb hby d15_29) rfl rfl ?_
  refine og_getF X4 hx hZ hown (own_hw hw 30 rfl) Via.refl e4 Cq (hb hby d15_30) ?_
  intro T5 X5 e5
  show own_Go p e below _ T5 (mkF m 33 #[rv t1, rv t2, rv t2] [(.int cd), (.int cd)])
  refine og_icN X5 hx (hb hby d15_33) (teq rfl).2 ?_
  refine og_aloadN X5 hx (hb hby d15_36) rfl rfl ?_
  refine og_getF X5 hx hZ hown (own_hw hw 32 rfl) Via.refl e5 Vp (hb hby d15_37) ?_
  intro T6 X6 e6
  refine og_aloadN X6 hx (hb hby d15_40) rfl rfl ?_
  refine og_getF X6 hx hZ hown (own_hw hw 32 rfl) Via.refl e6 Vq (hb hby d15_41) ?_
  intro T7 X7 e7
  show own_Go p e below _ T7 (mkF m 44 #[rv t1, rv t2, rv t2] [(.ref b2), (.ref b1)])
  refine own_callS X7 hx hZ hown (own_hw hw 73 rfl) (own_hw hw 74 rfl) (own_hw hw 55 rfl) (own_hw hw 75 rfl) (by decide) (argsL := [(.ref b1), (.ref b2)]) (rest := []) (own_leq l Z a0 hw b1 b2 _ _ _ _ NN vs h0 n0 hL Ap Aq) e7 (by rw [hml]; rfl) (lenOf own_pd17428 rfl) rfl (hb hby d15_44) (W := 0) (Nat.le_of_eq rfl) (by decide) ?_
  intro v8 T8 L8 X8 q8
  obtain ⟨rfl, N8q, e8⟩ := q8
  have N8 := Fr.app N0 N8q
  show own_Go p e below _ T8 (mkF m 47 #[rv t1, rv t2, rv t2] [(.int 1)])
  refine og_ifN X8 hx (hb hby d15_47) (feq (by decide)).1 ?_
  refine og_iconst X8 hx (hb hby d15_50) ?_
  refine og_goto X8 hx 55 (hb hby d15_51) (by decide) (by decide) ?_
  exact own_retI X8 hx hret hlk (hb hby d15_55) rfl (by simp) (by decide) (by decide) (⟨rfl, N8, e8⟩)
theorem own_n4 (x : Int32) : (x &&& 3) = 0 ∨ (x &&& 3) = 1 ∨ (x &&& 3) = 2 ∨ (x &&& 3) = 3 := by
  have h : (x &&& 3).toInt = x.toInt % 2 ^ 2 := Jvm.Kit.i32_mask x 3 (k := 2) (by decide) (by decide)
  have e : ∀ k : Int32, k.toInt = (x &&& 3).toInt → (x &&& 3) = k := fun k q => Int32.toInt_inj.mp q.symm
  have e0 : (0 : Int32).toInt = 0 := rfl
  have e1 : (1 : Int32).toInt = 1 := rfl
  have e2 : (2 : Int32).toInt = 2 := rfl
  have e3 : (3 : Int32).toInt = 3 := rfl
  rcases (by omega : (x &&& 3).toInt = 0 ∨ (x &&& 3).toInt = 1 ∨ (x &&& 3).toInt = 2 ∨ (x &&& 3).toInt = 3) with q | q | q | q
  · exact Or.inl (e _ (by omega))
  · exact Or.inr (Or.inl (e _ (by omega)))
  · exact Or.inr (Or.inr (Or.inl (e _ (by omega))))
  · exact Or.inr (Or.inr (Or.inr (e _ (by omega))))
theorem own_pd47132 : parseMethodDescriptor "(ICCC)Ljava/lang/String;" = some ⟨[.int, .char, .char, .char], some (.object "java/lang/String")⟩ := by decide +kernel
theorem own_pd11897 : parseMethodDescriptor "(Ljava/lang/String;)Ljava/lang/String;" = some ⟨[(.object "java/lang/String")], some (.object "java/lang/String")⟩ := by decide +kernel
theorem own_pd97300 : parseMethodDescriptor "(Ljava/lang/Object;)Z" = some ⟨[(.object "java/lang/Object")], some .boolean⟩ := by decide +kernel
theorem own_rm0 (l : Launch) (Z : State) (a0 : Array Value) (hw : own_W a0 Z) (p1 p2 p3 p4 p5 : Int32) (z : Int32) (sf : Value) (h0 : Heap) (n0 : Nat) (hO : Old Z n0 h0) (hG : own_Gs Z z sf) (hU : own_Us Z) :
    own_MetH l Z own_EL x code maxLocals ret room_1 #[(.int p1), (.int p2), (.int p3), (.int p4), (.int p5)] h0 (own_Q1 n0) := by
  refine own_bodyH (by decide +kernel) ?_
  intro p e s m below meth c T0 X0 hx hZ hby hml hown hnm hret hlk e0 hS hk C0
  have hwS : ∀ a ∈ Bundle.stringAtoms, a.before a0 Z = true := fun d hd => hw d ((by decide +kernel : ∀ d ∈ Bundle.stringAtoms, d ∈ tables_1) d hd)
  have N0 := Fr.nil n0
  refine own_cast (own_frame (L := [iv p1, iv p2, iv p3, iv p4, iv p5]) (ls := #[iv p1, iv p2, iv p3, iv p4, iv p5, .unset, .unset, .unset, .unset, .unset, .unset, .unset]) rfl rfl) ?_
  obtain ⟨SC, hz, SF, rf⟩ := id hG
  refine og_iloadN X0 hx (hb hby at_0) rfl ?_
  refine og_iconst X0 hx (hb hby at_1) ?_
  refine og_iand X0 hx (hb hby at_2) ?_
  show own_Go p e below _ T0 (mkF m 3 #[iv p1, iv p2, iv p3, iv p4, iv p5, .unset, .unset, .unset, .unset, .unset, .unset, .unset] [(.int (p2 &&& 3))])
  obtain ⟨ln, eln, hln⟩ : ∃ x : Int32, p2 &&& 3 = x ∧ (x = 0 ∨ x = 1 ∨ x = 2 ∨ x = 3) := ⟨_, rfl, own_n4 p2⟩
  rw [eln]
  show own_Go p e below _ T0 (mkF m 3 #[iv p1, iv p2, iv p3, iv p4, iv p5, .unset, .unset, .unset, .unset, .unset, .unset, .unset] [(.int ln)])
  refine og_istore X0 hx #[iv p1, iv p2, iv p3, iv p4, iv p5, iv ln, .unset, .unset, .unset, .unset, .unset, .unset] (hb hby at_3) rfl ?_
  refine own_cut (F := fun v1 : {c : Int32 // own_R c} => (mkF m 20 #[iv p1, iv p2, iv p3, iv p4, iv p5, iv ln, iv v1.1, .unset, .unset, .unset, .unset, .unset] [])) ?_ ?_
  · rintro ⟨ca, hca⟩
    show own_Go p e below _ T0 (mkF m 20 #[iv p1, iv p2, iv p3, iv p4, iv p5, iv ln, iv ca, .unset, .unset, .unset, .unset, .unset] [])
    refine own_cut (F := fun v2 : {c : Int32 // own_R c} => (mkF m 35 #[iv p1, iv p2, iv p3, iv p4, iv p5, iv ln, iv ca, iv v2.1, .unset, .unset, .unset, .unset] [])) ?_ ?_
    · rintro ⟨cb, hcb⟩
      show own_Go p e below _ T0 (mkF m 35 #[iv p1, iv p2, iv p3, iv p4, iv p5, iv ln, iv ca, iv cb, .unset, .unset, .unset, .unset] [])
      refine own_cut (F := fun v3 : {c : Int32 // own_R c} => (mkF m 51 #[iv p1, iv p2, iv p3, iv p4, iv p5, iv ln, iv ca, iv cb, iv v3.1, .unset, .unset, .unset] [])) ?_ ?_
      · rintro ⟨cc, hcc⟩
        show own_Go p e below _ T0 (mkF m 51 #[iv p1, iv p2, iv p3, iv p4, iv p5, iv ln, iv ca, iv cb, iv cc, .unset, .unset, .unset] [])
        refine og_iload X0 hx (hb hby at_51) rfl ?_
        show own_Go p e below _ T0 (mkF m 53 #[iv p1, iv p2, iv p3, iv p4, iv p5, iv ln, iv ca, iv cb, iv cc, .unset, .unset, .unset] [(.int ln)])
        rcases hln with rfl | rfl | rfl | rfl
        · show own_Go p e below _ T0 (mkF m 53 #[iv p1, iv p2, iv p3, iv p4, iv p5, iv 0, iv ca, iv cb, iv cc, .unset, .unset, .unset] [(.int 0)])
          refine og_iload X0 hx (hb hby at_53) rfl ?_
          show own_Go p e below _ T0 (mkF m 55 #[iv p1, iv p2, iv p3, iv p4, iv p5, iv 0, iv ca, iv cb, iv cc, .unset, .unset, .unset] [(.int ca), (.int 0)])
          refine og_iload X0 hx (hb hby at_55) rfl ?_
          refine og_iload X0 hx (hb hby at_57) rfl ?_
          refine own_callSH X0 hx hZ hown (own_hw hw 0 rfl) (own_hw hw 1 rfl) (own_hw hw 2 rfl) (own_hw hw 3 rfl) (by decide) (argsL := [(.int 0), (.int ca), (.int cb), (.int cc)]) (rest := []) (own_mk0 l Z a0 hw ca cb cc h0 n0 hO) (own_EW hw) C0.1 hS hk e0 (by rw [hml]; rfl) (lenOf own_pd47132 rfl) rfl (hb hby at_59) (W := 0) (Nat.le_of_eq rfl) (by decide) ?_
          intro v4 T4 L4 X4 hS4 hZ4 hown4 C4q q4
          obtain ⟨t4, vb4, k4, rfl, N4q, K4q, zt4, gt4, Et4, Ft4, Ct4, At4⟩ := q4
          have N4 := Fr.app N0 N4q
          have C4 := C0.trans C4q
          have O4 := hO.keep K4q all0
          show own_Go p e below _ T4 (mkF m 62 #[iv p1, iv p2, iv p3, iv p4, iv p5, iv 0, iv ca, iv cb, iv cc, .unset, .unset, .unset] [(.ref t4)])
          refine og_astore X4 hx #[iv p1, iv p2, iv p3, iv p4, iv p5, iv 0, iv ca, iv cb, iv cc, rv t4, .unset, .unset] (hb hby at_62) rfl rfl ?_
          refine og_aload X4 hx (hb hby at_64) rfl rfl ?_
          refine own_callS X4 hx hZ4 hown4 (own_hw hw 34 rfl) (own_hw hw 35 rfl) (own_hw hw 36 rfl) (own_hw hw 37 rfl) (by decide) (argsL := [(.ref t4)]) (rest := []) (own_wz l Z a0 hw t4 vb4 _ _ T4.heap n0 Et4 Ft4 At4) rfl (by rw [hml]; rfl) (lenOf own_pd11897 rfl) rfl (hb hby at_66) (W := 0) (Nat.le_of_eq rfl) (by decide) ?_
          intro v5 T5 L5 X5 q5
          obtain ⟨rfl, N5q, e5⟩ := q5
          have N5 := Fr.app N4 N5q
          show own_Go p e below _ T5 (mkF m 69 #[iv p1, iv p2, iv p3, iv p4, iv p5, iv 0, iv ca, iv cb, iv cc, rv t4, .unset, .unset] [(.ref t4)])
          refine og_astore X5 hx #[iv p1, iv p2, iv p3, iv p4, iv p5, iv 0, iv ca, iv cb, iv cc, rv t4, rv t4, .unset] (hb hby at_69) rfl rfl ?_
          refine og_iload X5 hx (hb hby at_71) rfl ?_
          refine og_ifY X5 hx 101 (hb hby at_73) (flt (by decide)).2.2.2 (by decide) (by decide) ?_
          refine og_iload X5 hx (hb hby at_101) rfl ?_
          refine og_iload X5 hx (hb hby at_103) rfl ?_
          refine og_iload X5 hx (hb hby at_105) rfl ?_
          refine og_iload X5 hx (hb hby at_107) rfl ?_
          refine own_callSH X5 hx hZ4 hown4 (own_hw hw 0 rfl) (own_hw hw 1 rfl) (own_hw hw 2 rfl) (own_hw hw 3 rfl) (by decide) (argsL := [(.int 0), (.int ca), (.int cb), (.int cc)]) (rest := []) (own_mk0 l Z a0 hw ca cb cc T4.heap n0 O4) (own_EW hw) C4.1 hS4 (Nat.le_refl _) e5 (by rw [hml]; rfl) (lenOf own_pd47132 rfl) rfl (hb hby at_109) (W := 0) (Nat.le_of_eq rfl) (by decide) ?_
          intro v6 T6 L6 X6 hS6 hZ6 hown6 C6q q6
          obtain ⟨t6, vb6, k6, rfl, N6q, K6q, zt6, gt6, Et6, Ft6, Ct6, At6⟩ := q6
          have N6 := Fr.app N5 N6q
          have ne_t4_t6 : t4 ≠ t6 := Nat.ne_of_lt (Nat.lt_of_lt_of_le Et4.lt zt6)
          have ne_vb4_t6 : vb4 ≠ t6 := Nat.ne_of_lt (Nat.lt_of_lt_of_le At4.lt zt6)
          have C6 := C4.trans C6q
          have E_t4_6 := Et4.keep K6q
          have F_t4_value_6 := Ft4.keep K6q nin0
          have F_t4_coder_6 := Ct4.keep K6q nin0
          have A_vb4_6 := At4.keep K6q nin0
          have O6 := O4.keep K6q all0
          show own_Go p e below _ T6 (mkF m 112 #[iv p1, iv p2, iv p3, iv p4, iv p5, iv 0, iv ca, iv cb, iv cc, rv t4, rv t4, .unset] [(.ref t6)])
          refine og_astore X6 hx #[iv p1, iv p2, iv p3, iv p4, iv p5, iv 0, iv ca, iv cb, iv cc, rv t4, rv t4, rv t6] (hb hby at_112) rfl rfl ?_
          refine og_aload X6 hx (hb hby at_114) rfl rfl ?_
          refine og_aload X6 hx (hb hby at_116) rfl rfl ?_
          refine own_callV X6 hx hZ6 hown6 (own_hw hw 67 rfl) (own_hw hw 68 rfl) (notFace_of_selects (args := #[]) (mvT hZ6 (own_hw hw 70 rfl))) (own_hw hw 70 rfl) (own_hw hw 69 rfl) (own_hw hw 71 rfl) (own_hw hw 6 rfl) (by decide) (b := t4) (argsL := [(.ref t6)]) (rest := []) (own_seq l Z a0 hw z sf t4 vb4 t6 vb6 _ _ _ _ 0 (0 : Int32) [] T6.heap n0 O6 hG ne_t4_t6 (Or.inl ⟨rfl, rfl⟩) E_t4_6 F_t4_value_6 F_t4_coder_6 A_vb4_6 Et6 Ft6 Ct6 At6) rfl E_t4_6 (by rw [hml]; rfl) (lenOf own_pd97300 rfl) rfl (hb hby at_118) (W := 0) (Nat.le_of_eq rfl) (by decide) ?_
          intro v7 T7 L7 X7 q7
          obtain ⟨rfl, N7q, e7⟩ := q7
          have N7 := Fr.app N6 N7q
          show own_Go p e below _ T7 (mkF m 121 #[iv p1, iv p2, iv p3, iv p4, iv p5, iv 0, iv ca, iv cb, iv cc, rv t4, rv t4, rv t6] [(.int 1)])
          refine og_ifN X7 hx (hb hby at_121) (feq (by decide)).1 ?_
          refine og_aload X7 hx (hb hby at_124) rfl rfl ?_
          refine og_iload X7 hx (hb hby at_126) rfl ?_
          refine og_iload X7 hx (hb hby at_128) rfl ?_
          refine og_iload X7 hx (hb hby at_130) rfl ?_
          refine og_iload X7 hx (hb hby at_132) rfl ?_
          refine own_callSH X7 hx hZ6 hown6 (own_hw hw 0 rfl) (own_hw hw 1 rfl) (own_hw hw 2 rfl) (own_hw hw 3 rfl) (by decide) (argsL := [(.int 0), (.int ca), (.int cb), (.int cc)]) (rest := [(.ref t4)]) (own_mk0 l Z a0 hw ca cb cc T6.heap n0 O6) (own_EW hw) C6.1 hS6 (Nat.le_refl _) e7 (by rw [hml]; rfl) (lenOf own_pd47132 rfl) rfl (hb hby at_134) (W := 1) (Nat.le_of_eq rfl) (by decide) ?_
          intro v8 T8 L8 X8 hS8 hZ8 hown8 C8q q8
          obtain ⟨t8, vb8, k8, rfl, N8q, K8q, zt8, gt8, Et8, Ft8, Ct8, At8⟩ := q8
          have N8 := Fr.app N7 N8q
          have ne_t4_t8 : t4 ≠ t8 := Nat.ne_of_lt (Nat.lt_of_lt_of_le E_t4_6.lt zt8)
          have ne_t6_t8 : t6 ≠ t8 := Nat.ne_of_lt (Nat.lt_of_lt_of_le Et6.lt zt8)
          have ne_vb4_t8 : vb4 ≠ t8 := Nat.ne_of_lt (Nat.lt_of_lt_of_le A_vb4_6.lt zt8)
          have ne_vb6_t8 : vb6 ≠ t8 := Nat.ne_of_lt (Nat.lt_of_lt_of_le At6.lt zt8)
          have C8 := C6.trans C8q
          have E_t4_8 := E_t4_6.keep K8q
          have F_t4_value_8 := F_t4_value_6.keep K8q nin0
          have F_t4_coder_8 := F_t4_coder_6.keep K8q nin0
          have A_vb4_8 := A_vb4_6.keep K8q nin0
          have E_t6_8 := Et6.keep K8q
          have F_t6_value_8 := Ft6.keep K8q nin0
          have F_t6_coder_8 := Ct6.keep K8q nin0
          have A_vb6_8 := At6.keep K8q nin0
          have O8 := O6.keep K8q all0
          show own_Go p e below _ T8 (mkF m 137 #[iv p1, iv p2, iv p3, iv p4, iv p5, iv 0, iv ca, iv cb, iv cc, rv t4, rv t4, rv t6] [(.ref t8), (.ref t4)])
          refine own_callV X8 hx hZ8 hown8 (own_hw hw 67 rfl) (own_hw hw 68 rfl) (notFace_of_selects (args := #[]) (mvT hZ8 (own_hw hw 70 rfl))) (own_hw hw 70 rfl) (own_hw hw 69 rfl) (own_hw hw 71 rfl) (own_hw hw 6 rfl) (by decide) (b := t4) (argsL := [(.ref t8)]) (rest := []) (own_seq l Z a0 hw z sf t4 vb4 t8 vb8 _ _ _ _ 0 (0 : Int32) [] T8.heap n0 O8 hG ne_t4_t8 (Or.inl ⟨rfl, rfl⟩) E_t4_8 F_t4_value_8 F_t4_coder_8 A_vb4_8 Et8 Ft8 Ct8 At8) rfl E_t4_8 (by rw [hml]; rfl) (lenOf own_pd97300 rfl) rfl (hb hby at_137) (W := 0) (Nat.le_of_eq rfl) (by decide) ?_
          intro v9 T9 L9 X9 q9
          obtain ⟨rfl, N9q, e9⟩ := q9
          have N9 := Fr.app N8 N9q
          show own_Go p e below _ T9 (mkF m 140 #[iv p1, iv p2, iv p3, iv p4, iv p5, iv 0, iv ca, iv cb, iv cc, rv t4, rv t4, rv t6] [(.int 1)])
          refine og_ifN X9 hx (hb hby at_140) (feq (by decide)).1 ?_
          refine og_iconst X9 hx (hb hby at_143) ?_
          refine og_goto X9 hx 148 (hb hby at_144) (by decide) (by decide) ?_
          exact own_retIH X9 hx hret hlk (hb hby at_148) rfl (by simp) hZ8 (own_EW hw) C8 e9 hS8 (Nat.le_refl _) (by decide) (by decide) (⟨rfl, N9⟩)
        · show own_Go p e below _ T0 (mkF m 53 #[iv p1, iv p2, iv p3, iv p4, iv p5, iv 1, iv ca, iv cb, iv cc, .unset, .unset, .unset] [(.int 1)])
          refine og_iload X0 hx (hb hby at_53) rfl ?_
          show own_Go p e below _ T0 (mkF m 55 #[iv p1, iv p2, iv p3, iv p4, iv p5, iv 1, iv ca, iv cb, iv cc, .unset, .unset, .unset] [(.int ca), (.int 1)])
          by_cases hm : ca = 65279
          · have hKa : own_K1 ca 2 [(.int (own_lo ca)), (.int (own_hi ca))] 1 := Or.inr ⟨own_mk hm, rfl, rfl, rfl⟩
            show own_Go p e below _ T0 (mkF m 55 #[iv p1, iv p2, iv p3, iv p4, iv p5, iv 1, iv ca, iv cb, iv cc, .unset, .unset, .unset] [(.int ca), (.int 1)])
            refine og_iload X0 hx (hb hby at_55) rfl ?_
            refine og_iload X0 hx (hb hby at_57) rfl ?_
            refine own_callS X0 hx hZ hown (own_hw hw 0 rfl) (own_hw hw 1 rfl) (own_hw hw 2 rfl) (own_hw hw 3 rfl) (by decide) (argsL := [(.int 1), (.int ca), (.int cb), (.int cc)]) (rest := []) (own_mk1 l Z a0 hw z ca cb cc 2 (1 : Int32) [(.int (own_lo ca)), (.int (own_hi ca))] h0 n0 hO hU SC hz hca hKa) e0 (by rw [hml]; rfl) (lenOf own_pd47132 rfl) rfl (hb hby at_59) (W := 0) (Nat.le_of_eq rfl) (by decide) ?_
            intro v10 T10 L10 X10 q10
            obtain ⟨t10, vb10, k10, rfl, N10q, K10q, zt10, gt10, Et10, Ft10, Ct10, At10⟩ := q10
            have N10 := Fr.app N0 N10q
            have hk10 := Nat.le_trans hk K10q.1
            have hs10 : ∀ x ∈ ([] : List Addr), Safe Z own_EL s.vm h0 x := sf0
            have C10 := C0.trans (CHr.keep K10q hs10 C0.1)
            have O10 := hO.keep K10q all0
            show own_Go p e below _ T10 (mkF m 62 #[iv p1, iv p2, iv p3, iv p4, iv p5, iv 1, iv ca, iv cb, iv cc, .unset, .unset, .unset] [(.ref t10)])
            refine og_astore X10 hx #[iv p1, iv p2, iv p3, iv p4, iv p5, iv 1, iv ca, iv cb, iv cc, rv t10, .unset, .unset] (hb hby at_62) rfl rfl ?_
            refine og_aload X10 hx (hb hby at_64) rfl rfl ?_
            refine own_callSH X10 hx hZ hown (own_hw hw 34 rfl) (own_hw hw 35 rfl) (own_hw hw 36 rfl) (own_hw hw 37 rfl) (by decide) (argsL := [(.ref t10)]) (rest := []) (own_wm1 l Z a0 hw z sf t10 vb10 _ _ ca T10.heap n0 O10 hG hU hca hm Et10 Ft10 Ct10 At10) (own_EW hw) C10.1 hS hk10 rfl (by rw [hml]; rfl) (lenOf own_pd11897 rfl) rfl (hb hby at_66) (W := 0) (Nat.le_of_eq rfl) (by decide) ?_
            intro v11 T11 L11 X11 hS11 hZ11 hown11 C11q q11
            obtain ⟨t11, vb11, k11, rfl, N11q, K11q, Et11, Ft11, Ct11, At11⟩ := q11
            have N11 := Fr.app N10 N11q
            have C11 := C10.trans C11q
            have E_t10_11 := Et10.keep K11q
            have F_t10_value_11 := Ft10.keep K11q nin0
            have F_t10_coder_11 := Ct10.keep K11q nin0
            have A_vb10_11 := At10.keep K11q nin0
            have O11 := O10.keep K11q all0
            show own_Go p e below _ T11 (mkF m 69 #[iv p1, iv p2, iv p3, iv p4, iv p5, iv 1, iv ca, iv cb, iv cc, rv t10, .unset, .unset] [(.ref t11)])
            refine og_astore X11 hx #[iv p1, iv p2, iv p3, iv p4, iv p5, iv 1, iv ca, iv cb, iv cc, rv t10, rv t11, .unset] (hb hby at_69) rfl rfl ?_
            refine og_iload X11 hx (hb hby at_71) rfl ?_
            refine og_ifN X11 hx (hb hby at_73) (tlt (by decide)).2.2.2 ?_
            refine og_iload X11 hx (hb hby at_76) rfl ?_
            refine og_ldcI X11 hx hZ11 hown11 (own_hw hw 66 rfl) (hb hby at_78) ?_
            show own_Go p e below _ T11 (mkF m 80 #[iv p1, iv p2, iv p3, iv p4, iv p5, iv 1, iv ca, iv cb, iv cc, rv t10, rv t11, .unset] [(.int 65279), (.int ca)])
            refine og_icN X11 hx (hb hby at_80) (teq hm).2 ?_
            refine og_iload X11 hx (hb hby at_83) rfl ?_
            refine og_iconst X11 hx (hb hby at_85) ?_
            refine og_isub X11 hx (hb hby at_86) ?_
            refine og_iload X11 hx (hb hby at_87) rfl ?_
            refine og_iload X11 hx (hb hby at_89) rfl ?_
            refine og_iload X11 hx (hb hby at_91) rfl ?_
            refine own_callSH X11 hx hZ11 hown11 (own_hw hw 0 rfl) (own_hw hw 1 rfl) (own_hw hw 2 rfl) (own_hw hw 3 rfl) (by decide) (argsL := [(.int 0), (.int cb), (.int cc), (.int cc)]) (rest := []) (own_mk0 l Z a0 hw cb cc cc T11.heap n0 O11) (own_EW hw) C11.1 hS11 (Nat.le_refl _) rfl (by rw [hml]; rfl) (lenOf own_pd47132 rfl) rfl (hb hby at_93) (W := 0) (Nat.le_of_eq rfl) (by decide) ?_
            intro v12 T12 L12 X12 hS12 hZ12 hown12 C12q q12
            obtain ⟨t12, vb12, k12, rfl, N12q, K12q, zt12, gt12, Et12, Ft12, Ct12, At12⟩ := q12
            have N12 := Fr.app N11 N12q
            have ne_t10_t12 : t10 ≠ t12 := Nat.ne_of_lt (Nat.lt_of_lt_of_le E_t10_11.lt zt12)
            have ne_t11_t12 : t11 ≠ t12 := Nat.ne_of_lt (Nat.lt_of_lt_of_le Et11.lt zt12)
            have ne_vb10_t12 : vb10 ≠ t12 := Nat.ne_of_lt (Nat.lt_of_lt_of_le A_vb10_11.lt zt12)
            have ne_vb11_t12 : vb11 ≠ t12 := Nat.ne_of_lt (Nat.lt_of_lt_of_le At11.lt zt12)
            have C12 := C11.trans C12q
            have E_t10_12 := E_t10_11.keep K12q
            have F_t10_value_12 := F_t10_value_11.keep K12q nin0
            have F_t10_coder_12 := F_t10_coder_11.keep K12q nin0
            have A_vb10_12 := A_vb10_11.keep K12q nin0
            have E_t11_12 := Et11.keep K12q
            have F_t11_value_12 := Ft11.keep K12q nin0
            have F_t11_coder_12 := Ct11.keep K12q nin0
            have A_vb11_12 := At11.keep K12q nin0
            have O12 := O11.keep K12q all0
            show own_Go p e below _ T12 (mkF m 96 #[iv p1, iv p2, iv p3, iv p4, iv p5, iv 1, iv ca, iv cb, iv cc, rv t10, rv t11, .unset] [(.ref t12)])
            refine og_astore X12 hx #[iv p1, iv p2, iv p3, iv p4, iv p5, iv 1, iv ca, iv cb, iv cc, rv t10, rv t11, rv t12] (hb hby at_96) rfl rfl ?_
            refine og_goto X12 hx 114 (hb hby at_98) (by decide) (by decide) ?_
            refine og_aload X12 hx (hb hby at_114) rfl rfl ?_
            refine og_aload X12 hx (hb hby at_116) rfl rfl ?_
            refine own_callV X12 hx hZ12 hown12 (own_hw hw 67 rfl) (own_hw hw 68 rfl) (notFace_of_selects (args := #[]) (mvT hZ12 (own_hw hw 70 rfl))) (own_hw hw 70 rfl) (own_hw hw 69 rfl) (own_hw hw 71 rfl) (own_hw hw 6 rfl) (by decide) (b := t11) (argsL := [(.ref t12)]) (rest := []) (own_seq l Z a0 hw z sf t11 vb11 t12 vb12 _ _ _ _ 0 (0 : Int32) [] T12.heap n0 O12 hG ne_t11_t12 (Or.inl ⟨rfl, rfl⟩) E_t11_12 F_t11_value_12 F_t11_coder_12 A_vb11_12 Et12 Ft12 Ct12 At12) rfl E_t11_12 (by rw [hml]; rfl) (lenOf own_pd97300 rfl) rfl (hb hby at_118) (W := 0) (Nat.le_of_eq rfl) (by decide) ?_
            intro v13 T13 L13 X13 q13
            obtain ⟨rfl, N13q, e13⟩ := q13
            have N13 := Fr.app N12 N13q
            show own_Go p e below _ T13 (mkF m 121 #[iv p1, iv p2, iv p3, iv p4, iv p5, iv 1, iv ca, iv cb, iv cc, rv t10, rv t11, rv t12] [(.int 1)])
            refine og_ifN X13 hx (hb hby at_121) (feq (by decide)).1 ?_
            refine og_aload X13 hx (hb hby at_124) rfl rfl ?_
            refine og_iload X13 hx (hb hby at_126) rfl ?_
            refine og_iload X13 hx (hb hby at_128) rfl ?_
            refine og_iload X13 hx (hb hby at_130) rfl ?_
            refine og_iload X13 hx (hb hby at_132) rfl ?_
            refine own_callS X13 hx hZ12 hown12 (own_hw hw 0 rfl) (own_hw hw 1 rfl) (own_hw hw 2 rfl) (own_hw hw 3 rfl) (by decide) (argsL := [(.int 1), (.int ca), (.int cb), (.int cc)]) (rest := [(.ref t10)]) (own_mk1 l Z a0 hw z ca cb cc 2 (1 : Int32) [(.int (own_lo ca)), (.int (own_hi ca))] T12.heap n0 O12 hU SC hz hca hKa) e13 (by rw [hml]; rfl) (lenOf own_pd47132 rfl) rfl (hb hby at_134) (W := 1) (Nat.le_of_eq rfl) (by decide) ?_
            intro v14 T14 L14 X14 q14
            obtain ⟨t14, vb14, k14, rfl, N14q, K14q, zt14, gt14, Et14, Ft14, Ct14, At14⟩ := q14
            have N14 := Fr.app N13 N14q
            have ne_t10_t14 : t10 ≠ t14 := Nat.ne_of_lt (Nat.lt_of_lt_of_le E_t10_12.lt zt14)
            have ne_t11_t14 : t11 ≠ t14 := Nat.ne_of_lt (Nat.lt_of_lt_of_le E_t11_12.lt zt14)
            have ne_t12_t14 : t12 ≠ t14 := Nat.ne_of_lt (Nat.lt_of_lt_of_le Et12.lt zt14)
            have ne_vb10_t14 : vb10 ≠ t14 := Nat.ne_of_lt (Nat.lt_of_lt_of_le A_vb10_12.lt zt14)
            have ne_vb11_t14 : vb11 ≠ t14 := Nat.ne_of_lt (Nat.lt_of_lt_of_le A_vb11_12.lt zt14)
            have ne_vb12_t14 : vb12 ≠ t14 := Nat.ne_of_lt (Nat.lt_of_lt_of_le At12.lt zt14)
            have hk14 := Nat.le_trans (Nat.le_refl _) K14q.1
            have hs14 : ∀ x ∈ ([] : List Addr), Safe Z own_EL T12.vm T12.heap x := sf0
            have C14 := C12.trans (CHr.keep K14q hs14 C12.1)
            have E_t10_14 := E_t10_12.keep K14q
            have F_t10_value_14 := F_t10_value_12.keep K14q nin0
            have F_t10_coder_14 := F_t10_coder_12.keep K14q nin0
            have A_vb10_14 := A_vb10_12.keep K14q nin0
            have E_t11_14 := E_t11_12.keep K14q
            have F_t11_value_14 := F_t11_value_12.keep K14q nin0
            have F_t11_coder_14 := F_t11_coder_12.keep K14q nin0
            have A_vb11_14 := A_vb11_12.keep K14q nin0
            have E_t12_14 := Et12.keep K14q
            have F_t12_value_14 := Ft12.keep K14q nin0
            have F_t12_coder_14 := Ct12.keep K14q nin0
            have A_vb12_14 := At12.keep K14q nin0
            have O14 := O12.keep K14q all0
            show own_Go p e below _ T14 (mkF m 137 #[iv p1, iv p2, iv p3, iv p4, iv p5, iv 1, iv ca, iv cb, iv cc, rv t10, rv t11, rv t12] [(.ref t14), (.ref t10)])
            refine own_callV X14 hx hZ12 hown12 (own_hw hw 67 rfl) (own_hw hw 68 rfl) (notFace_of_selects (args := #[]) (mvT hZ12 (own_hw hw 70 rfl))) (own_hw hw 70 rfl) (own_hw hw 69 rfl) (own_hw hw 71 rfl) (own_hw hw 6 rfl) (by decide) (b := t10) (argsL := [(.ref t14)]) (rest := []) (own_seq l Z a0 hw z sf t10 vb10 t14 vb14 _ _ _ _ 2 (1 : Int32) [(.int (own_lo ca)), (.int (own_hi ca))] T14.heap n0 O14 hG ne_t10_t14 (own_kl1 hKa) E_t10_14 F_t10_value_14 F_t10_coder_14 A_vb10_14 Et14 Ft14 Ct14 At14) rfl E_t10_14 (by rw [hml]; rfl) (lenOf own_pd97300 rfl) rfl (hb hby at_137) (W := 0) (Nat.le_of_eq rfl) (by decide) ?_
            intro v15 T15 L15 X15 q15
            obtain ⟨rfl, N15q, e15⟩ := q15
            have N15 := Fr.app N14 N15q
            show own_Go p e below _ T15 (mkF m 140 #[iv p1, iv p2, iv p3, iv p4, iv p5, iv 1, iv ca, iv cb, iv cc, rv t10, rv t11, rv t12] [(.int 1)])
            refine og_ifN X15 hx (hb hby at_140) (feq (by decide)).1 ?_
            refine og_iconst X15 hx (hb hby at_143) ?_
            refine og_goto X15 hx 148 (hb hby at_144) (by decide) (by decide) ?_
            exact own_retIH X15 hx hret hlk (hb hby at_148) rfl (by simp) hZ12 (own_EW hw) C14 e15 hS12 hk14 (by decide) (by decide) (⟨rfl, N15⟩)
          · obtain ⟨Na, va, da, hKa⟩ := own_kx1 ca
            show own_Go p e below _ T0 (mkF m 55 #[iv p1, iv p2, iv p3, iv p4, iv p5, iv 1, iv ca, iv cb, iv cc, .unset, .unset, .unset] [(.int ca), (.int 1)])
            refine og_iload X0 hx (hb hby at_55) rfl ?_
            refine og_iload X0 hx (hb hby at_57) rfl ?_
            refine own_callS X0 hx hZ hown (own_hw hw 0 rfl) (own_hw hw 1 rfl) (own_hw hw 2 rfl) (own_hw hw 3 rfl) (by decide) (argsL := [(.int 1), (.int ca), (.int cb), (.int cc)]) (rest := []) (own_mk1 l Z a0 hw z ca cb cc Na da va h0 n0 hO hU SC hz hca hKa) e0 (by rw [hml]; rfl) (lenOf own_pd47132 rfl) rfl (hb hby at_59) (W := 0) (Nat.le_of_eq rfl) (by decide) ?_
            intro v16 T16 L16 X16 q16
            obtain ⟨t16, vb16, k16, rfl, N16q, K16q, zt16, gt16, Et16, Ft16, Ct16, At16⟩ := q16
            have N16 := Fr.app N0 N16q
            have hk16 := Nat.le_trans hk K16q.1
            have hs16 : ∀ x ∈ ([] : List Addr), Safe Z own_EL s.vm h0 x := sf0
            have C16 := C0.trans (CHr.keep K16q hs16 C0.1)
            have O16 := hO.keep K16q all0
            show own_Go p e below _ T16 (mkF m 62 #[iv p1, iv p2, iv p3, iv p4, iv p5, iv 1, iv ca, iv cb, iv cc, .unset, .unset, .unset] [(.ref t16)])
            refine og_astore X16 hx #[iv p1, iv p2, iv p3, iv p4, iv p5, iv 1, iv ca, iv cb, iv cc, rv t16, .unset, .unset] (hb hby at_62) rfl rfl ?_
            refine og_aload X16 hx (hb hby at_64) rfl rfl ?_
            refine own_callS X16 hx hZ hown (own_hw hw 34 rfl) (own_hw hw 35 rfl) (own_hw hw 36 rfl) (own_hw hw 37 rfl) (by decide) (argsL := [(.ref t16)]) (rest := []) (own_wn1 l Z a0 hw z sf t16 vb16 _ _ ca Na da va T16.heap n0 O16 hG hU hca hm hKa Et16 Ft16 Ct16 At16) rfl (by rw [hml]; rfl) (lenOf own_pd11897 rfl) rfl (hb hby at_66) (W := 0) (Nat.le_of_eq rfl) (by decide) ?_
            intro v17 T17 L17 X17 q17
            obtain ⟨rfl, N17q, e17⟩ := q17
            have N17 := Fr.app N16 N17q
            show own_Go p e below _ T17 (mkF m 69 #[iv p1, iv p2, iv p3, iv p4, iv p5, iv 1, iv ca, iv cb, iv cc, rv t16, .unset, .unset] [(.ref t16)])
            refine og_astore X17 hx #[iv p1, iv p2, iv p3, iv p4, iv p5, iv 1, iv ca, iv cb, iv cc, rv t16, rv t16, .unset] (hb hby at_69) rfl rfl ?_
            refine og_iload X17 hx (hb hby at_71) rfl ?_
            refine og_ifN X17 hx (hb hby at_73) (tlt (by decide)).2.2.2 ?_
            refine og_iload X17 hx (hb hby at_76) rfl ?_
            refine og_ldcI X17 hx hZ hown (own_hw hw 66 rfl) (hb hby at_78) ?_
            show own_Go p e below _ T17 (mkF m 80 #[iv p1, iv p2, iv p3, iv p4, iv p5, iv 1, iv ca, iv cb, iv cc, rv t16, rv t16, .unset] [(.int 65279), (.int ca)])
            refine og_icY X17 hx 101 (hb hby at_80) (feq hm).2 (by decide) (by decide) ?_
            refine og_iload X17 hx (hb hby at_101) rfl ?_
            refine og_iload X17 hx (hb hby at_103) rfl ?_
            refine og_iload X17 hx (hb hby at_105) rfl ?_
            refine og_iload X17 hx (hb hby at_107) rfl ?_
            refine own_callS X17 hx hZ hown (own_hw hw 0 rfl) (own_hw hw 1 rfl) (own_hw hw 2 rfl) (own_hw hw 3 rfl) (by decide) (argsL := [(.int 1), (.int ca), (.int cb), (.int cc)]) (rest := []) (own_mk1 l Z a0 hw z ca cb cc Na da va T16.heap n0 O16 hU SC hz hca hKa) e17 (by rw [hml]; rfl) (lenOf own_pd47132 rfl) rfl (hb hby at_109) (W := 0) (Nat.le_of_eq rfl) (by decide) ?_
            intro v18 T18 L18 X18 q18
            obtain ⟨t18, vb18, k18, rfl, N18q, K18q, zt18, gt18, Et18, Ft18, Ct18, At18⟩ := q18
            have N18 := Fr.app N17 N18q
            have ne_t16_t18 : t16 ≠ t18 := Nat.ne_of_lt (Nat.lt_of_lt_of_le Et16.lt zt18)
            have ne_vb16_t18 : vb16 ≠ t18 := Nat.ne_of_lt (Nat.lt_of_lt_of_le At16.lt zt18)
            have hk18 := Nat.le_trans hk16 K18q.1
            have hs18 : ∀ x ∈ ([] : List Addr), Safe Z own_EL s.vm T16.heap x := sf0
            have C18 := C16.trans (CHr.keep K18q hs18 C16.1)
            have E_t16_18 := Et16.keep K18q
            have F_t16_value_18 := Ft16.keep K18q nin0
            have F_t16_coder_18 := Ct16.keep K18q nin0
            have A_vb16_18 := At16.keep K18q nin0
            have O18 := O16.keep K18q all0
            show own_Go p e below _ T18 (mkF m 112 #[iv p1, iv p2, iv p3, iv p4, iv p5, iv 1, iv ca, iv cb, iv cc, rv t16, rv t16, .unset] [(.ref t18)])
            refine og_astore X18 hx #[iv p1, iv p2, iv p3, iv p4, iv p5, iv 1, iv ca, iv cb, iv cc, rv t16, rv t16, rv t18] (hb hby at_112) rfl rfl ?_
            refine og_aload X18 hx (hb hby at_114) rfl rfl ?_
            refine og_aload X18 hx (hb hby at_116) rfl rfl ?_
            refine own_callV X18 hx hZ hown (own_hw hw 67 rfl) (own_hw hw 68 rfl) (notFace_of_selects (args := #[]) (mvT hZ (own_hw hw 70 rfl))) (own_hw hw 70 rfl) (own_hw hw 69 rfl) (own_hw hw 71 rfl) (own_hw hw 6 rfl) (by decide) (b := t16) (argsL := [(.ref t18)]) (rest := []) (own_seq l Z a0 hw z sf t16 vb16 t18 vb18 _ _ _ _ Na da va T18.heap n0 O18 hG ne_t16_t18 (own_kl1 hKa) E_t16_18 F_t16_value_18 F_t16_coder_18 A_vb16_18 Et18 Ft18 Ct18 At18) rfl E_t16_18 (by rw [hml]; rfl) (lenOf own_pd97300 rfl) rfl (hb hby at_118) (W := 0) (Nat.le_of_eq rfl) (by decide) ?_
            intro v19 T19 L19 X19 q19
            obtain ⟨rfl, N19q, e19⟩ := q19
            have N19 := Fr.app N18 N19q
            show own_Go p e below _ T19 (mkF m 121 #[iv p1, iv p2, iv p3, iv p4, iv p5, iv 1, iv ca, iv cb, iv cc, rv t16, rv t16, rv t18] [(.int 1)])
            refine og_ifN X19 hx (hb hby at_121) (feq (by decide)).1 ?_
            refine og_aload X19 hx (hb hby at_124) rfl rfl ?_
            refine og_iload X19 hx (hb hby at_126) rfl ?_
            refine og_iload X19 hx (hb hby at_128) rfl ?_
            refine og_iload X19 hx (hb hby at_130) rfl ?_
            refine og_iload X19 hx (hb hby at_132) rfl ?_
            refine own_callS X19 hx hZ hown (own_hw hw 0 rfl) (own_hw hw 1 rfl) (own_hw hw 2 rfl) (own_hw hw 3 rfl) (by decide) (argsL := [(.int 1), (.int ca), (.int cb), (.int cc)]) (rest := [(.ref t16)]) (own_mk1 l Z a0 hw z ca cb cc Na da va T18.heap n0 O18 hU SC hz hca hKa) e19 (by rw [hml]; rfl) (lenOf own_pd47132 rfl) rfl (hb hby at_134) (W := 1) (Nat.le_of_eq rfl) (by decide) ?_
            intro v20 T20 L20 X20 q20
            obtain ⟨t20, vb20, k20, rfl, N20q, K20q, zt20, gt20, Et20, Ft20, Ct20, At20⟩ := q20
            have N20 := Fr.app N19 N20q
            have ne_t16_t20 : t16 ≠ t20 := Nat.ne_of_lt (Nat.lt_of_lt_of_le E_t16_18.lt zt20)
            have ne_t18_t20 : t18 ≠ t20 := Nat.ne_of_lt (Nat.lt_of_lt_of_le Et18.lt zt20)
            have ne_vb16_t20 : vb16 ≠ t20 := Nat.ne_of_lt (Nat.lt_of_lt_of_le A_vb16_18.lt zt20)
            have ne_vb18_t20 : vb18 ≠ t20 := Nat.ne_of_lt (Nat.lt_of_lt_of_le At18.lt zt20)
            have hk20 := Nat.le_trans hk18 K20q.1
            have hs20 : ∀ x ∈ ([] : List Addr), Safe Z own_EL s.vm T18.heap x := sf0
            have C20 := C18.trans (CHr.keep K20q hs20 C18.1)
            have E_t16_20 := E_t16_18.keep K20q
            have F_t16_value_20 := F_t16_value_18.keep K20q nin0
            have F_t16_coder_20 := F_t16_coder_18.keep K20q nin0
            have A_vb16_20 := A_vb16_18.keep K20q nin0
            have E_t18_20 := Et18.keep K20q
            have F_t18_value_20 := Ft18.keep K20q nin0
            have F_t18_coder_20 := Ct18.keep K20q nin0
            have A_vb18_20 := At18.keep K20q nin0
            have O20 := O18.keep K20q all0
            show own_Go p e below _ T20 (mkF m 137 #[iv p1, iv p2, iv p3, iv p4, iv p5, iv 1, iv ca, iv cb, iv cc, rv t16, rv t16, rv t18] [(.ref t20), (.ref t16)])
            refine own_callV X20 hx hZ hown (own_hw hw 67 rfl) (own_hw hw 68 rfl) (notFace_of_selects (args := #[]) (mvT hZ (own_hw hw 70 rfl))) (own_hw hw 70 rfl) (own_hw hw 69 rfl) (own_hw hw 71 rfl) (own_hw hw 6 rfl) (by decide) (b := t16) (argsL := [(.ref t20)]) (rest := []) (own_seq l Z a0 hw z sf t16 vb16 t20 vb20 _ _ _ _ Na da va T20.heap n0 O20 hG ne_t16_t20 (own_kl1 hKa) E_t16_20 F_t16_value_20 F_t16_coder_20 A_vb16_20 Et20 Ft20 Ct20 At20) rfl E_t16_20 (by rw [hml]; rfl) (lenOf own_pd97300 rfl) rfl (hb hby at_137) (W := 0) (Nat.le_of_eq rfl) (by decide) ?_
            intro v21 T21 L21 X21 q21
            obtain ⟨rfl, N21q, e21⟩ := q21
            have N21 := Fr.app N20 N21q
            show own_Go p e below _ T21 (mkF m 140 #[iv p1, iv p2, iv p3, iv p4, iv p5, iv 1, iv ca, iv cb, iv cc, rv t16, rv t16, rv t18] [(.int 1)])
            refine og_ifN X21 hx (hb hby at_140) (feq (by decide)).1 ?_
            refine og_iconst X21 hx (hb hby at_143) ?_
            refine og_goto X21 hx 148 (hb hby at_144) (by decide) (by decide) ?_
            exact own_retIH X21 hx hret hlk (hb hby at_148) rfl (by simp) hZ (own_EW hw) C20 e21 hS hk20 (by decide) (by decide) (⟨rfl, N21⟩)
        · show own_Go p e below _ T0 (mkF m 53 #[iv p1, iv p2, iv p3, iv p4, iv p5, iv 2, iv ca, iv cb, iv cc, .unset, .unset, .unset] [(.int 2)])
          refine og_iload X0 hx (hb hby at_53) rfl ?_
          show own_Go p e below _ T0 (mkF m 55 #[iv p1, iv p2, iv p3, iv p4, iv p5, iv 2, iv ca, iv cb, iv cc, .unset, .unset, .unset] [(.int ca), (.int 2)])
          by_cases hm : ca = 65279
          · have hKa : own_K2 ca cb 4 [(.int (own_lo ca)), (.int (own_hi ca)), (.int (own_lo cb)), (.int (own_hi cb))] 1 := Or.inr ⟨Or.inl (own_mk hm), rfl, rfl, rfl⟩
            obtain ⟨Nb, vb, db, hKb⟩ := own_kx1 cb
            show own_Go p e below _ T0 (mkF m 55 #[iv p1, iv p2, iv p3, iv p4, iv p5, iv 2, iv ca, iv cb, iv cc, .unset, .unset, .unset] [(.int ca), (.int 2)])
            refine og_iload X0 hx (hb hby at_55) rfl ?_
            refine og_iload X0 hx (hb hby at_57) rfl ?_
            refine own_callS X0 hx hZ hown (own_hw hw 0 rfl) (own_hw hw 1 rfl) (own_hw hw 2 rfl) (own_hw hw 3 rfl) (by decide) (argsL := [(.int 2), (.int ca), (.int cb), (.int cc)]) (rest := []) (own_mk2 l Z a0 hw z ca cb cc 4 (1 : Int32) [(.int (own_lo ca)), (.int (own_hi ca)), (.int (own_lo cb)), (.int (own_hi cb))] h0 n0 hO hU SC hz hca hcb hKa) e0 (by rw [hml]; rfl) (lenOf own_pd47132 rfl) rfl (hb hby at_59) (W := 0) (Nat.le_of_eq rfl) (by decide) ?_
            intro v22 T22 L22 X22 q22
            obtain ⟨t22, vb22, k22, rfl, N22q, K22q, zt22, gt22, Et22, Ft22, Ct22, At22⟩ := q22
            have N22 := Fr.app N0 N22q
            have hk22 := Nat.le_trans hk K22q.1
            have hs22 : ∀ x ∈ ([] : List Addr), Safe Z own_EL s.vm h0 x := sf0
            have C22 := C0.trans (CHr.keep K22q hs22 C0.1)
            have O22 := hO.keep K22q all0
            show own_Go p e below _ T22 (mkF m 62 #[iv p1, iv p2, iv p3, iv p4, iv p5, iv 2, iv ca, iv cb, iv cc, .unset, .unset, .unset] [(.ref t22)])
            refine og_astore X22 hx #[iv p1, iv p2, iv p3, iv p4, iv p5, iv 2, iv ca, iv cb, iv cc, rv t22, .unset, .unset] (hb hby at_62) rfl rfl ?_
            refine og_aload X22 hx (hb hby at_64) rfl rfl ?_
            refine own_callS X22 hx hZ hown (own_hw hw 34 rfl) (own_hw hw 35 rfl) (own_hw hw 36 rfl) (own_hw hw 37 rfl) (by decide) (argsL := [(.ref t22)]) (rest := []) (own_wm2 l Z a0 hw z sf t22 vb22 _ _ ca cb Nb db vb T22.heap n0 O22 hG hU hcb hKb hca hm Et22 Ft22 Ct22 At22) rfl (by rw [hml]; rfl) (lenOf own_pd11897 rfl) rfl (hb hby at_66) (W := 0) (Nat.le_of_eq rfl) (by decide) ?_
            intro v23 T23 L23 X23 q23
            obtain ⟨t23, vb23, k23, rfl, N23q, K23q, zt23, gt23, Et23, Ft23, Ct23, At23⟩ := q23
            have N23 := Fr.app N22 N23q
            have ne_t22_t23 : t22 ≠ t23 := Nat.ne_of_lt (Nat.lt_of_lt_of_le Et22.lt zt23)
            have ne_vb22_t23 : vb22 ≠ t23 := Nat.ne_of_lt (Nat.lt_of_lt_of_le At22.lt zt23)
            have hk23 := Nat.le_trans hk22 K23q.1
            have hs23 : ∀ x ∈ ([] : List Addr), Safe Z own_EL s.vm T22.heap x := sf0
            have C23 := C22.trans (CHr.keep K23q hs23 C22.1)
            have E_t22_23 := Et22.keep K23q
            have F_t22_value_23 := Ft22.keep K23q nin0
            have F_t22_coder_23 := Ct22.keep K23q nin0
            have A_vb22_23 := At22.keep K23q nin0
            have O23 := O22.keep K23q all0
            show own_Go p e below _ T23 (mkF m 69 #[iv p1, iv p2, iv p3, iv p4, iv p5, iv 2, iv ca, iv cb, iv cc, rv t22, .unset, .unset] [(.ref t23)])
            refine og_astore X23 hx #[iv p1, iv p2, iv p3, iv p4, iv p5, iv 2, iv ca, iv cb, iv cc, rv t22, rv t23, .unset] (hb hby at_69) rfl rfl ?_
            refine og_iload X23 hx (hb hby at_71) rfl ?_
            refine og_ifN X23 hx (hb hby at_73) (tlt (by decide)).2.2.2 ?_
            refine og_iload X23 hx (hb hby at_76) rfl ?_
            refine og_ldcI X23 hx hZ hown (own_hw hw 66 rfl) (hb hby at_78) ?_
            show own_Go p e below _ T23 (mkF m 80 #[iv p1, iv p2, iv p3, iv p4, iv p5, iv 2, iv ca, iv cb, iv cc, rv t22, rv t23, .unset] [(.int 65279), (.int ca)])
            refine og_icN X23 hx (hb hby at_80) (teq hm).2 ?_
            refine og_iload X23 hx (hb hby at_83) rfl ?_
            refine og_iconst X23 hx (hb hby at_85) ?_
            refine og_isub X23 hx (hb hby at_86) ?_
            refine og_iload X23 hx (hb hby at_87) rfl ?_
            refine og_iload X23 hx (hb hby at_89) rfl ?_
            refine og_iload X23 hx (hb hby at_91) rfl ?_
            refine own_callS X23 hx hZ hown (own_hw hw 0 rfl) (own_hw hw 1 rfl) (own_hw hw 2 rfl) (own_hw hw 3 rfl) (by decide) (argsL := [(.int 1), (.int cb), (.int cc), (.int cc)]) (rest := []) (own_mk1 l Z a0 hw z cb cc cc Nb db vb T23.heap n0 O23 hU SC hz hcb hKb) rfl (by rw [hml]; rfl) (lenOf own_pd47132 rfl) rfl (hb hby at_93) (W := 0) (Nat.le_of_eq rfl) (by decide) ?_
            intro v24 T24 L24 X24 q24
            obtain ⟨t24, vb24, k24, rfl, N24q, K24q, zt24, gt24, Et24, Ft24, Ct24, At24⟩ := q24
            have N24 := Fr.app N23 N24q
            have ne_t22_t24 : t22 ≠ t24 := Nat.ne_of_lt (Nat.lt_of_lt_of_le E_t22_23.lt zt24)
            have ne_t23_t24 : t23 ≠ t24 := Nat.ne_of_lt (Nat.lt_of_lt_of_le Et23.lt zt24)
            have ne_vb22_t24 : vb22 ≠ t24 := Nat.ne_of_lt (Nat.lt_of_lt_of_le A_vb22_23.lt zt24)
            have ne_vb23_t24 : vb23 ≠ t24 := Nat.ne_of_lt (Nat.lt_of_lt_of_le At23.lt zt24)
            have hk24 := Nat.le_trans hk23 K24q.1
            have hs24 : ∀ x ∈ ([] : List Addr), Safe Z own_EL s.vm T23.heap x := sf0
            have C24 := C23.trans (CHr.keep K24q hs24 C23.1)
            have E_t22_24 := E_t22_23.keep K24q
            have F_t22_value_24 := F_t22_value_23.keep K24q nin0
            have F_t22_coder_24 := F_t22_coder_23.keep K24q nin0
            have A_vb22_24 := A_vb22_23.keep K24q nin0
            have E_t23_24 := Et23.keep K24q
            have F_t23_value_24 := Ft23.keep K24q nin0
            have F_t23_coder_24 := Ct23.keep K24q nin0
            have A_vb23_24 := At23.keep K24q nin0
            have O24 := O23.keep K24q all0
            show own_Go p e below _ T24 (mkF m 96 #[iv p1, iv p2, iv p3, iv p4, iv p5, iv 2, iv ca, iv cb, iv cc, rv t22, rv t23, .unset] [(.ref t24)])
            refine og_astore X24 hx #[iv p1, iv p2, iv p3, iv p4, iv p5, iv 2, iv ca, iv cb, iv cc, rv t22, rv t23, rv t24] (hb hby at_96) rfl rfl ?_
            refine og_goto X24 hx 114 (hb hby at_98) (by decide) (by decide) ?_
            refine og_aload X24 hx (hb hby at_114) rfl rfl ?_
            refine og_aload X24 hx (hb hby at_116) rfl rfl ?_
            refine own_callV X24 hx hZ hown (own_hw hw 67 rfl) (own_hw hw 68 rfl) (notFace_of_selects (args := #[]) (mvT hZ (own_hw hw 70 rfl))) (own_hw hw 70 rfl) (own_hw hw 69 rfl) (own_hw hw 71 rfl) (own_hw hw 6 rfl) (by decide) (b := t23) (argsL := [(.ref t24)]) (rest := []) (own_seq l Z a0 hw z sf t23 vb23 t24 vb24 _ _ _ _ Nb db vb T24.heap n0 O24 hG ne_t23_t24 (own_kl1 hKb) E_t23_24 F_t23_value_24 F_t23_coder_24 A_vb23_24 Et24 Ft24 Ct24 At24) rfl E_t23_24 (by rw [hml]; rfl) (lenOf own_pd97300 rfl) rfl (hb hby at_118) (W := 0) (Nat.le_of_eq rfl) (by decide) ?_
            intro v25 T25 L25 X25 q25
            obtain ⟨rfl, N25q, e25⟩ := q25
            have N25 := Fr.app N24 N25q
            show own_Go p e below _ T25 (mkF m 121 #[iv p1, iv p2, iv p3, iv p4, iv p5, iv 2, iv ca, iv cb, iv cc, rv t22, rv t23, rv t24] [(.int 1)])
            refine og_ifN X25 hx (hb hby at_121) (feq (by decide)).1 ?_
            refine og_aload X25 hx (hb hby at_124) rfl rfl ?_
            refine og_iload X25 hx (hb hby at_126) rfl ?_
            refine og_iload X25 hx (hb hby at_128) rfl ?_
            refine og_iload X25 hx (hb hby at_130) rfl ?_
            refine og_iload X25 hx (hb hby at_132) rfl ?_
            refine own_callS X25 hx hZ hown (own_hw hw 0 rfl) (own_hw hw 1 rfl) (own_hw hw 2 rfl) (own_hw hw 3 rfl) (by decide) (argsL := [(.int 2), (.int ca), (.int cb), (.int cc)]) (rest := [(.ref t22)]) (own_mk2 l Z a0 hw z ca cb cc 4 (1 : Int32) [(.int (own_lo ca)), (.int (own_hi ca)), (.int (own_lo cb)), (.int (own_hi cb))] T24.heap n0 O24 hU SC hz hca hcb hKa) e25 (by rw [hml]; rfl) (lenOf own_pd47132 rfl) rfl (hb hby at_134) (W := 1) (Nat.le_of_eq rfl) (by decide) ?_
            intro v26 T26 L26 X26 q26
            obtain ⟨t26, vb26, k26, rfl, N26q, K26q, zt26, gt26, Et26, Ft26, Ct26, At26⟩ := q26
            have N26 := Fr.app N25 N26q
            have ne_t22_t26 : t22 ≠ t26 := Nat.ne_of_lt (Nat.lt_of_lt_of_le E_t22_24.lt zt26)
            have ne_t23_t26 : t23 ≠ t26 := Nat.ne_of_lt (Nat.lt_of_lt_of_le E_t23_24.lt zt26)
            have ne_t24_t26 : t24 ≠ t26 := Nat.ne_of_lt (Nat.lt_of_lt_of_le Et24.lt zt26)
            have ne_vb22_t26 : vb22 ≠ t26 := Nat.ne_of_lt (Nat.lt_of_lt_of_le A_vb22_24.lt zt26)
            have ne_vb23_t26 : vb23 ≠ t26 := Nat.ne_of_lt (Nat.lt_of_lt_of_le A_vb23_24.lt zt26)
            have ne_vb24_t26 : vb24 ≠ t26 := Nat.ne_of_lt (Nat.lt_of_lt_of_le At24.lt zt26)
            have hk26 := Nat.le_trans hk24 K26q.1
            have hs26 : ∀ x ∈ ([] : List Addr), Safe Z own_EL s.vm T24.heap x := sf0
            have C26 := C24.trans (CHr.keep K26q hs26 C24.1)
            have E_t22_26 := E_t22_24.keep K26q
            have F_t22_value_26 := F_t22_value_24.keep K26q nin0
            have F_t22_coder_26 := F_t22_coder_24.keep K26q nin0
            have A_vb22_26 := A_vb22_24.keep K26q nin0
            have E_t23_26 := E_t23_24.keep K26q
            have F_t23_value_26 := F_t23_value_24.keep K26q nin0
            have F_t23_coder_26 := F_t23_coder_24.keep K26q nin0
            have A_vb23_26 := A_vb23_24.keep K26q nin0
            have E_t24_26 := Et24.keep K26q
            have F_t24_value_26 := Ft24.keep K26q nin0
            have F_t24_coder_26 := Ct24.keep K26q nin0
            have A_vb24_26 := At24.keep K26q nin0
            have O26 := O24.keep K26q all0
            show own_Go p e below _ T26 (mkF m 137 #[iv p1, iv p2, iv p3, iv p4, iv p5, iv 2, iv ca, iv cb, iv cc, rv t22, rv t23, rv t24] [(.ref t26), (.ref t22)])
            refine own_callV X26 hx hZ hown (own_hw hw 67 rfl) (own_hw hw 68 rfl) (notFace_of_selects (args := #[]) (mvT hZ (own_hw hw 70 rfl))) (own_hw hw 70 rfl) (own_hw hw 69 rfl) (own_hw hw 71 rfl) (own_hw hw 6 rfl) (by decide) (b := t22) (argsL := [(.ref t26)]) (rest := []) (own_seq l Z a0 hw z sf t22 vb22 t26 vb26 _ _ _ _ 4 (1 : Int32) [(.int (own_lo ca)), (.int (own_hi ca)), (.int (own_lo cb)), (.int (own_hi cb))] T26.heap n0 O26 hG ne_t22_t26 (own_kl2 hKa) E_t22_26 F_t22_value_26 F_t22_coder_26 A_vb22_26 Et26 Ft26 Ct26 At26) rfl E_t22_26 (by rw [hml]; rfl) (lenOf own_pd97300 rfl) rfl (hb hby at_137) (W := 0) (Nat.le_of_eq rfl) (by decide) ?_
            intro v27 T27 L27 X27 q27
            obtain ⟨rfl, N27q, e27⟩ := q27
            have N27 := Fr.app N26 N27q
            show own_Go p e below _ T27 (mkF m 140 #[iv p1, iv p2, iv p3, iv p4, iv p5, iv 2, iv ca, iv cb, iv cc, rv t22, rv t23, rv t24] [(.int 1)])
            refine og_ifN X27 hx (hb hby at_140) (feq (by decide)).1 ?_
            refine og_iconst X27 hx (hb hby at_143) ?_
            refine og_goto X27 hx 148 (hb hby at_144) (by decide) (by decide) ?_
            exact own_retIH X27 hx hret hlk (hb hby at_148) rfl (by simp) hZ (own_EW hw) C26 e27 hS hk26 (by decide) (by decide) (⟨rfl, N27⟩)
          · obtain ⟨Na, va, da, hKa⟩ := own_kx2 ca cb
            show own_Go p e below _ T0 (mkF m 55 #[iv p1, iv p2, iv p3, iv p4, iv p5, iv 2, iv ca, iv cb, iv cc, .unset, .unset, .unset] [(.int ca), (.int 2)])
            refine og_iload X0 hx (hb hby at_55) rfl ?_
            refine og_iload X0 hx (hb hby at_57) rfl ?_
            refine own_callS X0 hx hZ hown (own_hw hw 0 rfl) (own_hw hw 1 rfl) (own_hw hw 2 rfl) (own_hw hw 3 rfl) (by decide) (argsL := [(.int 2), (.int ca), (.int cb), (.int cc)]) (rest := []) (own_mk2 l Z a0 hw z ca cb cc Na da va h0 n0 hO hU SC hz hca hcb hKa) e0 (by rw [hml]; rfl) (lenOf own_pd47132 rfl) rfl (hb hby at_59) (W := 0) (Nat.le_of_eq rfl) (by decide) ?_
            intro v28 T28 L28 X28 q28
            obtain ⟨t28, vb28, k28, rfl, N28q, K28q, zt28, gt28, Et28, Ft28, Ct28, At28⟩ := q28
            have N28 := Fr.app N0 N28q
            have hk28 := Nat.le_trans hk K28q.1
            have hs28 : ∀ x ∈ ([] : List Addr), Safe Z own_EL s.vm h0 x := sf0
            have C28 := C0.trans (CHr.keep K28q hs28 C0.1)
            have O28 := hO.keep K28q all0
            show own_Go p e below _ T28 (mkF m 62 #[iv p1, iv p2, iv p3, iv p4, iv p5, iv 2, iv ca, iv cb, iv cc, .unset, .unset, .unset] [(.ref t28)])
            refine og_astore X28 hx #[iv p1, iv p2, iv p3, iv p4, iv p5, iv 2, iv ca, iv cb, iv cc, rv t28, .unset, .unset] (hb hby at_62) rfl rfl ?_
            refine og_aload X28 hx (hb hby at_64) rfl rfl ?_
            refine own_callS X28 hx hZ hown (own_hw hw 34 rfl) (own_hw hw 35 rfl) (own_hw hw 36 rfl) (own_hw hw 37 rfl) (by decide) (argsL := [(.ref t28)]) (rest := []) (own_wn2 l Z a0 hw z sf t28 vb28 _ _ ca cb Na da va T28.heap n0 O28 hG hU hca hm hKa Et28 Ft28 Ct28 At28) rfl (by rw [hml]; rfl) (lenOf own_pd11897 rfl) rfl (hb hby at_66) (W := 0) (Nat.le_of_eq rfl) (by decide) ?_
            intro v29 T29 L29 X29 q29
            obtain ⟨rfl, N29q, e29⟩ := q29
            have N29 := Fr.app N28 N29q
            show own_Go p e below _ T29 (mkF m 69 #[iv p1, iv p2, iv p3, iv p4, iv p5, iv 2, iv ca, iv cb, iv cc, rv t28, .unset, .unset] [(.ref t28)])
            refine og_astore X29 hx #[iv p1, iv p2, iv p3, iv p4, iv p5, iv 2, iv ca, iv cb, iv cc, rv t28, rv t28, .unset] (hb hby at_69) rfl rfl ?_
            refine og_iload X29 hx (hb hby at_71) rfl ?_
            refine og_ifN X29 hx (hb hby at_73) (tlt (by decide)).2.2.2 ?_
            refine og_iload X29 hx (hb hby at_76) rfl ?_
            refine og_ldcI X29 hx hZ hown (own_hw hw 66 rfl) (hb hby at_78) ?_
            show own_Go p e below _ T29 (mkF m 80 #[iv p1, iv p2, iv p3, iv p4, iv p5, iv 2, iv ca, iv cb, iv cc, rv t28, rv t28, .unset] [(.int 65279), (.int ca)])
            refine og_icY X29 hx 101 (hb hby at_80) (feq hm).2 (by decide) (by decide) ?_
            refine og_iload X29 hx (hb hby at_101) rfl ?_
            refine og_iload X29 hx (hb hby at_103) rfl ?_
            refine og_iload X29 hx (hb hby at_105) rfl ?_
            refine og_iload X29 hx (hb hby at_107) rfl ?_
            refine own_callS X29 hx hZ hown (own_hw hw 0 rfl) (own_hw hw 1 rfl) (own_hw hw 2 rfl) (own_hw hw 3 rfl) (by decide) (argsL := [(.int 2), (.int ca), (.int cb), (.int cc)]) (rest := []) (own_mk2 l Z a0 hw z ca cb cc Na da va T28.heap n0 O28 hU SC hz hca hcb hKa) e29 (by rw [hml]; rfl) (lenOf own_pd47132 rfl) rfl (hb hby at_109) (W := 0) (Nat.le_of_eq rfl) (by decide) ?_
            intro v30 T30 L30 X30 q30
            obtain ⟨t30, vb30, k30, rfl, N30q, K30q, zt30, gt30, Et30, Ft30, Ct30, At30⟩ := q30
            have N30 := Fr.app N29 N30q
            have ne_t28_t30 : t28 ≠ t30 := Nat.ne_of_lt (Nat.lt_of_lt_of_le Et28.lt zt30)
            have ne_vb28_t30 : vb28 ≠ t30 := Nat.ne_of_lt (Nat.lt_of_lt_of_le At28.lt zt30)
            have hk30 := Nat.le_trans hk28 K30q.1
            have hs30 : ∀ x ∈ ([] : List Addr), Safe Z own_EL s.vm T28.heap x := sf0
            have C30 := C28.trans (CHr.keep K30q hs30 C28.1)
            have E_t28_30 := Et28.keep K30q
            have F_t28_value_30 := Ft28.keep K30q nin0
            have F_t28_coder_30 := Ct28.keep K30q nin0
            have A_vb28_30 := At28.keep K30q nin0
            have O30 := O28.keep K30q all0
            show own_Go p e below _ T30 (mkF m 112 #[iv p1, iv p2, iv p3, iv p4, iv p5, iv 2, iv ca, iv cb, iv cc, rv t28, rv t28, .unset] [(.ref t30)])
            refine og_astore X30 hx #[iv p1, iv p2, iv p3, iv p4, iv p5, iv 2, iv ca, iv cb, iv cc, rv t28, rv t28, rv t30] (hb hby at_112) rfl rfl ?_
            refine og_aload X30 hx (hb hby at_114) rfl rfl ?_
            refine og_aload X30 hx (hb hby at_116) rfl rfl ?_
            refine own_callV X30 hx hZ hown (own_hw hw 67 rfl) (own_hw hw 68 rfl) (notFace_of_selects (args := #[]) (mvT hZ (own_hw hw 70 rfl))) (own_hw hw 70 rfl) (own_hw hw 69 rfl) (own_hw hw 71 rfl) (own_hw hw 6 rfl) (by decide) (b := t28) (argsL := [(.ref t30)]) (rest := []) (own_seq l Z a0 hw z sf t28 vb28 t30 vb30 _ _ _ _ Na da va T30.heap n0 O30 hG ne_t28_t30 (own_kl2 hKa) E_t28_30 F_t28_value_30 F_t28_coder_30 A_vb28_30 Et30 Ft30 Ct30 At30) rfl E_t28_30 (by rw [hml]; rfl) (lenOf own_pd97300 rfl) rfl (hb hby at_118) (W := 0) (Nat.le_of_eq rfl) (by decide) ?_
            intro v31 T31 L31 X31 q31
            obtain ⟨rfl, N31q, e31⟩ := q31
            have N31 := Fr.app N30 N31q
            show own_Go p e below _ T31 (mkF m 121 #[iv p1, iv p2, iv p3, iv p4, iv p5, iv 2, iv ca, iv cb, iv cc, rv t28, rv t28, rv t30] [(.int 1)])
            refine og_ifN X31 hx (hb hby at_121) (feq (by decide)).1 ?_
            refine og_aload X31 hx (hb hby at_124) rfl rfl ?_
            refine og_iload X31 hx (hb hby at_126) rfl ?_
            refine og_iload X31 hx (hb hby at_128) rfl ?_
            refine og_iload X31 hx (hb hby at_130) rfl ?_
            refine og_iload X31 hx (hb hby at_132) rfl ?_
            refine own_callS X31 hx hZ hown (own_hw hw 0 rfl) (own_hw hw 1 rfl) (own_hw hw 2 rfl) (own_hw hw 3 rfl) (by decide) (argsL := [(.int 2), (.int ca), (.int cb), (.int cc)]) (rest := [(.ref t28)]) (own_mk2 l Z a0 hw z ca cb cc Na da va T30.heap n0 O30 hU SC hz hca hcb hKa) e31 (by rw [hml]; rfl) (lenOf own_pd47132 rfl) rfl (hb hby at_134) (W := 1) (Nat.le_of_eq rfl) (by decide) ?_
            intro v32 T32 L32 X32 q32
            obtain ⟨t32, vb32, k32, rfl, N32q, K32q, zt32, gt32, Et32, Ft32, Ct32, At32⟩ := q32
            have N32 := Fr.app N31 N32q
            have ne_t28_t32 : t28 ≠ t32 := Nat.ne_of_lt (Nat.lt_of_lt_of_le E_t28_30.lt zt32)
            have ne_t30_t32 : t30 ≠ t32 := Nat.ne_of_lt (Nat.lt_of_lt_of_le Et30.lt zt32)
            have ne_vb28_t32 : vb28 ≠ t32 := Nat.ne_of_lt (Nat.lt_of_lt_of_le A_vb28_30.lt zt32)
            have ne_vb30_t32 : vb30 ≠ t32 := Nat.ne_of_lt (Nat.lt_of_lt_of_le At30.lt zt32)
            have hk32 := Nat.le_trans hk30 K32q.1
            have hs32 : ∀ x ∈ ([] : List Addr), Safe Z own_EL s.vm T30.heap x := sf0
            have C32 := C30.trans (CHr.keep K32q hs32 C30.1)
            have E_t28_32 := E_t28_30.keep K32q
            have F_t28_value_32 := F_t28_value_30.keep K32q nin0
            have F_t28_coder_32 := F_t28_coder_30.keep K32q nin0
            have A_vb28_32 := A_vb28_30.keep K32q nin0
            have E_t30_32 := Et30.keep K32q
            have F_t30_value_32 := Ft30.keep K32q nin0
            have F_t30_coder_32 := Ct30.keep K32q nin0
            have A_vb30_32 := At30.keep K32q nin0
            have O32 := O30.keep K32q all0
            show own_Go p e below _ T32 (mkF m 137 #[iv p1, iv p2, iv p3, iv p4, iv p5, iv 2, iv ca, iv cb, iv cc, rv t28, rv t28, rv t30] [(.ref t32), (.ref t28)])
            refine own_callV X32 hx hZ hown (own_hw hw 67 rfl) (own_hw hw 68 rfl) (notFace_of_selects (args := #[]) (mvT hZ (own_hw hw 70 rfl))) (own_hw hw 70 rfl) (own_hw hw 69 rfl) (own_hw hw 71 rfl) (own_hw hw 6 rfl) (by decide) (b := t28) (argsL := [(.ref t32)]) (rest := []) (own_seq l Z a0 hw z sf t28 vb28 t32 vb32 _ _ _ _ Na da va T32.heap n0 O32 hG ne_t28_t32 (own_kl2 hKa) E_t28_32 F_t28_value_32 F_t28_coder_32 A_vb28_32 Et32 Ft32 Ct32 At32) rfl E_t28_32 (by rw [hml]; rfl) (lenOf own_pd97300 rfl) rfl (hb hby at_137) (W := 0) (Nat.le_of_eq rfl) (by decide) ?_
            intro v33 T33 L33 X33 q33
            obtain ⟨rfl, N33q, e33⟩ := q33
            have N33 := Fr.app N32 N33q
            show own_Go p e below _ T33 (mkF m 140 #[iv p1, iv p2, iv p3, iv p4, iv p5, iv 2, iv ca, iv cb, iv cc, rv t28, rv t28, rv t30] [(.int 1)])
            refine og_ifN X33 hx (hb hby at_140) (feq (by decide)).1 ?_
            refine og_iconst X33 hx (hb hby at_143) ?_
            refine og_goto X33 hx 148 (hb hby at_144) (by decide) (by decide) ?_
            exact own_retIH X33 hx hret hlk (hb hby at_148) rfl (by simp) hZ (own_EW hw) C32 e33 hS hk32 (by decide) (by decide) (⟨rfl, N33⟩)
        · show own_Go p e below _ T0 (mkF m 53 #[iv p1, iv p2, iv p3, iv p4, iv p5, iv 3, iv ca, iv cb, iv cc, .unset, .unset, .unset] [(.int 3)])
          refine og_iload X0 hx (hb hby at_53) rfl ?_
          show own_Go p e below _ T0 (mkF m 55 #[iv p1, iv p2, iv p3, iv p4, iv p5, iv 3, iv ca, iv cb, iv cc, .unset, .unset, .unset] [(.int ca), (.int 3)])
          by_cases hm : ca = 65279
          · have hKa : own_K3 ca cb cc 6 [(.int (own_lo ca)), (.int (own_hi ca)), (.int (own_lo cb)), (.int (own_hi cb)), (.int (own_lo cc)), (.int (own_hi cc))] 1 := Or.inr ⟨Or.inl (own_mk hm), rfl, rfl, rfl⟩
            obtain ⟨Nb, vb, db, hKb⟩ := own_kx2 cb cc
            show own_Go p e below _ T0 (mkF m 55 #[iv p1, iv p2, iv p3, iv p4, iv p5, iv 3, iv ca, iv cb, iv cc, .unset, .unset, .unset] [(.int ca), (.int 3)])
            refine og_iload X0 hx (hb hby at_55) rfl ?_
            refine og_iload X0 hx (hb hby at_57) rfl ?_
            refine own_callS X0 hx hZ hown (own_hw hw 0 rfl) (own_hw hw 1 rfl) (own_hw hw 2 rfl) (own_hw hw 3 rfl) (by decide) (argsL := [(.int 3), (.int ca), (.int cb), (.int cc)]) (rest := []) (own_mk3 l Z a0 hw z ca cb cc 6 (1 : Int32) [(.int (own_lo ca)), (.int (own_hi ca)), (.int (own_lo cb)), (.int (own_hi cb)), (.int (own_lo cc)), (.int (own_hi cc))] h0 n0 hO hU SC hz hca hcb hcc hKa) e0 (by rw [hml]; rfl) (lenOf own_pd47132 rfl) rfl (hb hby at_59) (W := 0) (Nat.le_of_eq rfl) (by decide) ?_
            intro v34 T34 L34 X34 q34
            obtain ⟨t34, vb34, k34, rfl, N34q, K34q, zt34, gt34, Et34, Ft34, Ct34, At34⟩ := q34
            have N34 := Fr.app N0 N34q
            have hk34 := Nat.le_trans hk K34q.1
            have hs34 : ∀ x ∈ ([] : List Addr), Safe Z own_EL s.vm h0 x := sf0
            have C34 := C0.trans (CHr.keep K34q hs34 C0.1)
            have O34 := hO.keep K34q all0
            show own_Go p e below _ T34 (mkF m 62 #[iv p1, iv p2, iv p3, iv p4, iv p5, iv 3, iv ca, iv cb, iv cc, .unset, .unset, .unset] [(.ref t34)])
            refine og_astore X34 hx #[iv p1, iv p2, iv p3, iv p4, iv p5, iv 3, iv ca, iv cb, iv cc, rv t34, .unset, .unset] (hb hby at_62) rfl rfl ?_
            refine og_aload X34 hx (hb hby at_64) rfl rfl ?_
            refine own_callS X34 hx hZ hown (own_hw hw 34 rfl) (own_hw hw 35 rfl) (own_hw hw 36 rfl) (own_hw hw 37 rfl) (by decide) (argsL := [(.ref t34)]) (rest := []) (own_wm3 l Z a0 hw z sf t34 vb34 _ _ ca cb cc Nb db vb T34.heap n0 O34 hG hU hcb hcc hKb hca hm Et34 Ft34 Ct34 At34) rfl (by rw [hml]; rfl) (lenOf own_pd11897 rfl) rfl (hb hby at_66) (W := 0) (Nat.le_of_eq rfl) (by decide) ?_
            intro v35 T35 L35 X35 q35
            obtain ⟨t35, vb35, k35, rfl, N35q, K35q, zt35, gt35, Et35, Ft35, Ct35, At35⟩ := q35
            have N35 := Fr.app N34 N35q
            have ne_t34_t35 : t34 ≠ t35 := Nat.ne_of_lt (Nat.lt_of_lt_of_le Et34.lt zt35)
            have ne_vb34_t35 : vb34 ≠ t35 := Nat.ne_of_lt (Nat.lt_of_lt_of_le At34.lt zt35)
            have hk35 := Nat.le_trans hk34 K35q.1
            have hs35 : ∀ x ∈ ([] : List Addr), Safe Z own_EL s.vm T34.heap x := sf0
            have C35 := C34.trans (CHr.keep K35q hs35 C34.1)
            have E_t34_35 := Et34.keep K35q
            have F_t34_value_35 := Ft34.keep K35q nin0
            have F_t34_coder_35 := Ct34.keep K35q nin0
            have A_vb34_35 := At34.keep K35q nin0
            have O35 := O34.keep K35q all0
            show own_Go p e below _ T35 (mkF m 69 #[iv p1, iv p2, iv p3, iv p4, iv p5, iv 3, iv ca, iv cb, iv cc, rv t34, .unset, .unset] [(.ref t35)])
            refine og_astore X35 hx #[iv p1, iv p2, iv p3, iv p4, iv p5, iv 3, iv ca, iv cb, iv cc, rv t34, rv t35, .unset] (hb hby at_69) rfl rfl ?_
            refine og_iload X35 hx (hb hby at_71) rfl ?_
            refine og_ifN X35 hx (hb hby at_73) (tlt (by decide)).2.2.2 ?_
            refine og_iload X35 hx (hb hby at_76) rfl ?_
            refine og_ldcI X35 hx hZ hown (own_hw hw 66 rfl) (hb hby at_78) ?_
            show own_Go p e below _ T35 (mkF m 80 #[iv p1, iv p2, iv p3, iv p4, iv p5, iv 3, iv ca, iv cb, iv cc, rv t34, rv t35, .unset] [(.int 65279), (.int ca)])
            refine og_icN X35 hx (hb hby at_80) (teq hm).2 ?_
            refine og_iload X35 hx (hb hby at_83) rfl ?_
            refine og_iconst X35 hx (hb hby at_85) ?_
            refine og_isub X35 hx (hb hby at_86) ?_
            refine og_iload X35 hx (hb hby at_87) rfl ?_
            refine og_iload X35 hx (hb hby at_89) rfl ?_
            refine og_iload X35 hx (hb hby at_91) rfl ?_
            refine own_callS X35 hx hZ hown (own_hw hw 0 rfl) (own_hw hw 1 rfl) (own_hw hw 2 rfl) (own_hw hw 3 rfl) (by decide) (argsL := [(.int 2), (.int cb), (.int cc), (.int cc)]) (rest := []) (own_mk2 l Z a0 hw z cb cc cc Nb db vb T35.heap n0 O35 hU SC hz hcb hcc hKb) rfl (by rw [hml]; rfl) (lenOf own_pd47132 rfl) rfl (hb hby at_93) (W := 0) (Nat.le_of_eq rfl) (by decide) ?_
            intro v36 T36 L36 X36 q36
            obtain ⟨t36, vb36, k36, rfl, N36q, K36q, zt36, gt36, Et36, Ft36, Ct36, At36⟩ := q36
            have N36 := Fr.app N35 N36q
            have ne_t34_t36 : t34 ≠ t36 := Nat.ne_of_lt (Nat.lt_of_lt_of_le E_t34_35.lt zt36)
            have ne_t35_t36 : t35 ≠ t36 := Nat.ne_of_lt (Nat.lt_of_lt_of_le Et35.lt zt36)
            have ne_vb34_t36 : vb34 ≠ t36 := Nat.ne_of_lt (Nat.lt_of_lt_of_le A_vb34_35.lt zt36)
            have ne_vb35_t36 : vb35 ≠ t36 := Nat.ne_of_lt (Nat.lt_of_lt_of_le At35.lt zt36)
            have hk36 := Nat.le_trans hk35 K36q.1
            have hs36 : ∀ x ∈ ([] : List Addr), Safe Z own_EL s.vm T35.heap x := sf0
            have C36 := C35.trans (CHr.keep K36q hs36 C35.1)
            have E_t34_36 := E_t34_35.keep K36q
            have F_t34_value_36 := F_t34_value_35.keep K36q nin0
            have F_t34_coder_36 := F_t34_coder_35.keep K36q nin0
            have A_vb34_36 := A_vb34_35.keep K36q nin0
            have E_t35_36 := Et35.keep K36q
            have F_t35_value_36 := Ft35.keep K36q nin0
            have F_t35_coder_36 := Ct35.keep K36q nin0
            have A_vb35_36 := At35.keep K36q nin0
            have O36 := O35.keep K36q all0
            show own_Go p e below _ T36 (mkF m 96 #[iv p1, iv p2, iv p3, iv p4, iv p5, iv 3, iv ca, iv cb, iv cc, rv t34, rv t35, .unset] [(.ref t36)])
            refine og_astore X36 hx #[iv p1, iv p2, iv p3, iv p4, iv p5, iv 3, iv ca, iv cb, iv cc, rv t34, rv t35, rv t36] (hb hby at_96) rfl rfl ?_
            refine og_goto X36 hx 114 (hb hby at_98) (by decide) (by decide) ?_
            refine og_aload X36 hx (hb hby at_114) rfl rfl ?_
            refine og_aload X36 hx (hb hby at_116) rfl rfl ?_
            refine own_callV X36 hx hZ hown (own_hw hw 67 rfl) (own_hw hw 68 rfl) (notFace_of_selects (args := #[]) (mvT hZ (own_hw hw 70 rfl))) (own_hw hw 70 rfl) (own_hw hw 69 rfl) (own_hw hw 71 rfl) (own_hw hw 6 rfl) (by decide) (b := t35) (argsL := [(.ref t36)]) (rest := []) (own_seq l Z a0 hw z sf t35 vb35 t36 vb36 _ _ _ _ Nb db vb T36.heap n0 O36 hG ne_t35_t36 (own_kl2 hKb) E_t35_36 F_t35_value_36 F_t35_coder_36 A_vb35_36 Et36 Ft36 Ct36 At36) rfl E_t35_36 (by rw [hml]; rfl) (lenOf own_pd97300 rfl) rfl (hb hby at_118) (W := 0) (Nat.le_of_eq rfl) (by decide) ?_
            intro v37 T37 L37 X37 q37
            obtain ⟨rfl, N37q, e37⟩ := q37
            have N37 := Fr.app N36 N37q
            show own_Go p e below _ T37 (mkF m 121 #[iv p1, iv p2, iv p3, iv p4, iv p5, iv 3, iv ca, iv cb, iv cc, rv t34, rv t35, rv t36] [(.int 1)])
            refine og_ifN X37 hx (hb hby at_121) (feq (by decide)).1 ?_
            refine og_aload X37 hx (hb hby at_124) rfl rfl ?_
            refine og_iload X37 hx (hb hby at_126) rfl ?_
            refine og_iload X37 hx (hb hby at_128) rfl ?_
            refine og_iload X37 hx (hb hby at_130) rfl ?_
            refine og_iload X37 hx (hb hby at_132) rfl ?_
            refine own_callS X37 hx hZ hown (own_hw hw 0 rfl) (own_hw hw 1 rfl) (own_hw hw 2 rfl) (own_hw hw 3 rfl) (by decide) (argsL := [(.int 3), (.int ca), (.int cb), (.int cc)]) (rest := [(.ref t34)]) (own_mk3 l Z a0 hw z ca cb cc 6 (1 : Int32) [(.int (own_lo ca)), (.int (own_hi ca)), (.int (own_lo cb)), (.int (own_hi cb)), (.int (own_lo cc)), (.int (own_hi cc))] T36.heap n0 O36 hU SC hz hca hcb hcc hKa) e37 (by rw [hml]; rfl) (lenOf own_pd47132 rfl) rfl (hb hby at_134) (W := 1) (Nat.le_of_eq rfl) (by decide) ?_
            intro v38 T38 L38 X38 q38
            obtain ⟨t38, vb38, k38, rfl, N38q, K38q, zt38, gt38, Et38, Ft38, Ct38, At38⟩ := q38
            have N38 := Fr.app N37 N38q
            have ne_t34_t38 : t34 ≠ t38 := Nat.ne_of_lt (Nat.lt_of_lt_of_le E_t34_36.lt zt38)
            have ne_t35_t38 : t35 ≠ t38 := Nat.ne_of_lt (Nat.lt_of_lt_of_le E_t35_36.lt zt38)
            have ne_t36_t38 : t36 ≠ t38 := Nat.ne_of_lt (Nat.lt_of_lt_of_le Et36.lt zt38)
            have ne_vb34_t38 : vb34 ≠ t38 := Nat.ne_of_lt (Nat.lt_of_lt_of_le A_vb34_36.lt zt38)
            have ne_vb35_t38 : vb35 ≠ t38 := Nat.ne_of_lt (Nat.lt_of_lt_of_le A_vb35_36.lt zt38)
            have ne_vb36_t38 : vb36 ≠ t38 := Nat.ne_of_lt (Nat.lt_of_lt_of_le At36.lt zt38)
            have hk38 := Nat.le_trans hk36 K38q.1
            have hs38 : ∀ x ∈ ([] : List Addr), Safe Z own_EL s.vm T36.heap x := sf0
            have C38 := C36.trans (CHr.keep K38q hs38 C36.1)
            have E_t34_38 := E_t34_36.keep K38q
            have F_t34_value_38 := F_t34_value_36.keep K38q nin0
            have F_t34_coder_38 := F_t34_coder_36.keep K38q nin0
            have A_vb34_38 := A_vb34_36.keep K38q nin0
            have E_t35_38 := E_t35_36.keep K38q
            have F_t35_value_38 := F_t35_value_36.keep K38q nin0
            have F_t35_coder_38 := F_t35_coder_36.keep K38q nin0
            have A_vb35_38 := A_vb35_36.keep K38q nin0
            have E_t36_38 := Et36.keep K38q
            have F_t36_value_38 := Ft36.keep K38q nin0
            have F_t36_coder_38 := Ct36.keep K38q nin0
            have A_vb36_38 := At36.keep K38q nin0
            have O38 := O36.keep K38q all0
            show own_Go p e below _ T38 (mkF m 137 #[iv p1, iv p2, iv p3, iv p4, iv p5, iv 3, iv ca, iv cb, iv cc, rv t34, rv t35, rv t36] [(.ref t38), (.ref t34)])
            refine own_callV X38 hx hZ hown (own_hw hw 67 rfl) (own_hw hw 68 rfl) (notFace_of_selects (args := #[]) (mvT hZ (own_hw hw 70 rfl))) (own_hw hw 70 rfl) (own_hw hw 69 rfl) (own_hw hw 71 rfl) (own_hw hw 6 rfl) (by decide) (b := t34) (argsL := [(.ref t38)]) (rest := []) (own_seq l Z a0 hw z sf t34 vb34 t38 vb38 _ _ _ _ 6 (1 : Int32) [(.int (own_lo ca)), (.int (own_hi ca)), (.int (own_lo cb)), (.int (own_hi cb)), (.int (own_lo cc)), (.int (own_hi cc))] T38.heap n0 O38 hG ne_t34_t38 (own_kl3 hKa) E_t34_38 F_t34_value_38 F_t34_coder_38 A_vb34_38 Et38 Ft38 Ct38 At38) rfl E_t34_38 (by rw [hml]; rfl) (lenOf own_pd97300 rfl) rfl (hb hby at_137) (W := 0) (Nat.le_of_eq rfl) (by decide) ?_
            intro v39 T39 L39 X39 q39
            obtain ⟨rfl, N39q, e39⟩ := q39
            have N39 := Fr.app N38 N39q
            show own_Go p e below _ T39 (mkF m 140 #[iv p1, iv p2, iv p3, iv p4, iv p5, iv 3, iv ca, iv cb, iv cc, rv t34, rv t35, rv t36] [(.int 1)])
            refine og_ifN X39 hx (hb hby at_140) (feq (by decide)).1 ?_
            refine og_iconst X39 hx (hb hby at_143) ?_
            refine og_goto X39 hx 148 (hb hby at_144) (by decide) (by decide) ?_
            exact own_retIH X39 hx hret hlk (hb hby at_148) rfl (by simp) hZ (own_EW hw) C38 e39 hS hk38 (by decide) (by decide) (⟨rfl, N39⟩)
          · obtain ⟨Na, va, da, hKa⟩ := own_kx3 ca cb cc
            show own_Go p e below _ T0 (mkF m 55 #[iv p1, iv p2, iv p3, iv p4, iv p5, iv 3, iv ca, iv cb, iv cc, .unset, .unset, .unset] [(.int ca), (.int 3)])
            refine og_iload X0 hx (hb hby at_55) rfl ?_
            refine og_iload X0 hx (hb hby at_57) rfl ?_
            refine own_callS X0 hx hZ hown (own_hw hw 0 rfl) (own_hw hw 1 rfl) (own_hw hw 2 rfl) (own_hw hw 3 rfl) (by decide) (argsL := [(.int 3), (.int ca), (.int cb), (.int cc)]) (rest := []) (own_mk3 l Z a0 hw z ca cb cc Na da va h0 n0 hO hU SC hz hca hcb hcc hKa) e0 (by rw [hml]; rfl) (lenOf own_pd47132 rfl) rfl (hb hby at_59) (W := 0) (Nat.le_of_eq rfl) (by decide) ?_
            intro v40 T40 L40 X40 q40
            obtain ⟨t40, vb40, k40, rfl, N40q, K40q, zt40, gt40, Et40, Ft40, Ct40, At40⟩ := q40
            have N40 := Fr.app N0 N40q
            have hk40 := Nat.le_trans hk K40q.1
            have hs40 : ∀ x ∈ ([] : List Addr), Safe Z own_EL s.vm h0 x := sf0
            have C40 := C0.trans (CHr.keep K40q hs40 C0.1)
            have O40 := hO.keep K40q all0
            show own_Go p e below _ T40 (mkF m 62 #[iv p1, iv p2, iv p3, iv p4, iv p5, iv 3, iv ca, iv cb, iv cc, .unset, .unset, .unset] [(.ref t40)])
            refine og_astore X40 hx #[iv p1, iv p2, iv p3, iv p4, iv p5, iv 3, iv ca, iv cb, iv cc, rv t40, .unset, .unset] (hb hby at_62) rfl rfl ?_
            refine og_aload X40 hx (hb hby at_64) rfl rfl ?_
            refine own_callS X40 hx hZ hown (own_hw hw 34 rfl) (own_hw hw 35 rfl) (own_hw hw 36 rfl) (own_hw hw 37 rfl) (by decide) (argsL := [(.ref t40)]) (rest := []) (own_wn3 l Z a0 hw z sf t40 vb40 _ _ ca cb cc Na da va T40.heap n0 O40 hG hU hca hm hKa Et40 Ft40 Ct40 At40) rfl (by rw [hml]; rfl) (lenOf own_pd11897 rfl) rfl (hb hby at_66) (W := 0) (Nat.le_of_eq rfl) (by decide) ?_
            intro v41 T41 L41 X41 q41
            obtain ⟨rfl, N41q, e41⟩ := q41
            have N41 := Fr.app N40 N41q
            show own_Go p e below _ T41 (mkF m 69 #[iv p1, iv p2, iv p3, iv p4, iv p5, iv 3, iv ca, iv cb, iv cc, rv t40, .unset, .unset] [(.ref t40)])
            refine og_astore X41 hx #[iv p1, iv p2, iv p3, iv p4, iv p5, iv 3, iv ca, iv cb, iv cc, rv t40, rv t40, .unset] (hb hby at_69) rfl rfl ?_
            refine og_iload X41 hx (hb hby at_71) rfl ?_
            refine og_ifN X41 hx (hb hby at_73) (tlt (by decide)).2.2.2 ?_
            refine og_iload X41 hx (hb hby at_76) rfl ?_
            refine og_ldcI X41 hx hZ hown (own_hw hw 66 rfl) (hb hby at_78) ?_
            show own_Go p e below _ T41 (mkF m 80 #[iv p1, iv p2, iv p3, iv p4, iv p5, iv 3, iv ca, iv cb, iv cc, rv t40, rv t40, .unset] [(.int 65279), (.int ca)])
            refine og_icY X41 hx 101 (hb hby at_80) (feq hm).2 (by decide) (by decide) ?_
            refine og_iload X41 hx (hb hby at_101) rfl ?_
            refine og_iload X41 hx (hb hby at_103) rfl ?_
            refine og_iload X41 hx (hb hby at_105) rfl ?_
            refine og_iload X41 hx (hb hby at_107) rfl ?_
            refine own_callS X41 hx hZ hown (own_hw hw 0 rfl) (own_hw hw 1 rfl) (own_hw hw 2 rfl) (own_hw hw 3 rfl) (by decide) (argsL := [(.int 3), (.int ca), (.int cb), (.int cc)]) (rest := []) (own_mk3 l Z a0 hw z ca cb cc Na da va T40.heap n0 O40 hU SC hz hca hcb hcc hKa) e41 (by rw [hml]; rfl) (lenOf own_pd47132 rfl) rfl (hb hby at_109) (W := 0) (Nat.le_of_eq rfl) (by decide) ?_
            intro v42 T42 L42 X42 q42
            obtain ⟨t42, vb42, k42, rfl, N42q, K42q, zt42, gt42, Et42, Ft42, Ct42, At42⟩ := q42
            have N42 := Fr.app N41 N42q
            have ne_t40_t42 : t40 ≠ t42 := Nat.ne_of_lt (Nat.lt_of_lt_of_le Et40.lt zt42)
            have ne_vb40_t42 : vb40 ≠ t42 := Nat.ne_of_lt (Nat.lt_of_lt_of_le At40.lt zt42)
            have hk42 := Nat.le_trans hk40 K42q.1
            have hs42 : ∀ x ∈ ([] : List Addr), Safe Z own_EL s.vm T40.heap x := sf0
            have C42 := C40.trans (CHr.keep K42q hs42 C40.1)
            have E_t40_42 := Et40.keep K42q
            have F_t40_value_42 := Ft40.keep K42q nin0
            have F_t40_coder_42 := Ct40.keep K42q nin0
            have A_vb40_42 := At40.keep K42q nin0
            have O42 := O40.keep K42q all0
            show own_Go p e below _ T42 (mkF m 112 #[iv p1, iv p2, iv p3, iv p4, iv p5, iv 3, iv ca, iv cb, iv cc, rv t40, rv t40, .unset] [(.ref t42)])
            refine og_astore X42 hx #[iv p1, iv p2, iv p3, iv p4, iv p5, iv 3, iv ca, iv cb, iv cc, rv t40, rv t40, rv t42] (hb hby at_112) rfl rfl ?_
            refine og_aload X42 hx (hb hby at_114) rfl rfl ?_
            refine og_aload X42 hx (hb hby at_116) rfl rfl ?_
            refine own_callV X42 hx hZ hown (own_hw hw 67 rfl) (own_hw hw 68 rfl) (notFace_of_selects (args := #[]) (mvT hZ (own_hw hw 70 rfl))) (own_hw hw 70 rfl) (own_hw hw 69 rfl) (own_hw hw 71 rfl) (own_hw hw 6 rfl) (by decide) (b := t40) (argsL := [(.ref t42)]) (rest := []) (own_seq l Z a0 hw z sf t40 vb40 t42 vb42 _ _ _ _ Na da va T42.heap n0 O42 hG ne_t40_t42 (own_kl3 hKa) E_t40_42 F_t40_value_42 F_t40_coder_42 A_vb40_42 Et42 Ft42 Ct42 At42) rfl E_t40_42 (by rw [hml]; rfl) (lenOf own_pd97300 rfl) rfl (hb hby at_118) (W := 0) (Nat.le_of_eq rfl) (by decide) ?_
            intro v43 T43 L43 X43 q43
            obtain ⟨rfl, N43q, e43⟩ := q43
            have N43 := Fr.app N42 N43q
            show own_Go p e below _ T43 (mkF m 121 #[iv p1, iv p2, iv p3, iv p4, iv p5, iv 3, iv ca, iv cb, iv cc, rv t40, rv t40, rv t42] [(.int 1)])
            refine og_ifN X43 hx (hb hby at_121) (feq (by decide)).1 ?_
            refine og_aload X43 hx (hb hby at_124) rfl rfl ?_
            refine og_iload X43 hx (hb hby at_126) rfl ?_
            refine og_iload X43 hx (hb hby at_128) rfl ?_
            refine og_iload X43 hx (hb hby at_130) rfl ?_
            refine og_iload X43 hx (hb hby at_132) rfl ?_
            refine own_callS X43 hx hZ hown (own_hw hw 0 rfl) (own_hw hw 1 rfl) (own_hw hw 2 rfl) (own_hw hw 3 rfl) (by decide) (argsL := [(.int 3), (.int ca), (.int cb), (.int cc)]) (rest := [(.ref t40)]) (own_mk3 l Z a0 hw z ca cb cc Na da va T42.heap n0 O42 hU SC hz hca hcb hcc hKa) e43 (by rw [hml]; rfl) (lenOf own_pd47132 rfl) rfl (hb hby at_134) (W := 1) (Nat.le_of_eq rfl) (by decide) ?_
            intro v44 T44 L44 X44 q44
            obtain ⟨t44, vb44, k44, rfl, N44q, K44q, zt44, gt44, Et44, Ft44, Ct44, At44⟩ := q44
            have N44 := Fr.app N43 N44q
            have ne_t40_t44 : t40 ≠ t44 := Nat.ne_of_lt (Nat.lt_of_lt_of_le E_t40_42.lt zt44)
            have ne_t42_t44 : t42 ≠ t44 := Nat.ne_of_lt (Nat.lt_of_lt_of_le Et42.lt zt44)
            have ne_vb40_t44 : vb40 ≠ t44 := Nat.ne_of_lt (Nat.lt_of_lt_of_le A_vb40_42.lt zt44)
            have ne_vb42_t44 : vb42 ≠ t44 := Nat.ne_of_lt (Nat.lt_of_lt_of_le At42.lt zt44)
            have hk44 := Nat.le_trans hk42 K44q.1
            have hs44 : ∀ x ∈ ([] : List Addr), Safe Z own_EL s.vm T42.heap x := sf0
            have C44 := C42.trans (CHr.keep K44q hs44 C42.1)
            have E_t40_44 := E_t40_42.keep K44q
            have F_t40_value_44 := F_t40_value_42.keep K44q nin0
            have F_t40_coder_44 := F_t40_coder_42.keep K44q nin0
            have A_vb40_44 := A_vb40_42.keep K44q nin0
            have E_t42_44 := Et42.keep K44q
            have F_t42_value_44 := Ft42.keep K44q nin0
            have F_t42_coder_44 := Ct42.keep K44q nin0
            have A_vb42_44 := At42.keep K44q nin0
            have O44 := O42.keep K44q all0
            show own_Go p e below _ T44 (mkF m 137 #[iv p1, iv p2, iv p3, iv p4, iv p5, iv 3, iv ca, iv cb, iv cc, rv t40, rv t40, rv t42] [(.ref t44), (.ref t40)])
            refine own_callV X44 hx hZ hown (own_hw hw 67 rfl) (own_hw hw 68 rfl) (notFace_of_selects (args := #[]) (mvT hZ (own_hw hw 70 rfl))) (own_hw hw 70 rfl) (own_hw hw 69 rfl) (own_hw hw 71 rfl) (own_hw hw 6 rfl) (by decide) (b := t40) (argsL := [(.ref t44)]) (rest := []) (own_seq l Z a0 hw z sf t40 vb40 t44 vb44 _ _ _ _ Na da va T44.heap n0 O44 hG ne_t40_t44 (own_kl3 hKa) E_t40_44 F_t40_value_44 F_t40_coder_44 A_vb40_44 Et44 Ft44 Ct44 At44) rfl E_t40_44 (by rw [hml]; rfl) (lenOf own_pd97300 rfl) rfl (hb hby at_137) (W := 0) (Nat.le_of_eq rfl) (by decide) ?_
            intro v45 T45 L45 X45 q45
            obtain ⟨rfl, N45q, e45⟩ := q45
            have N45 := Fr.app N44 N45q
            show own_Go p e below _ T45 (mkF m 140 #[iv p1, iv p2, iv p3, iv p4, iv p5, iv 3, iv ca, iv cb, iv cc, rv t40, rv t40, rv t42] [(.int 1)])
            refine og_ifN X45 hx (hb hby at_140) (feq (by decide)).1 ?_
            refine og_iconst X45 hx (hb hby at_143) ?_
            refine og_goto X45 hx 148 (hb hby at_144) (by decide) (by decide) ?_
            exact own_retIH X45 hx hret hlk (hb hby at_148) rfl (by simp) hZ (own_EW hw) C44 e45 hS hk44 (by decide) (by decide) (⟨rfl, N45⟩)
      intro tl3
      refine og_iloadN X0 hx (hb hby at_35) rfl ?_
      refine og_iconst X0 hx (hb hby at_36) ?_
      refine og_iand X0 hx (hb hby at_37) ?_
      show own_Go p e below _ T0 (mkF m 38 #[iv p1, iv p2, iv p3, iv p4, iv p5, iv ln, iv ca, iv cb, .unset, .unset, .unset, .unset] [(.int (p1 &&& 4))])
      by_cases hc38 : (p1 &&& 4) = 0
      · refine og_ifY X0 hx 46 (hb hby at_38) (teq hc38).1 (by decide) (by decide) ?_
        refine og_iload X0 hx (hb hby at_46) rfl ?_
        refine own_go (fun t k => XS.i2c X0.here hx rfl (hb hby at_48) rfl k) ?_
        show own_Go p e below _ T0 (mkF m 49 #[iv p1, iv p2, iv p3, iv p4, iv p5, iv ln, iv ca, iv cb, .unset, .unset, .unset, .unset] [(.int (p5.toUInt32.toUInt16.toUInt32.toInt32))])
        refine og_istore X0 hx #[iv p1, iv p2, iv p3, iv p4, iv p5, iv ln, iv ca, iv cb, iv (p5.toUInt32.toUInt16.toUInt32.toInt32), .unset, .unset, .unset] (hb hby at_49) rfl ?_
        exact tl3 ⟨_, (own_c16 _)⟩
      · refine og_ifN X0 hx (hb hby at_38) (feq hc38).1 ?_
        refine og_ldcI X0 hx hZ hown (own_hw hw 66 rfl) (hb hby at_41) ?_
        show own_Go p e below _ T0 (mkF m 43 #[iv p1, iv p2, iv p3, iv p4, iv p5, iv ln, iv ca, iv cb, .unset, .unset, .unset, .unset] [(.int 65279)])
        refine og_goto X0 hx 49 (hb hby at_43) (by decide) (by decide) ?_
        refine og_istore X0 hx #[iv p1, iv p2, iv p3, iv p4, iv p5, iv ln, iv ca, iv cb, iv 65279, .unset, .unset, .unset] (hb hby at_49) rfl ?_
        exact tl3 ⟨_, (by decide)⟩
    intro tl2
    refine og_iloadN X0 hx (hb hby at_20) rfl ?_
    refine og_iconst X0 hx (hb hby at_21) ?_
    refine og_iand X0 hx (hb hby at_22) ?_
    show own_Go p e below _ T0 (mkF m 23 #[iv p1, iv p2, iv p3, iv p4, iv p5, iv ln, iv ca, .unset, .unset, .unset, .unset, .unset] [(.int (p1 &&& 2))])
    by_cases hc23 : (p1 &&& 2) = 0
    · refine og_ifY X0 hx 31 (hb hby at_23) (teq hc23).1 (by decide) (by decide) ?_
      refine og_iloadN X0 hx (hb hby at_31) rfl ?_
      refine own_go (fun t k => XS.i2c X0.here hx rfl (hb hby at_32) rfl k) ?_
      show own_Go p e below _ T0 (mkF m 33 #[iv p1, iv p2, iv p3, iv p4, iv p5, iv ln, iv ca, .unset, .unset, .unset, .unset, .unset] [(.int (p4.toUInt32.toUInt16.toUInt32.toInt32))])
      refine og_istore X0 hx #[iv p1, iv p2, iv p3, iv p4, iv p5, iv ln, iv ca, iv (p4.toUInt32.toUInt16.toUInt32.toInt32), .unset, .unset, .unset, .unset] (hb hby at_33) rfl ?_
      exact tl2 ⟨_, (own_c16 _)⟩
    · refine og_ifN X0 hx (hb hby at_23) (feq hc23).1 ?_
      refine og_ldcI X0 hx hZ hown (own_hw hw 66 rfl) (hb hby at_26) ?_
      show own_Go p e below _ T0 (mkF m 28 #[iv p1, iv p2, iv p3, iv p4, iv p5, iv ln, iv ca, .unset, .unset, .unset, .unset, .unset] [(.int 65279)])
      refine og_goto X0 hx 33 (hb hby at_28) (by decide) (by decide) ?_
      refine og_istore X0 hx #[iv p1, iv p2, iv p3, iv p4, iv p5, iv ln, iv ca, iv 65279, .unset, .unset, .unset, .unset] (hb hby at_33) rfl ?_
      exact tl2 ⟨_, (by decide)⟩
  intro tl1
  refine og_iloadN X0 hx (hb hby at_5) rfl ?_
  refine og_iconst X0 hx (hb hby at_6) ?_
  refine og_iand X0 hx (hb hby at_7) ?_
  show own_Go p e below _ T0 (mkF m 8 #[iv p1, iv p2, iv p3, iv p4, iv p5, iv ln, .unset, .unset, .unset, .unset, .unset, .unset] [(.int (p1 &&& 1))])
  by_cases hc8 : (p1 &&& 1) = 0
  · refine og_ifY X0 hx 16 (hb hby at_8) (teq hc8).1 (by decide) (by decide) ?_
    refine og_iloadN X0 hx (hb hby at_16) rfl ?_
    refine own_go (fun t k => XS.i2c X0.here hx rfl (hb hby at_17) rfl k) ?_
    show own_Go p e below _ T0 (mkF m 18 #[iv p1, iv p2, iv p3, iv p4, iv p5, iv ln, .unset, .unset, .unset, .unset, .unset, .unset] [(.int (p3.toUInt32.toUInt16.toUInt32.toInt32))])
    refine og_istore X0 hx #[iv p1, iv p2, iv p3, iv p4, iv p5, iv ln, iv (p3.toUInt32.toUInt16.toUInt32.toInt32), .unset, .unset, .unset, .unset, .unset] (hb hby at_18) rfl ?_
    exact tl1 ⟨_, (own_c16 _)⟩
  · refine og_ifN X0 hx (hb hby at_8) (feq hc8).1 ?_
    refine og_ldcI X0 hx hZ hown (own_hw hw 66 rfl) (hb hby at_11) ?_
    show own_Go p e below _ T0 (mkF m 13 #[iv p1, iv p2, iv p3, iv p4, iv p5, iv ln, .unset, .unset, .unset, .unset, .unset, .unset] [(.int 65279)])
    refine og_goto X0 hx 18 (hb hby at_13) (by decide) (by decide) ?_
    refine og_istore X0 hx #[iv p1, iv p2, iv p3, iv p4, iv p5, iv ln, iv 65279, .unset, .unset, .unset, .unset, .unset] (hb hby at_18) rfl ?_
    exact tl1 ⟨_, (by decide)⟩
set_option maxRecDepth 65536 in
set_option maxHeartbeats 40000000 in
theorem comes_1 {Post : Tables → Env → Array Value → State → Outcome → State → Prop} (hpost : ∀ tb e args s v u, (limb_1_1.after args s (.returned v) u = true ∧ limb_1_2.after args s (.returned v) u = true ∧ True) → ReturnedEndW s (.returned v) u (Jvm.fieldLocs frame_1_writes args s ++ Jvm.arrayLocs frame_1_arrays args s ++ Jvm.staticLocs frame_1_statics s) 48 2240 → Post tb e args s (.returned v) u) :
    ArmFor flags0 classFile x code maxLocals ret World_1 tables_1 room_1 Calls_1 rest_1 Pre_1 Post := by
  intro l hfl _ _ p e ha hc hk s m args below hf hA hF happ hP
  obtain ⟨hcalls, hrest, hpre⟩ := hP
  obtain ⟨-, -, -, hnamed, -, -, -, hat⟩ := (Spec.applies_iff hf).mp happ
  obtain ⟨hg, hn⟩ := and_e (Cond.before_iff.mp (show (Jvm.Cond.and given_1 narrow_1).before args s = true from hpre))
  obtain ⟨hcount, hk0⟩ := and_e hg
  obtain ⟨w0, w1, w2, w3, w4, rfl⟩ : ∃ w0 w1 w2 w3 w4 : Value, args = #[w0, w1, w2, w3, w4] := by
    have hs : args.size = 5 := by simpa [Cond.value, given_1] using hcount
    obtain ⟨L⟩ := args
    match L, hs with
    | [w0, w1, w2, w3, w4], _ => exact ⟨w0, w1, w2, w3, w4, rfl⟩
  have hw := fun d (hd : d ∈ tables_1) => atoms_spec (ws := Jvm.Cond.code x code maxLocals ret :: tables_1) hat d (List.mem_cons_of_mem _ hd)
  have hfit : Fit s := fun {y c} hc i hi => by
    obtain ⟨ha, rfl⟩ := Array.getElem?_eq_some_iff.mp hc
    have q := List.all_eq_true.mp ((Array.all_eq_true_iff_forall_mem.mp hF) _ (Array.getElem_mem ha)) i (List.mem_range.mpr hi)
    simpa [Array.getElem?_eq_getElem hi] using q
  obtain ⟨hi0, hk1⟩ := and_e hk0
  obtain ⟨i0, ei0⟩ := is_v hi0
  obtain rfl : w0 = (.int i0) := Option.some.inj ei0
  obtain ⟨hi1, hk2⟩ := and_e hk1
  obtain ⟨i1, ei1⟩ := is_v hi1
  obtain rfl : w1 = (.int i1) := Option.some.inj ei1
  obtain ⟨hi2, hk3⟩ := and_e hk2
  obtain ⟨i2, ei2⟩ := is_v hi2
  obtain rfl : w2 = (.int i2) := Option.some.inj ei2
  obtain ⟨hi3, hk4⟩ := and_e hk3
  obtain ⟨i3, ei3⟩ := is_v hi3
  obtain rfl : w3 = (.int i3) := Option.some.inj ei3
  obtain ⟨i4, ei4⟩ := is_v hk4
  obtain rfl : w4 = (.int i4) := Option.some.inj ei4
  obtain ⟨hsets, hown0⟩ := atoms_of _ (rest_1_c_eq ▸ (show rest_1_c.before _ s = true from hrest))
  have z1 := not_v (Cond.before_iff.mp (hsets _ (List.mem_of_getElem? (i := 2) rfl)))
  obtain ⟨z, ez⟩ := is_v (Cond.before_iff.mp (hsets _ (List.mem_of_getElem? (i := 1) rfl)))
  have SC : Sta s s.heap "java/lang/String" "COMPACT_STRINGS" "Z" (.int z) := Sta.start ez (Or.inl (hsets _ (List.mem_of_getElem? (i := 0) rfl)))
  have hz : ¬ (z = (0 : Int32)) := gotF (Cond.eq_ints ez (Term.int_eval (0))) z1
  obtain ⟨sf, ef, rf⟩ := isR_v (Cond.before_iff.mp (hsets _ (List.mem_of_getElem? (i := 8) rfl)))
  have SF : Sta s s.heap "jdk/internal/util/Preconditions" "SIOOBE_FORMATTER" "Ljava/util/function/BiFunction;" sf := Sta.start ef (Or.inl (hsets _ (List.mem_of_getElem? (i := 7) rfl)))
  have hG : own_Gs s z sf := ⟨SC, hz, SF, rf⟩
  have U0 := own_staI (hsets _ (List.mem_of_getElem? (i := 11) rfl)) (Cond.before_iff.mp (hsets _ (List.mem_of_getElem? (i := 12) rfl)))
  have U1 := own_staI (hsets _ (List.mem_of_getElem? (i := 14) rfl)) (Cond.before_iff.mp (hsets _ (List.mem_of_getElem? (i := 15) rfl)))
  have U2 := own_staI (hsets _ (List.mem_of_getElem? (i := 17) rfl)) (Cond.before_iff.mp (hsets _ (List.mem_of_getElem? (i := 18) rfl)))
  have hU : own_Us s := ⟨U0, U1, U2⟩
  have CH0 : CHv s own_EL s.vm s.heap := CHv.start (own_EW hw) (fun p hp => hcalls.1 p ((by decide +kernel : ∀ p ∈ own_EL, p ∈ consts_1) p hp)) (hsets _ (List.mem_of_getElem? (i := 2) rfl)) (own_hw hw 23 rfl) (own_hw hw 5 rfl)
  obtain ⟨n, o, h1, h2, h3, _, L, rfl, ⟨rfl, N⟩, -, hq⟩ := (own_rm0 l s _ hw i0 i1 i2 i3 i4 z sf s.heap s.heap.size (Old.start s) hG hU) tables_1 p e ha hc hk s m _ below hf ((Spec.applies_iff_loose hf).mp happ).1 ⟨rfl, State.Warmed39.refl s, rfl, CH0⟩ trivial
  refine ⟨n, _, h1, h2, h3, hpost _ _ _ _ _ _ ⟨Cond.after_iff.mpr rfl, Cond.after_iff.mpr (eq_i res_at (Term.int_eval (1)) rfl), trivial⟩ ⟨hq.1, hq.2.1, hq.2.2.1, (hq.2.2.2.sift fun y hy => Or.inr (N y hy)).mono (by decide) (by decide)⟩⟩
theorem main_1_1 : Claimed_1_1 := comes_1 fun _ _ _ _ _ _ h hF => ⟨h.1, hF⟩
theorem main_1_2 : Claimed_1_2 := comes_1 fun _ _ _ _ _ _ h hF => ⟨h.2.1, hF⟩
end Jvm.Pilot.@@N@@
namespace Jvm.Pilot.@@N@@
open Jvm Jvm.ClassFile Sem Op Lib Jvm.Free Jvm.Stand Jvm.Pilot.@@N@@.Jvm.D
/-! MADE BY PROGRAM (witnessworld.py) out of the Statement's table words and the real class files: 23 classes; the members and pool entries that the words name. The judged class is class 1, her method 1. -/
namespace start1
open Jvm.ClassFile
def u (s : String) : CpInfo := .utf8 (stringToUtf16 s)
/-- a pool by its gaps: so many unusable entries, then the entry; so many at the end -/
def gap : Nat → List CpInfo → List CpInfo
  | 0, r => r
  | n + 1, r => .unusable :: gap n r
def poolList (es : List (Nat × CpInfo)) (last : Nat) : List CpInfo := es.foldr (fun e r => gap e.1 (e.2 :: r)) (gap last [])
def pool (es : List (Nat × CpInfo)) (last : Nat) : Array CpInfo := ⟨poolList es last⟩
def fileOf (pool : Array CpInfo) (this : Nat) (attrs : Array Attribute := #[]) (ms : Array MethodInfo := #[]) (fl : Nat := 33) (sup : Nat := 0) (ifs : Array Nat := #[]) (fds : Array FieldInfo := #[]) : ClassFile where
  minorVersion := 0
  majorVersion := 65
  constantPool := pool
  accessFlags := fl
  thisClass := this
  superClass := sup
  interfaces := ifs
  fields := fds
  methods := ms
  attributes := attrs
def plain (name : String) (sup : Option ClassId) : Class where
  name := name
  kind := .ordinary
  loader := none
  accessFlags := 33
  super := sup
  interfaces := #[]
  cf := none
  fields := #[]
  methods := #[]
  instanceTypes := #[]
  staticTypes := #[]
  resolved := #[]
  callSites := []
  init := .initialized
  statics := none
  mirror := none

def pool0 : Array CpInfo := pool [(5, u "<init>"), (0, u "()V"), (1, .class_ 10), (1, u "java/lang/Object")] 113

def k0c0 : Code := { maxStack := 0, maxLocals := 1, code := object_method_1_code, exceptionTable := #[], attributes := #[] }
def k0m0 : Method := { name := "<init>", desc := "()V", sig := { parameters := [], returnType := none }, accessFlags := 1, code := some k0c0 }
/-- java/lang/Object -/
def k0 : Class := { plain "java/lang/Object" none with
  accessFlags := 33
  interfaces := #[]
  cf := some (fileOf pool0 8 #[] #[{ accessFlags := 1, nameIndex := 5, descriptorIndex := 6, attributes := #[] }] 33 0 #[] #[])
  fields := #[]
  methods := #[k0m0]
  instanceTypes := #[]
  staticTypes := #[]
  resolved := Array.replicate 124 none
  statics := none }

def pool1 : Array CpInfo := pool [(2, .class_ 4), (1, u "java/lang/Object"), (0, u "<init>"), (0, u "()V"), (0, .integer 65279), (0, .methodref 9 10), (0, .class_ 11), (0, .nameAndType 12 13), (0, u "com/example/winnow/winnow/io/TextFilesWithoutByteOrderMarkPinLaw"), (0, u "make"), (0, u "(ICCC)Ljava/lang/String;"), (0, .methodref 15 16), (0, .class_ 17), (0, .nameAndType 18 19), (0, u "com/example/winnow/winnow/io/TextFiles"), (0, u "withoutByteOrderMark"), (0, u "(Ljava/lang/String;)Ljava/lang/String;"), (0, .methodref 21 22), (0, .class_ 23), (0, .nameAndType 24 25), (0, u "java/lang/String"), (0, u "equals"), (0, u "(Ljava/lang/Object;)Z"), (0, .methodref 21 27), (0, .nameAndType 5 28), (0, u "([C)V"), (2, u "law"), (0, u "(IIIII)Z")] 3

def k1m0 : Method := { name := "<init>", desc := "()V", sig := { parameters := [], returnType := none }, accessFlags := 1, code := none }
def k1c1 : Code := { maxStack := 5, maxLocals := 12, code := code, exceptionTable := #[], attributes := #[] }
def k1m1 : Method := { name := "law", desc := "(IIIII)Z", sig := { parameters := [.int, .int, .int, .int, .int], returnType := some .boolean }, accessFlags := 9, code := some k1c1 }
def k1c2 : Code := { maxStack := 6, maxLocals := 4, code := method_3_code, exceptionTable := #[], attributes := #[] }
def k1m2 : Method := { name := "make", desc := "(ICCC)Ljava/lang/String;", sig := { parameters := [.int, .char, .char, .char], returnType := some (.object "java/lang/String") }, accessFlags := 10, code := some k1c2 }
/-- com/example/winnow/winnow/io/TextFilesWithoutByteOrderMarkPinLaw -/
def k1 : Class := { plain "com/example/winnow/winnow/io/TextFilesWithoutByteOrderMarkPinLaw" (some 0) with
  accessFlags := 49
  interfaces := #[]
  cf := some (fileOf pool1 9 #[] #[{ accessFlags := 1, nameIndex := 5, descriptorIndex := 6, attributes := #[] }, { accessFlags := 9, nameIndex := 31, descriptorIndex := 32, attributes := #[] }, { accessFlags := 10, nameIndex := 12, descriptorIndex := 13, attributes := #[] }] 49 2 #[] #[])
  fields := #[]
  methods := #[k1m0, k1m1, k1m2]
  instanceTypes := #[]
  staticTypes := #[]
  resolved := Array.replicate 36 none
  statics := none }

def pool2 : Array CpInfo := pool [(1, .class_ 2), (0, u "java/io/Serializable"), (0, .class_ 4), (0, u "java/lang/Object")] 2

/-- java/io/Serializable -/
def k2 : Class := { plain "java/io/Serializable" (some 0) with
  accessFlags := 1537
  interfaces := #[]
  cf := some (fileOf pool2 1 #[] #[] 1537 3 #[] #[])
  fields := #[]
  methods := #[]
  instanceTypes := #[]
  staticTypes := #[]
  resolved := Array.replicate 7 none
  statics := none }

def pool3 : Array CpInfo := pool [(1, .class_ 2), (0, u "java/lang/Comparable"), (0, .class_ 4), (0, u "java/lang/Object")] 7

/-- java/lang/Comparable -/
def k3 : Class := { plain "java/lang/Comparable" (some 0) with
  accessFlags := 1537
  interfaces := #[]
  cf := some (fileOf pool3 1 #[] #[] 1537 3 #[] #[])
  fields := #[]
  methods := #[]
  instanceTypes := #[]
  staticTypes := #[]
  resolved := Array.replicate 12 none
  statics := none }

def pool4 : Array CpInfo := pool [(2, .class_ 4), (1, u "java/lang/CharSequence"), (42, .class_ 48), (0, u "java/lang/CharSequence$1CodePointIterator"), (10, .class_ 60), (0, u "java/lang/CharSequence$1CharIterator"), (5, .class_ 67), (0, u "java/lang/Object")] 63

/-- java/lang/CharSequence -/
def k4 : Class := { plain "java/lang/CharSequence" (some 0) with
  accessFlags := 1537
  interfaces := #[]
  cf := some (fileOf pool4 2 #[.nestMembers #[47, 59]] #[] 1537 66 #[] #[])
  fields := #[]
  methods := #[]
  instanceTypes := #[]
  staticTypes := #[]
  resolved := Array.replicate 131 none
  statics := none }

def pool5 : Array CpInfo := pool [(1, .class_ 2), (0, u "java/lang/constant/Constable"), (0, .class_ 4), (0, u "java/lang/Object")] 6

/-- java/lang/constant/Constable -/
def k5 : Class := { plain "java/lang/constant/Constable" (some 0) with
  accessFlags := 1537
  interfaces := #[]
  cf := some (fileOf pool5 1 #[] #[] 1537 3 #[] #[])
  fields := #[]
  methods := #[]
  instanceTypes := #[]
  staticTypes := #[]
  resolved := Array.replicate 11 none
  statics := none }

def pool6 : Array CpInfo := pool [(1, .class_ 2), (0, u "java/lang/constant/ConstantDesc"), (0, .class_ 4), (0, u "java/lang/Object")] 32

/-- java/lang/constant/ConstantDesc -/
def k6 : Class := { plain "java/lang/constant/ConstantDesc" (some 0) with
  accessFlags := 1537
  interfaces := #[]
  cf := some (fileOf pool6 1 #[] #[] 1537 3 #[] #[])
  fields := #[]
  methods := #[]
  instanceTypes := #[]
  staticTypes := #[]
  resolved := Array.replicate 37 none
  statics := none }

def pool7 : Array CpInfo := pool [(1, .methodref 2 3), (0, .class_ 4), (0, .nameAndType 5 6), (0, u "java/lang/Object"), (0, u "<init>"), (0, u "()V"), (0, .string 8), (0, u ""), (0, .fieldref 10 11), (0, .class_ 12), (0, .nameAndType 13 14), (0, u "java/lang/String"), (0, u "value"), (0, u "[B"), (0, .fieldref 10 16), (0, .nameAndType 17 18), (0, u "coder"), (0, u "B"), (2, u "hash"), (0, u "I"), (2, u "hashIsZero"), (0, u "Z"), (0, .methodref 10 28), (0, .nameAndType 5 29), (0, u "([CIILjava/lang/Void;)V"), (6, u "checkBoundsOffCount"), (0, u "(III)I"), (0, .fieldref 10 39), (0, .nameAndType 40 26), (0, u "COMPACT_STRINGS"), (1, .class_ 44), (1, u "java/lang/StringUTF16"), (0, u "compress"), (1, .methodref 42 48), (0, .nameAndType 49 50), (0, u "coderFromArrayLen"), (0, u "([BI)B"), (56, .class_ 109), (1, u "java/lang/StringLatin1"), (32, u "()Z"), (34, .methodref 42 178), (0, .nameAndType 45 179), (0, u "([CII)[B"), (31, u "([BB)V"), (122, u "()I"), (0, .methodref 10 336), (0, .nameAndType 17 337), (0, u "()B"), (25, u "([BI)C"), (27, u "(II)V"), (35, u "(I)C"), (64, .methodref 10 493), (0, .nameAndType 494 142), (0, u "isLatin1"), (0, .methodref 107 496), (0, .nameAndType 497 363), (0, u "charAt"), (0, .methodref 42 496), (2, u "checkIndex"), (3, .methodref 10 506), (0, .nameAndType 507 334), (0, u "length"), (5, u "checkFromToIndex"), (7, .methodref 10 522), (0, .nameAndType 523 524), (0, u "checkBoundsBeginEnd"), (0, u "(III)V"), (16, .methodref 107 542), (0, .nameAndType 543 544), (0, u "equals"), (0, u "([B[B)Z"), (28, u "(Ljava/lang/Object;)Z"), (1, .class_ 576), (0, u "java/lang/CharSequence"), (22, u "CASE_INSENSITIVE_ORDER"), (0, u "Ljava/util/Comparator;"), (80, .methodref 10 682), (0, .nameAndType 683 684), (0, u "substring"), (0, u "(II)Ljava/lang/String;"), (1, .nameAndType 687 688), (0, u "newString"), (0, u "([BII)Ljava/lang/String;"), (0, .methodref 42 686), (2, u "isEmpty"), (199, u "(I)Ljava/lang/String;"), (117, u "([C)V"), (42, .fieldref 1054 1055), (0, .class_ 1056), (0, .nameAndType 1057 1058), (0, u "jdk/internal/util/Preconditions"), (0, u "SIOOBE_FORMATTER"), (0, u "Ljava/util/function/BiFunction;"), (0, .methodref 1054 1060), (0, .nameAndType 501 1061), (0, u "(IILjava/util/function/BiFunction;)I"), (0, .methodref 1054 1063), (0, .nameAndType 513 1064), (0, u "(IIILjava/util/function/BiFunction;)I"), (0, .methodref 1054 1066), (0, .nameAndType 1067 1064), (0, u "checkFromIndexSize"), (33, u "serialPersistentFields"), (0, u "[Ljava/io/ObjectStreamField;"), (0, .class_ 1104), (0, u "java/lang/String$CaseInsensitiveComparator"), (1, .class_ 1107), (0, u "java/io/Serializable"), (0, .class_ 1109), (0, u "java/lang/Comparable"), (0, .class_ 1111), (0, u "java/lang/constant/Constable"), (0, .class_ 1113), (0, u "java/lang/constant/ConstantDesc"), (2, u "serialVersionUID"), (0, u "J"), (3, u "REPL"), (0, u "C"), (2, u "LATIN1"), (1, u "UTF16")] 323

def k7m0 : Method := { name := "<init>", desc := "()V", sig := { parameters := [], returnType := none }, accessFlags := 1, code := none }
def k7c1 : Code := { maxStack := 5, maxLocals := 2, code := jdk_42_method_3_code, exceptionTable := #[], attributes := #[] }
def k7m1 : Method := { name := "<init>", desc := "([C)V", sig := { parameters := [(.array .char)], returnType := none }, accessFlags := 1, code := some k7c1 }
def k7c2 : Code := { maxStack := 2, maxLocals := 1, code := jdk_42_method_54_code, exceptionTable := #[], attributes := #[] }
def k7m2 : Method := { name := "length", desc := "()I", sig := { parameters := [], returnType := some .int }, accessFlags := 1, code := some k7c2 }
def k7c3 : Code := { maxStack := 1, maxLocals := 1, code := jdk_42_method_55_code, exceptionTable := #[], attributes := #[] }
def k7m3 : Method := { name := "isEmpty", desc := "()Z", sig := { parameters := [], returnType := some .boolean }, accessFlags := 1, code := some k7c3 }
def k7c4 : Code := { maxStack := 2, maxLocals := 2, code := jdk_42_method_56_code, exceptionTable := #[], attributes := #[] }
def k7m4 : Method := { name := "charAt", desc := "(I)C", sig := { parameters := [.int], returnType := some .char }, accessFlags := 1, code := some k7c4 }
def k7c5 : Code := { maxStack := 2, maxLocals := 3, code := jdk_42_method_66_code, exceptionTable := #[], attributes := #[] }
def k7m5 : Method := { name := "equals", desc := "(Ljava/lang/Object;)Z", sig := { parameters := [(.object "java/lang/Object")], returnType := some .boolean }, accessFlags := 1, code := some k7c5 }
def k7c6 : Code := { maxStack := 3, maxLocals := 2, code := jdk_42_method_91_code, exceptionTable := #[], attributes := #[] }
def k7m6 : Method := { name := "substring", desc := "(I)Ljava/lang/String;", sig := { parameters := [.int], returnType := some (.object "java/lang/String") }, accessFlags := 1, code := some k7c6 }
def k7c7 : Code := { maxStack := 3, maxLocals := 5, code := jdk_42_method_92_code, exceptionTable := #[], attributes := #[] }
def k7m7 : Method := { name := "substring", desc := "(II)Ljava/lang/String;", sig := { parameters := [.int, .int], returnType := some (.object "java/lang/String") }, accessFlags := 1, code := some k7c7 }
def k7c8 : Code := { maxStack := 4, maxLocals := 6, code := jdk_42_method_149_code, exceptionTable := #[], attributes := #[] }
def k7m8 : Method := { name := "<init>", desc := "([CIILjava/lang/Void;)V", sig := { parameters := [(.array .char), .int, .int, (.object "java/lang/Void")], returnType := none }, accessFlags := 2, code := some k7c8 }
def k7c9 : Code := { maxStack := 2, maxLocals := 3, code := jdk_42_method_151_code, exceptionTable := #[], attributes := #[] }
def k7m9 : Method := { name := "<init>", desc := "([BB)V", sig := { parameters := [(.array .byte), .byte], returnType := none }, accessFlags := 0, code := some k7c9 }
def k7c10 : Code := { maxStack := 1, maxLocals := 1, code := jdk_42_method_152_code, exceptionTable := #[], attributes := #[] }
def k7m10 : Method := { name := "coder", desc := "()B", sig := { parameters := [], returnType := some .byte }, accessFlags := 0, code := some k7c10 }
def k7c11 : Code := { maxStack := 1, maxLocals := 1, code := jdk_42_method_154_code, exceptionTable := #[], attributes := #[] }
def k7m11 : Method := { name := "isLatin1", desc := "()Z", sig := { parameters := [], returnType := some .boolean }, accessFlags := 0, code := some k7c11 }
def k7c12 : Code := { maxStack := 3, maxLocals := 2, code := jdk_42_method_155_code, exceptionTable := #[], attributes := #[] }
def k7m12 : Method := { name := "checkIndex", desc := "(II)V", sig := { parameters := [.int, .int], returnType := none }, accessFlags := 8, code := some k7c12 }
def k7c13 : Code := { maxStack := 4, maxLocals := 3, code := jdk_42_method_157_code, exceptionTable := #[], attributes := #[] }
def k7m13 : Method := { name := "checkBoundsOffCount", desc := "(III)I", sig := { parameters := [.int, .int, .int], returnType := some .int }, accessFlags := 8, code := some k7c13 }
def k7c14 : Code := { maxStack := 4, maxLocals := 3, code := jdk_42_method_158_code, exceptionTable := #[], attributes := #[] }
def k7m14 : Method := { name := "checkBoundsBeginEnd", desc := "(III)V", sig := { parameters := [.int, .int, .int], returnType := none }, accessFlags := 8, code := some k7c14 }
/-- java/lang/String -/
def k7 : Class := { plain "java/lang/String" (some 0) with
  accessFlags := 49
  interfaces := #[2, 3, 4, 5, 6]
  cf := some (fileOf pool7 10 #[.nestMembers #[1103]] #[{ accessFlags := 1, nameIndex := 5, descriptorIndex := 6, attributes := #[] }, { accessFlags := 1, nameIndex := 5, descriptorIndex := 1010, attributes := #[] }, { accessFlags := 1, nameIndex := 507, descriptorIndex := 334, attributes := #[] }, { accessFlags := 1, nameIndex := 692, descriptorIndex := 142, attributes := #[] }, { accessFlags := 1, nameIndex := 497, descriptorIndex := 427, attributes := #[] }, { accessFlags := 1, nameIndex := 543, descriptorIndex := 573, attributes := #[] }, { accessFlags := 1, nameIndex := 683, descriptorIndex := 892, attributes := #[] }, { accessFlags := 1, nameIndex := 683, descriptorIndex := 684, attributes := #[] }, { accessFlags := 2, nameIndex := 5, descriptorIndex := 29, attributes := #[] }, { accessFlags := 0, nameIndex := 5, descriptorIndex := 211, attributes := #[] }, { accessFlags := 0, nameIndex := 17, descriptorIndex := 337, attributes := #[] }, { accessFlags := 0, nameIndex := 494, descriptorIndex := 142, attributes := #[] }, { accessFlags := 8, nameIndex := 501, descriptorIndex := 391, attributes := #[] }, { accessFlags := 8, nameIndex := 36, descriptorIndex := 37, attributes := #[] }, { accessFlags := 8, nameIndex := 523, descriptorIndex := 524, attributes := #[] }] 49 2 #[1106, 1108, 575, 1110, 1112] #[{ accessFlags := 18, nameIndex := 13, descriptorIndex := 14, attributes := #[] }, { accessFlags := 18, nameIndex := 17, descriptorIndex := 18, attributes := #[] }, { accessFlags := 2, nameIndex := 21, descriptorIndex := 22, attributes := #[] }, { accessFlags := 2, nameIndex := 25, descriptorIndex := 26, attributes := #[] }, { accessFlags := 26, nameIndex := 1116, descriptorIndex := 1117, attributes := #[] }, { accessFlags := 24, nameIndex := 40, descriptorIndex := 26, attributes := #[] }, { accessFlags := 26, nameIndex := 1101, descriptorIndex := 1102, attributes := #[] }, { accessFlags := 26, nameIndex := 1121, descriptorIndex := 1122, attributes := #[] }, { accessFlags := 25, nameIndex := 599, descriptorIndex := 600, attributes := #[] }, { accessFlags := 24, nameIndex := 1125, descriptorIndex := 18, attributes := #[] }, { accessFlags := 24, nameIndex := 1127, descriptorIndex := 18, attributes := #[] }])
  fields := #[{ name := "value", type := (.array .byte), accessFlags := 18, slot := 0, constantValue := 0 }, { name := "coder", type := .byte, accessFlags := 18, slot := 1, constantValue := 0 }, { name := "hash", type := .int, accessFlags := 2, slot := 2, constantValue := 0 }, { name := "hashIsZero", type := .boolean, accessFlags := 2, slot := 3, constantValue := 0 }, { name := "serialVersionUID", type := .long, accessFlags := 26, slot := 0, constantValue := 0 }, { name := "COMPACT_STRINGS", type := .boolean, accessFlags := 24, slot := 1, constantValue := 0 }, { name := "serialPersistentFields", type := (.array (.object "java/io/ObjectStreamField")), accessFlags := 26, slot := 2, constantValue := 0 }, { name := "REPL", type := .char, accessFlags := 26, slot := 3, constantValue := 0 }, { name := "CASE_INSENSITIVE_ORDER", type := (.object "java/util/Comparator"), accessFlags := 25, slot := 4, constantValue := 0 }, { name := "LATIN1", type := .byte, accessFlags := 24, slot := 5, constantValue := 0 }, { name := "UTF16", type := .byte, accessFlags := 24, slot := 6, constantValue := 0 }]
  methods := #[k7m0, k7m1, k7m2, k7m3, k7m4, k7m5, k7m6, k7m7, k7m8, k7m9, k7m10, k7m11, k7m12, k7m13, k7m14]
  instanceTypes := #[(.array .byte), .byte, .int, .boolean]
  staticTypes := #[.long, .boolean, (.array (.object "java/io/ObjectStreamField")), .char, (.object "java/util/Comparator"), .byte, .byte]
  resolved := Array.replicate 1451 none
  statics := some 0 }

def pool8 : Array CpInfo := pool [(3, .class_ 4), (0, u "java/lang/String"), (1, .class_ 8), (1, u "java/lang/Object"), (0, u "<init>"), (0, u "()V"), (0, .methodref 12 13), (0, .class_ 14), (0, .nameAndType 15 16), (0, u "java/lang/StringUTF16"), (0, u "newBytesLength"), (0, u "(I)I"), (3, .integer 1073741823), (23, .fieldref 12 45), (0, .nameAndType 46 47), (0, u "$assertionsDisabled"), (0, u "Z"), (0, .methodref 12 49), (0, .nameAndType 50 51), (0, u "length"), (0, u "([B)I"), (7, .fieldref 12 60), (0, .nameAndType 61 62), (0, u "HI_BYTE_SHIFT"), (0, u "I"), (0, .fieldref 12 64), (0, .nameAndType 65 62), (0, u "LO_BYTE_SHIFT"), (1, .methodref 12 68), (0, .nameAndType 69 70), (0, u "checkIndex"), (0, u "(I[B)V"), (0, .methodref 12 72), (0, .nameAndType 73 74), (0, u "getChar"), (0, u "([BI)C"), (24, u "(II[B)V"), (7, .methodref 12 108), (0, .nameAndType 109 110), (0, u "newBytesFor"), (0, u "(I)[B"), (0, .methodref 12 112), (0, .nameAndType 113 114), (0, u "putChar"), (0, u "([BII)V"), (0, .methodref 12 116), (0, .nameAndType 117 118), (0, u "compress"), (0, u "([CI[BII)I"), (0, .methodref 12 120), (0, .nameAndType 121 122), (0, u "toBytes"), (0, u "([CII)[B"), (0, .methodref 12 124), (0, .nameAndType 117 125), (0, u "([BI[BII)I"), (0, .methodref 127 128), (0, .class_ 129), (0, .nameAndType 130 131), (0, u "java/util/Arrays"), (0, u "copyOfRange"), (0, u "([BII)[B"), (41, .methodref 12 174), (0, .nameAndType 175 99), (0, u "checkBoundsOffCount"), (75, .fieldref 3 252), (0, .nameAndType 253 47), (0, u "COMPACT_STRINGS"), (3, .methodref 12 258), (0, .nameAndType 117 131), (0, .methodref 12 260), (0, .nameAndType 261 262), (0, u "coderFromArrayLen"), (0, u "([BI)B"), (0, .methodref 3 264), (0, .nameAndType 9 265), (0, u "([BB)V"), (15, u "(III)I"), (13, .string 296), (0, u ""), (30, u "newString"), (0, u "([BII)Ljava/lang/String;"), (40, .class_ 371), (1, u "java/lang/StringUTF16$LinesSpliterator"), (20, u "charAt"), (21, .methodref 3 415), (0, .nameAndType 69 416), (0, u "(II)V"), (2, .methodref 3 420), (0, .nameAndType 175 281), (9, u "MAX_LENGTH"), (196, .class_ 628), (0, u "java/lang/StringUTF16$CodePointsSpliterator"), (0, .class_ 630), (0, u "java/lang/StringUTF16$CharsSpliterator")] 4

def k8m0 : Method := { name := "<init>", desc := "()V", sig := { parameters := [], returnType := none }, accessFlags := 0, code := none }
def k8c1 : Code := { maxStack := 1, maxLocals := 1, code := jdk_52_method_2_code, exceptionTable := #[], attributes := #[] }
def k8m1 : Method := { name := "newBytesFor", desc := "(I)[B", sig := { parameters := [.int], returnType := some (.array .byte) }, accessFlags := 9, code := some k8c1 }
def k8c2 : Code := { maxStack := 4, maxLocals := 1, code := jdk_52_method_3_code, exceptionTable := #[], attributes := #[] }
def k8m2 : Method := { name := "newBytesLength", desc := "(I)I", sig := { parameters := [.int], returnType := some .int }, accessFlags := 9, code := some k8c2 }
def k8c3 : Code := { maxStack := 4, maxLocals := 3, code := jdk_52_method_4_code, exceptionTable := #[], attributes := #[] }
def k8m3 : Method := { name := "putChar", desc := "([BII)V", sig := { parameters := [(.array .byte), .int, .int], returnType := none }, accessFlags := 8, code := some k8c3 }
def k8c4 : Code := { maxStack := 3, maxLocals := 2, code := jdk_52_method_5_code, exceptionTable := #[], attributes := #[] }
def k8m4 : Method := { name := "getChar", desc := "([BI)C", sig := { parameters := [(.array .byte), .int], returnType := some .char }, accessFlags := 8, code := some k8c4 }
def k8c5 : Code := { maxStack := 2, maxLocals := 1, code := jdk_52_method_6_code, exceptionTable := #[], attributes := #[] }
def k8m5 : Method := { name := "length", desc := "([B)I", sig := { parameters := [(.array .byte)], returnType := some .int }, accessFlags := 9, code := some k8c5 }
def k8c6 : Code := { maxStack := 4, maxLocals := 5, code := jdk_52_method_14_code, exceptionTable := #[], attributes := #[] }
def k8m6 : Method := { name := "toBytes", desc := "([CII)[B", sig := { parameters := [(.array .char), .int, .int], returnType := some (.array .byte) }, accessFlags := 9, code := some k8c6 }
def k8c7 : Code := { maxStack := 2, maxLocals := 2, code := jdk_52_method_15_code, exceptionTable := #[], attributes := #[] }
def k8m7 : Method := { name := "coderFromArrayLen", desc := "([BI)B", sig := { parameters := [(.array .byte), .int], returnType := some .byte }, accessFlags := 8, code := some k8c7 }
def k8c8 : Code := { maxStack := 5, maxLocals := 6, code := jdk_52_method_16_code, exceptionTable := #[], attributes := #[] }
def k8m8 : Method := { name := "compress", desc := "([CII)[B", sig := { parameters := [(.array .char), .int, .int], returnType := some (.array .byte) }, accessFlags := 9, code := some k8c8 }
def k8c9 : Code := { maxStack := 5, maxLocals := 6, code := jdk_52_method_17_code, exceptionTable := #[], attributes := #[] }
def k8m9 : Method := { name := "compress", desc := "([BII)[B", sig := { parameters := [(.array .byte), .int, .int], returnType := some (.array .byte) }, accessFlags := 9, code := some k8c9 }
def k8c10 : Code := { maxStack := 3, maxLocals := 7, code := jdk_52_method_21_code, exceptionTable := #[], attributes := #[] }
def k8m10 : Method := { name := "compress", desc := "([CI[BII)I", sig := { parameters := [(.array .char), .int, (.array .byte), .int, .int], returnType := some .int }, accessFlags := 9, code := some k8c10 }
def k8c11 : Code := { maxStack := 3, maxLocals := 7, code := jdk_52_method_22_code, exceptionTable := #[], attributes := #[] }
def k8m11 : Method := { name := "compress", desc := "([BI[BII)I", sig := { parameters := [(.array .byte), .int, (.array .byte), .int, .int], returnType := some .int }, accessFlags := 9, code := some k8c11 }
def k8c12 : Code := { maxStack := 6, maxLocals := 5, code := jdk_52_method_69_code, exceptionTable := #[], attributes := #[] }
def k8m12 : Method := { name := "newString", desc := "([BII)Ljava/lang/String;", sig := { parameters := [(.array .byte), .int, .int], returnType := some (.object "java/lang/String") }, accessFlags := 9, code := some k8c12 }
def k8c13 : Code := { maxStack := 2, maxLocals := 2, code := jdk_52_method_83_code, exceptionTable := #[], attributes := #[] }
def k8m13 : Method := { name := "charAt", desc := "([BI)C", sig := { parameters := [(.array .byte), .int], returnType := some .char }, accessFlags := 9, code := some k8c13 }
def k8c14 : Code := { maxStack := 2, maxLocals := 2, code := jdk_52_method_91_code, exceptionTable := #[], attributes := #[] }
def k8m14 : Method := { name := "checkIndex", desc := "(I[B)V", sig := { parameters := [.int, (.array .byte)], returnType := none }, accessFlags := 9, code := some k8c14 }
def k8c15 : Code := { maxStack := 3, maxLocals := 3, code := jdk_52_method_94_code, exceptionTable := #[], attributes := #[] }
def k8m15 : Method := { name := "checkBoundsOffCount", desc := "(II[B)V", sig := { parameters := [.int, .int, (.array .byte)], returnType := none }, accessFlags := 9, code := some k8c15 }
/-- java/lang/StringUTF16 -/
def k8 : Class := { plain "java/lang/StringUTF16" (some 0) with
  accessFlags := 48
  interfaces := #[]
  cf := some (fileOf pool8 12 #[.nestMembers #[627, 629, 369]] #[{ accessFlags := 0, nameIndex := 9, descriptorIndex := 10, attributes := #[] }, { accessFlags := 9, nameIndex := 109, descriptorIndex := 110, attributes := #[] }, { accessFlags := 9, nameIndex := 15, descriptorIndex := 16, attributes := #[] }, { accessFlags := 8, nameIndex := 113, descriptorIndex := 114, attributes := #[] }, { accessFlags := 8, nameIndex := 73, descriptorIndex := 74, attributes := #[] }, { accessFlags := 9, nameIndex := 50, descriptorIndex := 51, attributes := #[] }, { accessFlags := 9, nameIndex := 121, descriptorIndex := 122, attributes := #[] }, { accessFlags := 8, nameIndex := 261, descriptorIndex := 262, attributes := #[] }, { accessFlags := 9, nameIndex := 117, descriptorIndex := 122, attributes := #[] }, { accessFlags := 9, nameIndex := 117, descriptorIndex := 131, attributes := #[] }, { accessFlags := 9, nameIndex := 117, descriptorIndex := 118, attributes := #[] }, { accessFlags := 9, nameIndex := 117, descriptorIndex := 125, attributes := #[] }, { accessFlags := 9, nameIndex := 327, descriptorIndex := 328, attributes := #[] }, { accessFlags := 9, nameIndex := 392, descriptorIndex := 74, attributes := #[] }, { accessFlags := 9, nameIndex := 69, descriptorIndex := 70, attributes := #[] }, { accessFlags := 9, nameIndex := 175, descriptorIndex := 99, attributes := #[] }] 48 6 #[] #[{ accessFlags := 26, nameIndex := 61, descriptorIndex := 62, attributes := #[] }, { accessFlags := 26, nameIndex := 65, descriptorIndex := 62, attributes := #[] }, { accessFlags := 24, nameIndex := 430, descriptorIndex := 62, attributes := #[] }, { accessFlags := 4120, nameIndex := 46, descriptorIndex := 47, attributes := #[] }])
  fields := #[{ name := "HI_BYTE_SHIFT", type := .int, accessFlags := 26, slot := 0, constantValue := 0 }, { name := "LO_BYTE_SHIFT", type := .int, accessFlags := 26, slot := 1, constantValue := 0 }, { name := "MAX_LENGTH", type := .int, accessFlags := 24, slot := 2, constantValue := 0 }, { name := "$assertionsDisabled", type := .boolean, accessFlags := 4120, slot := 3, constantValue := 0 }]
  methods := #[k8m0, k8m1, k8m2, k8m3, k8m4, k8m5, k8m6, k8m7, k8m8, k8m9, k8m10, k8m11, k8m12, k8m13, k8m14, k8m15]
  instanceTypes := #[]
  staticTypes := #[.int, .int, .int, .boolean]
  resolved := Array.replicate 635 none
  statics := some 1 }

def pool9 : Array CpInfo := pool [(2, .class_ 4), (1, u "java/lang/Object"), (0, u "<init>"), (0, u "()V"), (35, .class_ 44), (1, u "com/example/winnow/winnow/io/TextFiles"), (27, .methodref 73 74), (0, .class_ 75), (0, .nameAndType 76 77), (0, u "java/lang/String"), (0, u "isEmpty"), (0, u "()Z"), (0, .methodref 73 79), (0, .nameAndType 80 81), (0, u "charAt"), (0, u "(I)C"), (0, .integer 65279), (0, .methodref 73 84), (0, .nameAndType 85 86), (0, u "substring"), (0, u "(I)Ljava/lang/String;"), (0, u "BYTE_ORDER_MARK"), (0, u "C"), (13, u "withoutByteOrderMark"), (0, u "(Ljava/lang/String;)Ljava/lang/String;")] 4

def k9m0 : Method := { name := "<init>", desc := "()V", sig := { parameters := [], returnType := none }, accessFlags := 2, code := none }
def k9c1 : Code := { maxStack := 2, maxLocals := 1, code := prog_38_method_5_code, exceptionTable := #[], attributes := #[] }
def k9m1 : Method := { name := "withoutByteOrderMark", desc := "(Ljava/lang/String;)Ljava/lang/String;", sig := { parameters := [(.object "java/lang/String")], returnType := some (.object "java/lang/String") }, accessFlags := 9, code := some k9c1 }
/-- com/example/winnow/winnow/io/TextFiles -/
def k9 : Class := { plain "com/example/winnow/winnow/io/TextFiles" (some 0) with
  accessFlags := 49
  interfaces := #[]
  cf := some (fileOf pool9 42 #[] #[{ accessFlags := 2, nameIndex := 5, descriptorIndex := 6, attributes := #[] }, { accessFlags := 9, nameIndex := 102, descriptorIndex := 103, attributes := #[] }] 49 2 #[] #[{ accessFlags := 24, nameIndex := 87, descriptorIndex := 88, attributes := #[] }])
  fields := #[{ name := "BYTE_ORDER_MARK", type := .char, accessFlags := 24, slot := 0, constantValue := 0 }]
  methods := #[k9m0, k9m1]
  instanceTypes := #[]
  staticTypes := #[.char]
  resolved := Array.replicate 108 none
  statics := none }

def pool10 : Array CpInfo := pool [(1, .class_ 2), (0, u "java/lang/String"), (1, .class_ 6), (1, u "java/lang/Object"), (0, u "<init>"), (0, u "()V"), (0, .methodref 1 10), (0, .nameAndType 11 12), (0, u "checkIndex"), (0, u "(II)V"), (1, .class_ 16), (1, u "java/lang/StringLatin1"), (36, u "([BI)C"), (67, u "$assertionsDisabled"), (0, u "Z"), (98, .class_ 223), (1, u "java/lang/StringLatin1$LinesSpliterator"), (28, u "charAt"), (28, u "equals"), (0, u "([B[B)Z"), (107, .class_ 391), (0, u "java/lang/StringLatin1$CharsSpliterator")] 3

def k10m0 : Method := { name := "<init>", desc := "()V", sig := { parameters := [], returnType := none }, accessFlags := 0, code := none }
def k10c1 : Code := { maxStack := 2, maxLocals := 2, code := jdk_43_method_2_code, exceptionTable := #[], attributes := #[] }
def k10m1 : Method := { name := "charAt", desc := "([BI)C", sig := { parameters := [(.array .byte), .int], returnType := some .char }, accessFlags := 9, code := some k10c1 }
def k10c2 : Code := { maxStack := 3, maxLocals := 3, code := jdk_43_method_13_code, exceptionTable := #[], attributes := #[] }
def k10m2 : Method := { name := "equals", desc := "([B[B)Z", sig := { parameters := [(.array .byte), (.array .byte)], returnType := some .boolean }, accessFlags := 9, code := some k10c2 }
/-- java/lang/StringLatin1 -/
def k10 : Class := { plain "java/lang/StringLatin1" (some 0) with
  accessFlags := 48
  interfaces := #[]
  cf := some (fileOf pool10 14 #[.nestMembers #[390, 221]] #[{ accessFlags := 0, nameIndex := 7, descriptorIndex := 8, attributes := #[] }, { accessFlags := 9, nameIndex := 252, descriptorIndex := 53, attributes := #[] }, { accessFlags := 9, nameIndex := 281, descriptorIndex := 282, attributes := #[] }] 48 4 #[] #[{ accessFlags := 4120, nameIndex := 121, descriptorIndex := 122, attributes := #[] }])
  fields := #[{ name := "$assertionsDisabled", type := .boolean, accessFlags := 4120, slot := 0, constantValue := 0 }]
  methods := #[k10m0, k10m1, k10m2]
  instanceTypes := #[]
  staticTypes := #[.boolean]
  resolved := Array.replicate 395 none
  statics := none }

def pool11 : Array CpInfo := pool [(2, .class_ 4), (1, u "java/lang/Object"), (0, u "<init>"), (0, u "()V"), (17, .class_ 26), (1, u "jdk/internal/util/Preconditions"), (6, u "checkIndex"), (13, u "checkFromToIndex"), (1, u "checkFromIndexSize"), (5, .class_ 56), (0, u "jdk/internal/util/Preconditions$4"), (57, .class_ 115), (0, u "jdk/internal/util/Preconditions$1"), (7, u "SIOOBE_FORMATTER"), (0, u "Ljava/util/function/BiFunction;"), (0, .class_ 126), (0, u "jdk/internal/util/Preconditions$2"), (3, u "AIOOBE_FORMATTER"), (0, .class_ 132), (0, u "jdk/internal/util/Preconditions$3"), (3, u "IOOBE_FORMATTER"), (41, u "(IILjava/util/function/BiFunction;)I"), (4, u "(IIILjava/util/function/BiFunction;)I")] 10

def k11m0 : Method := { name := "<init>", desc := "()V", sig := { parameters := [], returnType := none }, accessFlags := 1, code := none }
def k11c1 : Code := { maxStack := 3, maxLocals := 3, code := jdk_41_method_11_code, exceptionTable := #[], attributes := #[] }
def k11m1 : Method := { name := "checkIndex", desc := "(IILjava/util/function/BiFunction;)I", sig := { parameters := [.int, .int, (.object "java/util/function/BiFunction")], returnType := some .int }, accessFlags := 9, code := some k11c1 }
def k11c2 : Code := { maxStack := 4, maxLocals := 4, code := jdk_41_method_12_code, exceptionTable := #[], attributes := #[] }
def k11m2 : Method := { name := "checkFromToIndex", desc := "(IIILjava/util/function/BiFunction;)I", sig := { parameters := [.int, .int, .int, (.object "java/util/function/BiFunction")], returnType := some .int }, accessFlags := 9, code := some k11c2 }
def k11c3 : Code := { maxStack := 4, maxLocals := 4, code := jdk_41_method_13_code, exceptionTable := #[], attributes := #[] }
def k11m3 : Method := { name := "checkFromIndexSize", desc := "(IIILjava/util/function/BiFunction;)I", sig := { parameters := [.int, .int, .int, (.object "java/util/function/BiFunction")], returnType := some .int }, accessFlags := 9, code := some k11c3 }
/-- jdk/internal/util/Preconditions -/
def k11 : Class := { plain "jdk/internal/util/Preconditions" (some 0) with
  accessFlags := 33
  interfaces := #[]
  cf := some (fileOf pool11 24 #[.nestMembers #[55, 131, 125, 114]] #[{ accessFlags := 1, nameIndex := 5, descriptorIndex := 6, attributes := #[] }, { accessFlags := 9, nameIndex := 33, descriptorIndex := 178, attributes := #[] }, { accessFlags := 9, nameIndex := 47, descriptorIndex := 183, attributes := #[] }, { accessFlags := 9, nameIndex := 49, descriptorIndex := 183, attributes := #[] }] 33 2 #[] #[{ accessFlags := 25, nameIndex := 123, descriptorIndex := 124, attributes := #[] }, { accessFlags := 25, nameIndex := 130, descriptorIndex := 124, attributes := #[] }, { accessFlags := 25, nameIndex := 136, descriptorIndex := 124, attributes := #[] }])
  fields := #[{ name := "SIOOBE_FORMATTER", type := (.object "java/util/function/BiFunction"), accessFlags := 25, slot := 0, constantValue := 0 }, { name := "AIOOBE_FORMATTER", type := (.object "java/util/function/BiFunction"), accessFlags := 25, slot := 1, constantValue := 0 }, { name := "IOOBE_FORMATTER", type := (.object "java/util/function/BiFunction"), accessFlags := 25, slot := 2, constantValue := 0 }]
  methods := #[k11m0, k11m1, k11m2, k11m3]
  instanceTypes := #[]
  staticTypes := #[(.object "java/util/function/BiFunction"), (.object "java/util/function/BiFunction"), (.object "java/util/function/BiFunction")]
  resolved := Array.replicate 194 none
  statics := some 2 }

def pool12 : Array CpInfo := pool [(2, .class_ 4), (1, u "java/lang/Object"), (0, u "<init>"), (0, u "()V"), (7, .class_ 16), (1, u "java/util/Arrays"), (57, .class_ 76), (1, u "java/util/Arrays$NaturalOrder"), (36, .class_ 115), (1, u "java/util/Arrays$LegacyMergeSort"), (1, u "Z"), (21, u "copyOfRange"), (10, .methodref 151 152), (0, .class_ 153), (0, .nameAndType 154 155), (0, u "java/lang/System"), (0, u "arraycopy"), (0, u "(Ljava/lang/Object;ILjava/lang/Object;II)V"), (148, .methodref 305 306), (0, .class_ 307), (0, .nameAndType 308 309), (0, u "java/lang/Math"), (0, u "min"), (0, u "(II)I"), (29, .methodref 14 340), (0, .nameAndType 341 342), (0, u "copyOfRangeByte"), (0, u "([BII)[B"), (0, .methodref 14 344), (0, .nameAndType 345 346), (0, u "checkLength"), (0, u "(II)V"), (28, .class_ 376), (0, u "java/util/Arrays$ArrayList"), (68, u "$assertionsDisabled"), (269, u "MIN_ARRAY_SORT_GRAN"), (0, u "I"), (2, u "INSERTIONSORT_THRESHOLD"), (255, .class_ 976), (0, u "java/util/Arrays$ArrayItr")] 52

def k12m0 : Method := { name := "<init>", desc := "()V", sig := { parameters := [], returnType := none }, accessFlags := 2, code := none }
def k12c1 : Code := { maxStack := 4, maxLocals := 2, code := jdk_65_method_131_code, exceptionTable := #[], attributes := #[] }
def k12m1 : Method := { name := "checkLength", desc := "(II)V", sig := { parameters := [.int, .int], returnType := none }, accessFlags := 10, code := some k12c1 }
def k12c2 : Code := { maxStack := 3, maxLocals := 3, code := jdk_65_method_132_code, exceptionTable := #[], attributes := #[] }
def k12m2 : Method := { name := "copyOfRange", desc := "([BII)[B", sig := { parameters := [(.array .byte), .int, .int], returnType := some (.array .byte) }, accessFlags := 9, code := some k12c2 }
def k12c3 : Code := { maxStack := 6, maxLocals := 5, code := jdk_65_method_133_code, exceptionTable := #[], attributes := #[] }
def k12m3 : Method := { name := "copyOfRangeByte", desc := "([BII)[B", sig := { parameters := [(.array .byte), .int, .int], returnType := some (.array .byte) }, accessFlags := 10, code := some k12c3 }
/-- java/util/Arrays -/
def k12 : Class := { plain "java/util/Arrays" (some 0) with
  accessFlags := 49
  interfaces := #[]
  cf := some (fileOf pool12 14 #[.nestMembers #[975, 375, 113, 74]] #[{ accessFlags := 2, nameIndex := 5, descriptorIndex := 6, attributes := #[] }, { accessFlags := 10, nameIndex := 345, descriptorIndex := 346, attributes := #[] }, { accessFlags := 9, nameIndex := 139, descriptorIndex := 342, attributes := #[] }, { accessFlags := 10, nameIndex := 341, descriptorIndex := 342, attributes := #[] }] 49 2 #[] #[{ accessFlags := 26, nameIndex := 715, descriptorIndex := 716, attributes := #[] }, { accessFlags := 26, nameIndex := 719, descriptorIndex := 716, attributes := #[] }, { accessFlags := 4120, nameIndex := 445, descriptorIndex := 117, attributes := #[] }])
  fields := #[{ name := "MIN_ARRAY_SORT_GRAN", type := .int, accessFlags := 26, slot := 0, constantValue := 0 }, { name := "INSERTIONSORT_THRESHOLD", type := .int, accessFlags := 26, slot := 1, constantValue := 0 }, { name := "$assertionsDisabled", type := .boolean, accessFlags := 4120, slot := 2, constantValue := 0 }]
  methods := #[k12m0, k12m1, k12m2, k12m3]
  instanceTypes := #[]
  staticTypes := #[.int, .int, .boolean]
  resolved := Array.replicate 1029 none
  statics := none }

def pool13 : Array CpInfo := pool [(1, .class_ 2), (0, u "java/lang/Math"), (1, .class_ 6), (1, u "java/lang/Object"), (0, u "<init>"), (0, u "()V"), (89, .class_ 100), (1, u "java/lang/Math$RandomNumberGeneratorHolder"), (71, u "negativeZeroFloatBits"), (0, u "J"), (2, u "negativeZeroDoubleBits"), (24, u "min"), (43, u "$assertionsDisabled"), (0, u "Z"), (88, u "(II)I"), (2, u "twoToTheDoubleScaleDown"), (0, u "D"), (4, u "twoToTheDoubleScaleUp"), (9, u "E"), (3, u "PI"), (2, u "TAU"), (2, u "DEGREES_TO_RADIANS"), (0, u "RADIANS_TO_DEGREES")] 94

def k13m0 : Method := { name := "<init>", desc := "()V", sig := { parameters := [], returnType := none }, accessFlags := 2, code := none }
def k13c1 : Code := { maxStack := 2, maxLocals := 2, code := jdk_29_method_69_code, exceptionTable := #[], attributes := #[] }
def k13m1 : Method := { name := "min", desc := "(II)I", sig := { parameters := [.int, .int], returnType := some .int }, accessFlags := 9, code := some k13c1 }
/-- java/lang/Math -/
def k13 : Class := { plain "java/lang/Math" (some 0) with
  accessFlags := 49
  interfaces := #[]
  cf := some (fileOf pool13 1 #[.nestMembers #[98]] #[{ accessFlags := 2, nameIndex := 7, descriptorIndex := 8, attributes := #[] }, { accessFlags := 9, nameIndex := 201, descriptorIndex := 335, attributes := #[] }] 49 4 #[] #[{ accessFlags := 25, nameIndex := 354, descriptorIndex := 339, attributes := #[] }, { accessFlags := 25, nameIndex := 358, descriptorIndex := 339, attributes := #[] }, { accessFlags := 25, nameIndex := 361, descriptorIndex := 339, attributes := #[] }, { accessFlags := 26, nameIndex := 364, descriptorIndex := 339, attributes := #[] }, { accessFlags := 26, nameIndex := 365, descriptorIndex := 339, attributes := #[] }, { accessFlags := 26, nameIndex := 172, descriptorIndex := 173, attributes := #[] }, { accessFlags := 26, nameIndex := 176, descriptorIndex := 173, attributes := #[] }, { accessFlags := 8, nameIndex := 344, descriptorIndex := 339, attributes := #[] }, { accessFlags := 8, nameIndex := 338, descriptorIndex := 339, attributes := #[] }, { accessFlags := 4120, nameIndex := 245, descriptorIndex := 246, attributes := #[] }])
  fields := #[{ name := "E", type := .double, accessFlags := 25, slot := 0, constantValue := 0 }, { name := "PI", type := .double, accessFlags := 25, slot := 1, constantValue := 0 }, { name := "TAU", type := .double, accessFlags := 25, slot := 2, constantValue := 0 }, { name := "DEGREES_TO_RADIANS", type := .double, accessFlags := 26, slot := 3, constantValue := 0 }, { name := "RADIANS_TO_DEGREES", type := .double, accessFlags := 26, slot := 4, constantValue := 0 }, { name := "negativeZeroFloatBits", type := .long, accessFlags := 26, slot := 5, constantValue := 0 }, { name := "negativeZeroDoubleBits", type := .long, accessFlags := 26, slot := 6, constantValue := 0 }, { name := "twoToTheDoubleScaleUp", type := .double, accessFlags := 8, slot := 7, constantValue := 0 }, { name := "twoToTheDoubleScaleDown", type := .double, accessFlags := 8, slot := 8, constantValue := 0 }, { name := "$assertionsDisabled", type := .boolean, accessFlags := 4120, slot := 9, constantValue := 0 }]
  methods := #[k13m0, k13m1]
  instanceTypes := #[]
  staticTypes := #[.double, .double, .double, .double, .double, .long, .long, .double, .double, .boolean]
  resolved := Array.replicate 460 none
  statics := none }

def pool14 : Array CpInfo := pool [(2, .class_ 4), (1, u "java/lang/Object"), (0, u "<init>"), (0, u "()V"), (1, .class_ 10), (1, u "java/lang/System"), (0, u "allowSecurityManager"), (0, u "I"), (16, u "cons"), (0, u "Ljava/io/Console;"), (77, .class_ 110), (1, u "java/lang/System$CallersHolder"), (43, u "initialErrStream"), (0, u "Ljava/io/PrintStream;"), (19, u "security"), (0, u "Ljava/lang/SecurityManager;"), (31, .class_ 209), (0, u "java/lang/System$1"), (7, u "props"), (0, u "Ljava/util/Properties;"), (2, u "lineSeparator"), (0, u "Ljava/lang/String;"), (96, .class_ 321), (1, u "java/lang/System$LoggerFinder"), (5, .class_ 328), (0, u "java/lang/System$Logger"), (67, u "err"), (2, u "out"), (91, u "notSupportedJnuEncoding"), (15, u "in"), (17, u "initialIn"), (0, u "Ljava/io/InputStream;"), (35, u "bootLayer"), (0, u "Ljava/lang/ModuleLayer;"), (99, .class_ 664), (0, u "java/lang/System$2"), (9, u "NEVER"), (2, u "MAYBE"), (49, u "arraycopy"), (0, u "(Ljava/lang/Object;ILjava/lang/Object;II)V"), (72, .class_ 802), (0, u "java/lang/System$Logger$Level")] 31

def k14m0 : Method := { name := "<init>", desc := "()V", sig := { parameters := [], returnType := none }, accessFlags := 2, code := none }
def k14m1 : Method := { name := "arraycopy", desc := "(Ljava/lang/Object;ILjava/lang/Object;II)V", sig := { parameters := [(.object "java/lang/Object"), .int, (.object "java/lang/Object"), .int, .int], returnType := none }, accessFlags := 265, code := none }
/-- java/lang/System -/
def k14 : Class := { plain "java/lang/System" (some 0) with
  accessFlags := 49
  interfaces := #[]
  cf := some (fileOf pool14 8 #[.nestMembers #[319, 327, 801, 108, 663, 208]] #[{ accessFlags := 2, nameIndex := 5, descriptorIndex := 6, attributes := #[] }, { accessFlags := 265, nameIndex := 727, descriptorIndex := 728, attributes := #[] }] 49 2 #[] #[{ accessFlags := 25, nameIndex := 507, descriptorIndex := 526, attributes := #[] }, { accessFlags := 25, nameIndex := 399, descriptorIndex := 155, attributes := #[] }, { accessFlags := 25, nameIndex := 396, descriptorIndex := 155, attributes := #[] }, { accessFlags := 10, nameIndex := 525, descriptorIndex := 526, attributes := #[] }, { accessFlags := 26, nameIndex := 674, descriptorIndex := 12, attributes := #[] }, { accessFlags := 26, nameIndex := 677, descriptorIndex := 12, attributes := #[] }, { accessFlags := 10, nameIndex := 11, descriptorIndex := 12, attributes := #[] }, { accessFlags := 74, nameIndex := 175, descriptorIndex := 176, attributes := #[] }, { accessFlags := 10, nameIndex := 491, descriptorIndex := 222, attributes := #[] }, { accessFlags := 74, nameIndex := 29, descriptorIndex := 30, attributes := #[] }, { accessFlags := 74, nameIndex := 154, descriptorIndex := 155, attributes := #[] }, { accessFlags := 10, nameIndex := 217, descriptorIndex := 218, attributes := #[] }, { accessFlags := 10, nameIndex := 221, descriptorIndex := 222, attributes := #[] }, { accessFlags := 8, nameIndex := 562, descriptorIndex := 563, attributes := #[] }])
  fields := #[{ name := "in", type := (.object "java/io/InputStream"), accessFlags := 25, slot := 0, constantValue := 0 }, { name := "out", type := (.object "java/io/PrintStream"), accessFlags := 25, slot := 1, constantValue := 0 }, { name := "err", type := (.object "java/io/PrintStream"), accessFlags := 25, slot := 2, constantValue := 0 }, { name := "initialIn", type := (.object "java/io/InputStream"), accessFlags := 10, slot := 3, constantValue := 0 }, { name := "NEVER", type := .int, accessFlags := 26, slot := 4, constantValue := 0 }, { name := "MAYBE", type := .int, accessFlags := 26, slot := 5, constantValue := 0 }, { name := "allowSecurityManager", type := .int, accessFlags := 10, slot := 6, constantValue := 0 }, { name := "security", type := (.object "java/lang/SecurityManager"), accessFlags := 74, slot := 7, constantValue := 0 }, { name := "notSupportedJnuEncoding", type := (.object "java/lang/String"), accessFlags := 10, slot := 8, constantValue := 0 }, { name := "cons", type := (.object "java/io/Console"), accessFlags := 74, slot := 9, constantValue := 0 }, { name := "initialErrStream", type := (.object "java/io/PrintStream"), accessFlags := 74, slot := 10, constantValue := 0 }, { name := "props", type := (.object "java/util/Properties"), accessFlags := 10, slot := 11, constantValue := 0 }, { name := "lineSeparator", type := (.object "java/lang/String"), accessFlags := 10, slot := 12, constantValue := 0 }, { name := "bootLayer", type := (.object "java/lang/ModuleLayer"), accessFlags := 8, slot := 13, constantValue := 0 }]
  methods := #[k14m0, k14m1]
  instanceTypes := #[]
  staticTypes := #[(.object "java/io/InputStream"), (.object "java/io/PrintStream"), (.object "java/io/PrintStream"), (.object "java/io/InputStream"), .int, .int, .int, (.object "java/lang/SecurityManager"), (.object "java/lang/String"), (.object "java/io/Console"), (.object "java/io/PrintStream"), (.object "java/util/Properties"), (.object "java/lang/String"), (.object "java/lang/ModuleLayer")]
  resolved := Array.replicate 834 none
  statics := none }

def pool15 : Array CpInfo := pool [(9, u "<init>"), (6, .class_ 18), (1, u "java/lang/Object"), (0, u "()V"), (1, .class_ 23), (1, u "jdk/internal/util/ArraysSupport"), (0, u "LOG2_ARRAY_LONG_INDEX_SCALE"), (0, u "I"), (2, u "U"), (0, u "Ljdk/internal/misc/Unsafe;"), (8, u "BIG_ENDIAN"), (0, u "Z"), (8, u "LOG2_BYTE_BIT_SIZE"), (4, u "LOG2_ARRAY_INT_INDEX_SCALE"), (54, u "JLA"), (0, u "Ljdk/internal/access/JavaLangAccess;"), (11, u "LOG2_ARRAY_BOOLEAN_INDEX_SCALE"), (9, u "LOG2_ARRAY_BYTE_INDEX_SCALE"), (5, u "LOG2_ARRAY_CHAR_INDEX_SCALE"), (5, u "LOG2_ARRAY_SHORT_INDEX_SCALE"), (18, u "LOG2_ARRAY_FLOAT_INDEX_SCALE"), (24, u "LOG2_ARRAY_DOUBLE_INDEX_SCALE"), (89, u "T_BOOLEAN"), (2, u "T_CHAR"), (1, u "T_FLOAT"), (1, u "T_DOUBLE"), (1, u "T_BYTE"), (1, u "T_SHORT"), (1, u "T_INT"), (1, u "T_LONG"), (1, u "SOFT_MAX_ARRAY_LENGTH")] 83

def k15m0 : Method := { name := "<init>", desc := "()V", sig := { parameters := [], returnType := none }, accessFlags := 2, code := none }
/-- jdk/internal/util/ArraysSupport -/
def k15 : Class := { plain "jdk/internal/util/ArraysSupport" (some 0) with
  accessFlags := 33
  interfaces := #[]
  cf := some (fileOf pool15 21 #[] #[{ accessFlags := 2, nameIndex := 9, descriptorIndex := 19, attributes := #[] }] 33 16 #[] #[{ accessFlags := 24, nameIndex := 28, descriptorIndex := 29, attributes := #[] }, { accessFlags := 26, nameIndex := 38, descriptorIndex := 39, attributes := #[] }, { accessFlags := 25, nameIndex := 121, descriptorIndex := 25, attributes := #[] }, { accessFlags := 25, nameIndex := 131, descriptorIndex := 25, attributes := #[] }, { accessFlags := 25, nameIndex := 137, descriptorIndex := 25, attributes := #[] }, { accessFlags := 25, nameIndex := 143, descriptorIndex := 25, attributes := #[] }, { accessFlags := 25, nameIndex := 53, descriptorIndex := 25, attributes := #[] }, { accessFlags := 25, nameIndex := 24, descriptorIndex := 25, attributes := #[] }, { accessFlags := 25, nameIndex := 162, descriptorIndex := 25, attributes := #[] }, { accessFlags := 25, nameIndex := 187, descriptorIndex := 25, attributes := #[] }, { accessFlags := 26, nameIndex := 48, descriptorIndex := 25, attributes := #[] }, { accessFlags := 25, nameIndex := 277, descriptorIndex := 25, attributes := #[] }, { accessFlags := 25, nameIndex := 280, descriptorIndex := 25, attributes := #[] }, { accessFlags := 25, nameIndex := 282, descriptorIndex := 25, attributes := #[] }, { accessFlags := 25, nameIndex := 284, descriptorIndex := 25, attributes := #[] }, { accessFlags := 25, nameIndex := 286, descriptorIndex := 25, attributes := #[] }, { accessFlags := 25, nameIndex := 288, descriptorIndex := 25, attributes := #[] }, { accessFlags := 25, nameIndex := 290, descriptorIndex := 25, attributes := #[] }, { accessFlags := 25, nameIndex := 292, descriptorIndex := 25, attributes := #[] }, { accessFlags := 26, nameIndex := 108, descriptorIndex := 109, attributes := #[] }, { accessFlags := 25, nameIndex := 294, descriptorIndex := 25, attributes := #[] }])
  fields := #[{ name := "U", type := (.object "jdk/internal/misc/Unsafe"), accessFlags := 24, slot := 0, constantValue := 0 }, { name := "BIG_ENDIAN", type := .boolean, accessFlags := 26, slot := 1, constantValue := 0 }, { name := "LOG2_ARRAY_BOOLEAN_INDEX_SCALE", type := .int, accessFlags := 25, slot := 2, constantValue := 0 }, { name := "LOG2_ARRAY_BYTE_INDEX_SCALE", type := .int, accessFlags := 25, slot := 3, constantValue := 0 }, { name := "LOG2_ARRAY_CHAR_INDEX_SCALE", type := .int, accessFlags := 25, slot := 4, constantValue := 0 }, { name := "LOG2_ARRAY_SHORT_INDEX_SCALE", type := .int, accessFlags := 25, slot := 5, constantValue := 0 }, { name := "LOG2_ARRAY_INT_INDEX_SCALE", type := .int, accessFlags := 25, slot := 6, constantValue := 0 }, { name := "LOG2_ARRAY_LONG_INDEX_SCALE", type := .int, accessFlags := 25, slot := 7, constantValue := 0 }, { name := "LOG2_ARRAY_FLOAT_INDEX_SCALE", type := .int, accessFlags := 25, slot := 8, constantValue := 0 }, { name := "LOG2_ARRAY_DOUBLE_INDEX_SCALE", type := .int, accessFlags := 25, slot := 9, constantValue := 0 }, { name := "LOG2_BYTE_BIT_SIZE", type := .int, accessFlags := 26, slot := 10, constantValue := 0 }, { name := "T_BOOLEAN", type := .int, accessFlags := 25, slot := 11, constantValue := 0 }, { name := "T_CHAR", type := .int, accessFlags := 25, slot := 12, constantValue := 0 }, { name := "T_FLOAT", type := .int, accessFlags := 25, slot := 13, constantValue := 0 }, { name := "T_DOUBLE", type := .int, accessFlags := 25, slot := 14, constantValue := 0 }, { name := "T_BYTE", type := .int, accessFlags := 25, slot := 15, constantValue := 0 }, { name := "T_SHORT", type := .int, accessFlags := 25, slot := 16, constantValue := 0 }, { name := "T_INT", type := .int, accessFlags := 25, slot := 17, constantValue := 0 }, { name := "T_LONG", type := .int, accessFlags := 25, slot := 18, constantValue := 0 }, { name := "JLA", type := (.object "jdk/internal/access/JavaLangAccess"), accessFlags := 26, slot := 19, constantValue := 0 }, { name := "SOFT_MAX_ARRAY_LENGTH", type := .int, accessFlags := 25, slot := 20, constantValue := 0 }]
  methods := #[k15m0]
  instanceTypes := #[]
  staticTypes := #[(.object "jdk/internal/misc/Unsafe"), .boolean, .int, .int, .int, .int, .int, .int, .int, .int, .int, .int, .int, .int, .int, .int, .int, .int, .int, (.object "jdk/internal/access/JavaLangAccess"), .int]
  resolved := Array.replicate 378 none
  statics := none }

def pool16 : Array CpInfo := pool [(1, u "java/lang/Cloneable"), (0, .class_ 1), (0, u "java/lang/Object"), (0, .class_ 3)] 3

/-- java/lang/Cloneable -/
def k16 : Class := { plain "java/lang/Cloneable" (some 0) with
  accessFlags := 1537
  interfaces := #[]
  cf := some (fileOf pool16 2 #[] #[] 1537 4 #[] #[])
  fields := #[]
  methods := #[]
  instanceTypes := #[]
  staticTypes := #[]
  resolved := Array.replicate 8 none
  statics := none }

/-- the primitive byte -/
def k17 : Class := { plain "byte" none with kind := .primitive 'B', accessFlags := 0x411 }
/-- [B -/
def k18 : Class := { plain "[B" (some 0) with kind := .array 17 .byte, interfaces := #[16, 2], accessFlags := 1041 }

/-- the primitive char -/
def k19 : Class := { plain "char" none with kind := .primitive 'C', accessFlags := 0x411 }
/-- [C -/
def k20 : Class := { plain "[C" (some 0) with kind := .array 19 .char, interfaces := #[16, 2], accessFlags := 1041 }

/-- the primitive int -/
def k21 : Class := { plain "int" none with kind := .primitive 'I', accessFlags := 0x411 }
/-- [I -/
def k22 : Class := { plain "[I" (some 0) with kind := .array 21 .int, interfaces := #[16, 2], accessFlags := 1041 }

def heap : Heap := #[{ cls := 7, slots := #[.long 0, .int 1, .null, .int 0, .null, .int 0, .int 0], vm := .statics 7 },
  { cls := 8, slots := #[.int 0, .int 8, .int 0, .int 1], vm := .statics 8 },
  { cls := 11, slots := #[.null, .null, .null], vm := .statics 11 }]
def classes : Array Class := #[k0, k1, k2, k3, k4, k5, k6, k7, k8, k9, k10, k11, k12, k13, k14, k15, k16, k17, k18, k19, k20, k21, k22]
def interned : List (Array UInt16 × Addr) := []
def slotsUsed : Nat := 14
def theMethod : MethodId := ⟨1, 1⟩
def args0 : Array Value := #[.int 1, .int 2, .int 65, .int 66, .int 67]
def aboutOver (below : List Frame) : State where
  vm := { classes := classes, interned := interned.toArray }
  heap := heap
  slotsUsed := slotsUsed
  threads := #[{ frames := .invoking theMethod args0 :: below }]
def below0 : List Frame := [.native { method := ⟨0, 0⟩, args := #[] }]
def about1 : State := aboutOver below0
def p0 : Program := .bare "" "" ""
def e0 : Env := launch0.env 0 0 0
theorem w_frames : about1.frames = Frame.invoking theMethod args0 :: below0 := rfl
set_option maxRecDepth 65536 in
theorem w_args : argsFit about1.vm theMethod args0 = true := by decide +kernel
set_option maxRecDepth 65536 in
theorem w_heap : heapFits about1 = true := by decide +kernel
set_option maxRecDepth 65536 in
theorem w_runnable : about1.curStatus? = some .runnable := by decide +kernel
set_option maxRecDepth 65536 in
theorem w_alone : about1.alone = true := by decide +kernel
set_option maxRecDepth 65536 in
theorem w_named : about1.methodNamed? x = some theMethod := by decide +kernel
set_option maxRecDepth 65536 in
theorem w_hears : about1.hears theMethod below0 = true := by decide +kernel
set_option maxRecDepth 65536 in
theorem w_ripe : about1.ripe theMethod args0 below0 = true := by decide +kernel
theorem w_running : about1.status = .running := rfl
set_option maxRecDepth 65536 in
theorem w_room : about1.hasRoom e0.platform room_1 = true :=
  launch0.hasRoom_least _ room_1 (by decide +kernel) (by decide +kernel) (by decide +kernel) (by decide +kernel) (by decide +kernel) (by decide +kernel)
theorem allAtoms_all (ts : List Jvm.Cond) (a : Array Jvm.Value) (st : Jvm.State) : (allAtoms ts).before a st = ts.all (fun c => c.before a st) := by
  induction ts with
  | nil => rfl
  | cons c t ih =>
    show (Jvm.Cond.and c (allAtoms t)).before a st = _
    rw [Jvm.Cond.before_and, ih, List.all_cons]
def words1 : List Jvm.Cond := Jvm.Cond.code x code maxLocals ret :: tables_1
/-- a 'code' word, met by the world's own term for the bytes: nothing is compared byte by byte -/
theorem code_word {y : MethodName} {bytes : ByteArray} {mx : Nat} {rt : Option FieldType} {a : Array Value} {s : State} {m : MethodId} {meth : Method} {c : Code} (h1 : s.methodNamed? y = some m) (h2 : s.vm.method? m = some meth) (h3 : meth.code = some c) (h4 : c.code = bytes)
    (h5 : (c.maxLocals == mx && c.exceptionTable.isEmpty && decide (c.maxStack ≤ mostOperands) && decide (meth.sig.returnType = rt) && !meth.locks && decide (parseMethodDescriptor y.desc = some meth.sig)) = true) : (Jvm.Cond.code y bytes mx rt).before a s = true := by
  simp only [Bool.and_eq_true, beq_iff_eq, Bool.not_eq_true', decide_eq_true_eq] at h5
  obtain ⟨⟨⟨⟨⟨g1, g2⟩, g3⟩, g4⟩, g5⟩, g6⟩ := h5
  simp [Cond.before, Cond.holds, Cond.value, h1, h2, h3, h4, g1, g2, g3, g4, g5, g6]
def isCode : Jvm.Cond → Bool
  | .code _ _ _ _ => true
  | _ => false
theorem all_split {L : List Jvm.Cond} {P : Jvm.Cond → Bool} (h1 : L.all (fun c => isCode c || P c) = true) (h2 : ∀ c ∈ L.filter isCode, P c = true) : L.all P = true := by
  refine List.all_eq_true.mpr fun c hc => ?_
  have h := List.all_eq_true.mp h1 c hc
  rcases Bool.eq_false_or_eq_true (isCode c) with hi | hi
  · exact h2 c (List.mem_filter.mpr ⟨hc, hi⟩)
  · simpa [hi] using h
set_option maxRecDepth 65536 in
theorem w_c0 : (Jvm.Cond.code x code maxLocals ret).before args0 about1 = true := code_word (m := ⟨1, 1⟩) (meth := k1m1) (c := k1c1) (by decide +kernel) rfl rfl rfl (by decide +kernel)
set_option maxRecDepth 65536 in
theorem w_c1 : (Jvm.Cond.code ({ cls := "com/example/winnow/winnow/io/TextFilesWithoutByteOrderMarkPinLaw", name := "make", desc := "(ICCC)Ljava/lang/String;" } : Jvm.MethodName) method_3_code (4 : Nat) (Option.some (Jvm.ClassFile.FieldType.object "java/lang/String"))).before args0 about1 = true := code_word (m := ⟨1, 2⟩) (meth := k1m2) (c := k1c2) (by decide +kernel) rfl rfl rfl (by decide +kernel)
set_option maxRecDepth 65536 in
theorem w_c2 : (Jvm.Cond.code ({ cls := "java/lang/String", name := "<init>", desc := "([C)V" } : Jvm.MethodName) jdk_42_method_3_code (2 : Nat) (Option.none : Option Jvm.ClassFile.FieldType)).before args0 about1 = true := code_word (m := ⟨7, 1⟩) (meth := k7m1) (c := k7c1) (by decide +kernel) rfl rfl rfl (by decide +kernel)
set_option maxRecDepth 65536 in
theorem w_c3 : (Jvm.Cond.code ({ cls := "java/lang/String", name := "<init>", desc := "([CIILjava/lang/Void;)V" } : Jvm.MethodName) jdk_42_method_149_code (6 : Nat) (Option.none : Option Jvm.ClassFile.FieldType)).before args0 about1 = true := code_word (m := ⟨7, 8⟩) (meth := k7m8) (c := k7c8) (by decide +kernel) rfl rfl rfl (by decide +kernel)
set_option maxRecDepth 65536 in
theorem w_c4 : (Jvm.Cond.code ({ cls := "java/lang/Object", name := "<init>", desc := "()V" } : Jvm.MethodName) object_method_1_code (1 : Nat) (Option.none : Option Jvm.ClassFile.FieldType)).before args0 about1 = true := code_word (m := ⟨0, 0⟩) (meth := k0m0) (c := k0c0) (by decide +kernel) rfl rfl rfl (by decide +kernel)
set_option maxRecDepth 65536 in
theorem w_c5 : (Jvm.Cond.code ({ cls := "java/lang/StringUTF16", name := "compress", desc := "([CII)[B" } : Jvm.MethodName) jdk_52_method_16_code (6 : Nat) (Option.some (Jvm.ClassFile.FieldType.array Jvm.ClassFile.FieldType.byte))).before args0 about1 = true := code_word (m := ⟨8, 8⟩) (meth := k8m8) (c := k8c8) (by decide +kernel) rfl rfl rfl (by decide +kernel)
set_option maxRecDepth 65536 in
theorem w_c6 : (Jvm.Cond.code ({ cls := "java/lang/StringUTF16", name := "compress", desc := "([CI[BII)I" } : Jvm.MethodName) jdk_52_method_21_code (7 : Nat) (Option.some Jvm.ClassFile.FieldType.int)).before args0 about1 = true := code_word (m := ⟨8, 10⟩) (meth := k8m10) (c := k8c10) (by decide +kernel) rfl rfl rfl (by decide +kernel)
set_option maxRecDepth 65536 in
theorem w_c7 : (Jvm.Cond.code ({ cls := "java/lang/StringUTF16", name := "coderFromArrayLen", desc := "([BI)B" } : Jvm.MethodName) jdk_52_method_15_code (2 : Nat) (Option.some Jvm.ClassFile.FieldType.byte)).before args0 about1 = true := code_word (m := ⟨8, 7⟩) (meth := k8m7) (c := k8c7) (by decide +kernel) rfl rfl rfl (by decide +kernel)
set_option maxRecDepth 65536 in
theorem w_c8 : (Jvm.Cond.code ({ cls := "com/example/winnow/winnow/io/TextFiles", name := "withoutByteOrderMark", desc := "(Ljava/lang/String;)Ljava/lang/String;" } : Jvm.MethodName) prog_38_method_5_code (1 : Nat) (Option.some (Jvm.ClassFile.FieldType.object "java/lang/String"))).before args0 about1 = true := code_word (m := ⟨9, 1⟩) (meth := k9m1) (c := k9c1) (by decide +kernel) rfl rfl rfl (by decide +kernel)
set_option maxRecDepth 65536 in
theorem w_c9 : (Jvm.Cond.code ({ cls := "java/lang/String", name := "isEmpty", desc := "()Z" } : Jvm.MethodName) jdk_42_method_55_code (1 : Nat) (Option.some Jvm.ClassFile.FieldType.boolean)).before args0 about1 = true := code_word (m := ⟨7, 3⟩) (meth := k7m3) (c := k7c3) (by decide +kernel) rfl rfl rfl (by decide +kernel)
set_option maxRecDepth 65536 in
theorem w_c10 : (Jvm.Cond.code ({ cls := "java/lang/String", name := "charAt", desc := "(I)C" } : Jvm.MethodName) jdk_42_method_56_code (2 : Nat) (Option.some Jvm.ClassFile.FieldType.char)).before args0 about1 = true := code_word (m := ⟨7, 4⟩) (meth := k7m4) (c := k7c4) (by decide +kernel) rfl rfl rfl (by decide +kernel)
set_option maxRecDepth 65536 in
theorem w_c11 : (Jvm.Cond.code ({ cls := "java/lang/String", name := "isLatin1", desc := "()Z" } : Jvm.MethodName) jdk_42_method_154_code (1 : Nat) (Option.some Jvm.ClassFile.FieldType.boolean)).before args0 about1 = true := code_word (m := ⟨7, 11⟩) (meth := k7m11) (c := k7c11) (by decide +kernel) rfl rfl rfl (by decide +kernel)
set_option maxRecDepth 65536 in
theorem w_c12 : (Jvm.Cond.code ({ cls := "java/lang/StringLatin1", name := "charAt", desc := "([BI)C" } : Jvm.MethodName) jdk_43_method_2_code (2 : Nat) (Option.some Jvm.ClassFile.FieldType.char)).before args0 about1 = true := code_word (m := ⟨10, 1⟩) (meth := k10m1) (c := k10c1) (by decide +kernel) rfl rfl rfl (by decide +kernel)
set_option maxRecDepth 65536 in
theorem w_c13 : (Jvm.Cond.code ({ cls := "java/lang/String", name := "checkIndex", desc := "(II)V" } : Jvm.MethodName) jdk_42_method_155_code (2 : Nat) (Option.none : Option Jvm.ClassFile.FieldType)).before args0 about1 = true := code_word (m := ⟨7, 12⟩) (meth := k7m12) (c := k7c12) (by decide +kernel) rfl rfl rfl (by decide +kernel)
set_option maxRecDepth 65536 in
theorem w_c14 : (Jvm.Cond.code ({ cls := "jdk/internal/util/Preconditions", name := "checkIndex", desc := "(IILjava/util/function/BiFunction;)I" } : Jvm.MethodName) jdk_41_method_11_code (3 : Nat) (Option.some Jvm.ClassFile.FieldType.int)).before args0 about1 = true := code_word (m := ⟨11, 1⟩) (meth := k11m1) (c := k11c1) (by decide +kernel) rfl rfl rfl (by decide +kernel)
set_option maxRecDepth 65536 in
theorem w_c15 : (Jvm.Cond.code ({ cls := "java/lang/String", name := "equals", desc := "(Ljava/lang/Object;)Z" } : Jvm.MethodName) jdk_42_method_66_code (3 : Nat) (Option.some Jvm.ClassFile.FieldType.boolean)).before args0 about1 = true := code_word (m := ⟨7, 5⟩) (meth := k7m5) (c := k7c5) (by decide +kernel) rfl rfl rfl (by decide +kernel)
set_option maxRecDepth 65536 in
theorem w_c16 : (Jvm.Cond.code ({ cls := "java/lang/StringLatin1", name := "equals", desc := "([B[B)Z" } : Jvm.MethodName) jdk_43_method_13_code (3 : Nat) (Option.some Jvm.ClassFile.FieldType.boolean)).before args0 about1 = true := code_word (m := ⟨10, 2⟩) (meth := k10m2) (c := k10c2) (by decide +kernel) rfl rfl rfl (by decide +kernel)
set_option maxRecDepth 65536 in
theorem w_c17 : (Jvm.Cond.code ({ cls := "java/lang/StringUTF16", name := "toBytes", desc := "([CII)[B" } : Jvm.MethodName) jdk_52_method_14_code (5 : Nat) (Option.some (Jvm.ClassFile.FieldType.array Jvm.ClassFile.FieldType.byte))).before args0 about1 = true := code_word (m := ⟨8, 6⟩) (meth := k8m6) (c := k8c6) (by decide +kernel) rfl rfl rfl (by decide +kernel)
set_option maxRecDepth 65536 in
theorem w_c18 : (Jvm.Cond.code ({ cls := "java/lang/StringUTF16", name := "newBytesFor", desc := "(I)[B" } : Jvm.MethodName) jdk_52_method_2_code (1 : Nat) (Option.some (Jvm.ClassFile.FieldType.array Jvm.ClassFile.FieldType.byte))).before args0 about1 = true := code_word (m := ⟨8, 1⟩) (meth := k8m1) (c := k8c1) (by decide +kernel) rfl rfl rfl (by decide +kernel)
set_option maxRecDepth 65536 in
theorem w_c19 : (Jvm.Cond.code ({ cls := "java/lang/StringUTF16", name := "newBytesLength", desc := "(I)I" } : Jvm.MethodName) jdk_52_method_3_code (1 : Nat) (Option.some Jvm.ClassFile.FieldType.int)).before args0 about1 = true := code_word (m := ⟨8, 2⟩) (meth := k8m2) (c := k8c2) (by decide +kernel) rfl rfl rfl (by decide +kernel)
set_option maxRecDepth 65536 in
theorem w_c20 : (Jvm.Cond.code ({ cls := "java/lang/StringUTF16", name := "putChar", desc := "([BII)V" } : Jvm.MethodName) jdk_52_method_4_code (3 : Nat) (Option.none : Option Jvm.ClassFile.FieldType)).before args0 about1 = true := code_word (m := ⟨8, 3⟩) (meth := k8m3) (c := k8c3) (by decide +kernel) rfl rfl rfl (by decide +kernel)
set_option maxRecDepth 65536 in
theorem w_c21 : (Jvm.Cond.code ({ cls := "java/lang/StringUTF16", name := "getChar", desc := "([BI)C" } : Jvm.MethodName) jdk_52_method_5_code (2 : Nat) (Option.some Jvm.ClassFile.FieldType.char)).before args0 about1 = true := code_word (m := ⟨8, 4⟩) (meth := k8m4) (c := k8c4) (by decide +kernel) rfl rfl rfl (by decide +kernel)
set_option maxRecDepth 65536 in
theorem w_c22 : (Jvm.Cond.code ({ cls := "java/lang/StringUTF16", name := "charAt", desc := "([BI)C" } : Jvm.MethodName) jdk_52_method_83_code (2 : Nat) (Option.some Jvm.ClassFile.FieldType.char)).before args0 about1 = true := code_word (m := ⟨8, 13⟩) (meth := k8m13) (c := k8c13) (by decide +kernel) rfl rfl rfl (by decide +kernel)
set_option maxRecDepth 65536 in
theorem w_c23 : (Jvm.Cond.code ({ cls := "java/lang/StringUTF16", name := "checkIndex", desc := "(I[B)V" } : Jvm.MethodName) jdk_52_method_91_code (2 : Nat) (Option.none : Option Jvm.ClassFile.FieldType)).before args0 about1 = true := code_word (m := ⟨8, 14⟩) (meth := k8m14) (c := k8c14) (by decide +kernel) rfl rfl rfl (by decide +kernel)
set_option maxRecDepth 65536 in
theorem w_c24 : (Jvm.Cond.code ({ cls := "java/lang/StringUTF16", name := "length", desc := "([B)I" } : Jvm.MethodName) jdk_52_method_6_code (1 : Nat) (Option.some Jvm.ClassFile.FieldType.int)).before args0 about1 = true := code_word (m := ⟨8, 5⟩) (meth := k8m5) (c := k8c5) (by decide +kernel) rfl rfl rfl (by decide +kernel)
set_option maxRecDepth 65536 in
theorem w_c25 : (Jvm.Cond.code ({ cls := "java/lang/String", name := "substring", desc := "(I)Ljava/lang/String;" } : Jvm.MethodName) jdk_42_method_91_code (2 : Nat) (Option.some (Jvm.ClassFile.FieldType.object "java/lang/String"))).before args0 about1 = true := code_word (m := ⟨7, 6⟩) (meth := k7m6) (c := k7c6) (by decide +kernel) rfl rfl rfl (by decide +kernel)
set_option maxRecDepth 65536 in
theorem w_c26 : (Jvm.Cond.code ({ cls := "java/lang/String", name := "length", desc := "()I" } : Jvm.MethodName) jdk_42_method_54_code (1 : Nat) (Option.some Jvm.ClassFile.FieldType.int)).before args0 about1 = true := code_word (m := ⟨7, 2⟩) (meth := k7m2) (c := k7c2) (by decide +kernel) rfl rfl rfl (by decide +kernel)
set_option maxRecDepth 65536 in
theorem w_c27 : (Jvm.Cond.code ({ cls := "java/lang/String", name := "coder", desc := "()B" } : Jvm.MethodName) jdk_42_method_152_code (1 : Nat) (Option.some Jvm.ClassFile.FieldType.byte)).before args0 about1 = true := code_word (m := ⟨7, 10⟩) (meth := k7m10) (c := k7c10) (by decide +kernel) rfl rfl rfl (by decide +kernel)
set_option maxRecDepth 65536 in
theorem w_c28 : (Jvm.Cond.code ({ cls := "java/lang/String", name := "substring", desc := "(II)Ljava/lang/String;" } : Jvm.MethodName) jdk_42_method_92_code (5 : Nat) (Option.some (Jvm.ClassFile.FieldType.object "java/lang/String"))).before args0 about1 = true := code_word (m := ⟨7, 7⟩) (meth := k7m7) (c := k7c7) (by decide +kernel) rfl rfl rfl (by decide +kernel)
set_option maxRecDepth 65536 in
theorem w_c29 : (Jvm.Cond.code ({ cls := "java/lang/String", name := "checkBoundsBeginEnd", desc := "(III)V" } : Jvm.MethodName) jdk_42_method_158_code (3 : Nat) (Option.none : Option Jvm.ClassFile.FieldType)).before args0 about1 = true := code_word (m := ⟨7, 14⟩) (meth := k7m14) (c := k7c14) (by decide +kernel) rfl rfl rfl (by decide +kernel)
set_option maxRecDepth 65536 in
theorem w_c30 : (Jvm.Cond.code ({ cls := "jdk/internal/util/Preconditions", name := "checkFromToIndex", desc := "(IIILjava/util/function/BiFunction;)I" } : Jvm.MethodName) jdk_41_method_12_code (4 : Nat) (Option.some Jvm.ClassFile.FieldType.int)).before args0 about1 = true := code_word (m := ⟨11, 2⟩) (meth := k11m2) (c := k11c2) (by decide +kernel) rfl rfl rfl (by decide +kernel)
set_option maxRecDepth 65536 in
theorem w_c31 : (Jvm.Cond.code ({ cls := "java/lang/StringUTF16", name := "newString", desc := "([BII)Ljava/lang/String;" } : Jvm.MethodName) jdk_52_method_69_code (5 : Nat) (Option.some (Jvm.ClassFile.FieldType.object "java/lang/String"))).before args0 about1 = true := code_word (m := ⟨8, 12⟩) (meth := k8m12) (c := k8c12) (by decide +kernel) rfl rfl rfl (by decide +kernel)
set_option maxRecDepth 65536 in
theorem w_c32 : (Jvm.Cond.code ({ cls := "java/lang/StringUTF16", name := "compress", desc := "([BII)[B" } : Jvm.MethodName) jdk_52_method_17_code (6 : Nat) (Option.some (Jvm.ClassFile.FieldType.array Jvm.ClassFile.FieldType.byte))).before args0 about1 = true := code_word (m := ⟨8, 9⟩) (meth := k8m9) (c := k8c9) (by decide +kernel) rfl rfl rfl (by decide +kernel)
set_option maxRecDepth 65536 in
theorem w_c33 : (Jvm.Cond.code ({ cls := "java/lang/StringUTF16", name := "compress", desc := "([BI[BII)I" } : Jvm.MethodName) jdk_52_method_22_code (7 : Nat) (Option.some Jvm.ClassFile.FieldType.int)).before args0 about1 = true := code_word (m := ⟨8, 11⟩) (meth := k8m11) (c := k8c11) (by decide +kernel) rfl rfl rfl (by decide +kernel)
set_option maxRecDepth 65536 in
theorem w_c34 : (Jvm.Cond.code ({ cls := "java/lang/StringUTF16", name := "checkBoundsOffCount", desc := "(II[B)V" } : Jvm.MethodName) jdk_52_method_94_code (3 : Nat) (Option.none : Option Jvm.ClassFile.FieldType)).before args0 about1 = true := code_word (m := ⟨8, 15⟩) (meth := k8m15) (c := k8c15) (by decide +kernel) rfl rfl rfl (by decide +kernel)
set_option maxRecDepth 65536 in
theorem w_c35 : (Jvm.Cond.code ({ cls := "java/lang/String", name := "checkBoundsOffCount", desc := "(III)I" } : Jvm.MethodName) jdk_42_method_157_code (3 : Nat) (Option.some Jvm.ClassFile.FieldType.int)).before args0 about1 = true := code_word (m := ⟨7, 13⟩) (meth := k7m13) (c := k7c13) (by decide +kernel) rfl rfl rfl (by decide +kernel)
set_option maxRecDepth 65536 in
theorem w_c36 : (Jvm.Cond.code ({ cls := "jdk/internal/util/Preconditions", name := "checkFromIndexSize", desc := "(IIILjava/util/function/BiFunction;)I" } : Jvm.MethodName) jdk_41_method_13_code (4 : Nat) (Option.some Jvm.ClassFile.FieldType.int)).before args0 about1 = true := code_word (m := ⟨11, 3⟩) (meth := k11m3) (c := k11c3) (by decide +kernel) rfl rfl rfl (by decide +kernel)
set_option maxRecDepth 65536 in
theorem w_c37 : (Jvm.Cond.code ({ cls := "java/util/Arrays", name := "copyOfRange", desc := "([BII)[B" } : Jvm.MethodName) jdk_65_method_132_code (3 : Nat) (Option.some (Jvm.ClassFile.FieldType.array Jvm.ClassFile.FieldType.byte))).before args0 about1 = true := code_word (m := ⟨12, 2⟩) (meth := k12m2) (c := k12c2) (by decide +kernel) rfl rfl rfl (by decide +kernel)
set_option maxRecDepth 65536 in
theorem w_c38 : (Jvm.Cond.code ({ cls := "java/util/Arrays", name := "copyOfRangeByte", desc := "([BII)[B" } : Jvm.MethodName) jdk_65_method_133_code (5 : Nat) (Option.some (Jvm.ClassFile.FieldType.array Jvm.ClassFile.FieldType.byte))).before args0 about1 = true := code_word (m := ⟨12, 3⟩) (meth := k12m3) (c := k12c3) (by decide +kernel) rfl rfl rfl (by decide +kernel)
set_option maxRecDepth 65536 in
theorem w_c39 : (Jvm.Cond.code ({ cls := "java/util/Arrays", name := "checkLength", desc := "(II)V" } : Jvm.MethodName) jdk_65_method_131_code (2 : Nat) (Option.none : Option Jvm.ClassFile.FieldType)).before args0 about1 = true := code_word (m := ⟨12, 1⟩) (meth := k12m1) (c := k12c1) (by decide +kernel) rfl rfl rfl (by decide +kernel)
set_option maxRecDepth 65536 in
theorem w_c40 : (Jvm.Cond.code ({ cls := "java/lang/Math", name := "min", desc := "(II)I" } : Jvm.MethodName) jdk_29_method_69_code (2 : Nat) (Option.some Jvm.ClassFile.FieldType.int)).before args0 about1 = true := code_word (m := ⟨13, 1⟩) (meth := k13m1) (c := k13c1) (by decide +kernel) rfl rfl rfl (by decide +kernel)
set_option maxRecDepth 65536 in
theorem w_c41 : (Jvm.Cond.code ({ cls := "java/lang/String", name := "<init>", desc := "([BB)V" } : Jvm.MethodName) jdk_42_method_151_code (3 : Nat) (Option.none : Option Jvm.ClassFile.FieldType)).before args0 about1 = true := code_word (m := ⟨7, 9⟩) (meth := k7m9) (c := k7c9) (by decide +kernel) rfl rfl rfl (by decide +kernel)
def codes1 : List Jvm.Cond := [Jvm.Cond.code x code maxLocals ret, Jvm.Cond.code ({ cls := "com/example/winnow/winnow/io/TextFilesWithoutByteOrderMarkPinLaw", name := "make", desc := "(ICCC)Ljava/lang/String;" } : Jvm.MethodName) method_3_code (4 : Nat) (Option.some (Jvm.ClassFile.FieldType.object "java/lang/String")), Jvm.Cond.code ({ cls := "java/lang/String", name := "<init>", desc := "([C)V" } : Jvm.MethodName) jdk_42_method_3_code (2 : Nat) (Option.none : Option Jvm.ClassFile.FieldType), Jvm.Cond.code ({ cls := "java/lang/String", name := "<init>", desc := "([CIILjava/lang/Void;)V" } : Jvm.MethodName) jdk_42_method_149_code (6 : Nat) (Option.none : Option Jvm.ClassFile.FieldType), Jvm.Cond.code ({ cls := "java/lang/Object", name := "<init>", desc := "()V" } : Jvm.MethodName) object_method_1_code (1 : Nat) (Option.none : Option Jvm.ClassFile.FieldType), Jvm.Cond.code ({ cls := "java/lang/StringUTF16", name := "compress", desc := "([CII)[B" } : Jvm.MethodName) jdk_52_method_16_code (6 : Nat) (Option.some (Jvm.ClassFile.FieldType.array Jvm.ClassFile.FieldType.byte)), Jvm.Cond.code ({ cls := "java/lang/StringUTF16", name := "compress", desc := "([CI[BII)I" } : Jvm.MethodName) jdk_52_method_21_code (7 : Nat) (Option.some Jvm.ClassFile.FieldType.int), Jvm.Cond.code ({ cls := "java/lang/StringUTF16", name := "coderFromArrayLen", desc := "([BI)B" } : Jvm.MethodName) jdk_52_method_15_code (2 : Nat) (Option.some Jvm.ClassFile.FieldType.byte), Jvm.Cond.code ({ cls := "com/example/winnow/winnow/io/TextFiles", name := "withoutByteOrderMark", desc := "(Ljava/lang/String;)Ljava/lang/String;" } : Jvm.MethodName) prog_38_method_5_code (1 : Nat) (Option.some (Jvm.ClassFile.FieldType.object "java/lang/String")), Jvm.Cond.code ({ cls := "java/lang/String", name := "isEmpty", desc := "()Z" } : Jvm.MethodName) jdk_42_method_55_code (1 : Nat) (Option.some Jvm.ClassFile.FieldType.boolean), Jvm.Cond.code ({ cls := "java/lang/String", name := "charAt", desc := "(I)C" } : Jvm.MethodName) jdk_42_method_56_code (2 : Nat) (Option.some Jvm.ClassFile.FieldType.char), Jvm.Cond.code ({ cls := "java/lang/String", name := "isLatin1", desc := "()Z" } : Jvm.MethodName) jdk_42_method_154_code (1 : Nat) (Option.some Jvm.ClassFile.FieldType.boolean), Jvm.Cond.code ({ cls := "java/lang/StringLatin1", name := "charAt", desc := "([BI)C" } : Jvm.MethodName) jdk_43_method_2_code (2 : Nat) (Option.some Jvm.ClassFile.FieldType.char), Jvm.Cond.code ({ cls := "java/lang/String", name := "checkIndex", desc := "(II)V" } : Jvm.MethodName) jdk_42_method_155_code (2 : Nat) (Option.none : Option Jvm.ClassFile.FieldType), Jvm.Cond.code ({ cls := "jdk/internal/util/Preconditions", name := "checkIndex", desc := "(IILjava/util/function/BiFunction;)I" } : Jvm.MethodName) jdk_41_method_11_code (3 : Nat) (Option.some Jvm.ClassFile.FieldType.int), Jvm.Cond.code ({ cls := "java/lang/String", name := "equals", desc := "(Ljava/lang/Object;)Z" } : Jvm.MethodName) jdk_42_method_66_code (3 : Nat) (Option.some Jvm.ClassFile.FieldType.boolean), Jvm.Cond.code ({ cls := "java/lang/StringLatin1", name := "equals", desc := "([B[B)Z" } : Jvm.MethodName) jdk_43_method_13_code (3 : Nat) (Option.some Jvm.ClassFile.FieldType.boolean), Jvm.Cond.code ({ cls := "java/lang/StringUTF16", name := "toBytes", desc := "([CII)[B" } : Jvm.MethodName) jdk_52_method_14_code (5 : Nat) (Option.some (Jvm.ClassFile.FieldType.array Jvm.ClassFile.FieldType.byte)), Jvm.Cond.code ({ cls := "java/lang/StringUTF16", name := "newBytesFor", desc := "(I)[B" } : Jvm.MethodName) jdk_52_method_2_code (1 : Nat) (Option.some (Jvm.ClassFile.FieldType.array Jvm.ClassFile.FieldType.byte)), Jvm.Cond.code ({ cls := "java/lang/StringUTF16", name := "newBytesLength", desc := "(I)I" } : Jvm.MethodName) jdk_52_method_3_code (1 : Nat) (Option.some Jvm.ClassFile.FieldType.int), Jvm.Cond.code ({ cls := "java/lang/StringUTF16", name := "putChar", desc := "([BII)V" } : Jvm.MethodName) jdk_52_method_4_code (3 : Nat) (Option.none : Option Jvm.ClassFile.FieldType), Jvm.Cond.code ({ cls := "java/lang/StringUTF16", name := "getChar", desc := "([BI)C" } : Jvm.MethodName) jdk_52_method_5_code (2 : Nat) (Option.some Jvm.ClassFile.FieldType.char), Jvm.Cond.code ({ cls := "java/lang/StringUTF16", name := "charAt", desc := "([BI)C" } : Jvm.MethodName) jdk_52_method_83_code (2 : Nat) (Option.some Jvm.ClassFile.FieldType.char), Jvm.Cond.code ({ cls := "java/lang/StringUTF16", name := "checkIndex", desc := "(I[B)V" } : Jvm.MethodName) jdk_52_method_91_code (2 : Nat) (Option.none : Option Jvm.ClassFile.FieldType), Jvm.Cond.code ({ cls := "java/lang/StringUTF16", name := "length", desc := "([B)I" } : Jvm.MethodName) jdk_52_method_6_code (1 : Nat) (Option.some Jvm.ClassFile.FieldType.int), Jvm.Cond.code ({ cls := "java/lang/String", name := "substring", desc := "(I)Ljava/lang/String;" } : Jvm.MethodName) jdk_42_method_91_code (2 : Nat) (Option.some (Jvm.ClassFile.FieldType.object "java/lang/String")), Jvm.Cond.code ({ cls := "java/lang/String", name := "length", desc := "()I" } : Jvm.MethodName) jdk_42_method_54_code (1 : Nat) (Option.some Jvm.ClassFile.FieldType.int), Jvm.Cond.code ({ cls := "java/lang/String", name := "coder", desc := "()B" } : Jvm.MethodName) jdk_42_method_152_code (1 : Nat) (Option.some Jvm.ClassFile.FieldType.byte), Jvm.Cond.code ({ cls := "java/lang/String", name := "substring", desc := "(II)Ljava/lang/String;" } : Jvm.MethodName) jdk_42_method_92_code (5 : Nat) (Option.some (Jvm.ClassFile.FieldType.object "java/lang/String")), Jvm.Cond.code ({ cls := "java/lang/String", name := "checkBoundsBeginEnd", desc := "(III)V" } : Jvm.MethodName) jdk_42_method_158_code (3 : Nat) (Option.none : Option Jvm.ClassFile.FieldType), Jvm.Cond.code ({ cls := "jdk/internal/util/Preconditions", name := "checkFromToIndex", desc := "(IIILjava/util/function/BiFunction;)I" } : Jvm.MethodName) jdk_41_method_12_code (4 : Nat) (Option.some Jvm.ClassFile.FieldType.int), Jvm.Cond.code ({ cls := "java/lang/StringUTF16", name := "newString", desc := "([BII)Ljava/lang/String;" } : Jvm.MethodName) jdk_52_method_69_code (5 : Nat) (Option.some (Jvm.ClassFile.FieldType.object "java/lang/String")), Jvm.Cond.code ({ cls := "java/lang/StringUTF16", name := "compress", desc := "([BII)[B" } : Jvm.MethodName) jdk_52_method_17_code (6 : Nat) (Option.some (Jvm.ClassFile.FieldType.array Jvm.ClassFile.FieldType.byte)), Jvm.Cond.code ({ cls := "java/lang/StringUTF16", name := "compress", desc := "([BI[BII)I" } : Jvm.MethodName) jdk_52_method_22_code (7 : Nat) (Option.some Jvm.ClassFile.FieldType.int), Jvm.Cond.code ({ cls := "java/lang/StringUTF16", name := "checkBoundsOffCount", desc := "(II[B)V" } : Jvm.MethodName) jdk_52_method_94_code (3 : Nat) (Option.none : Option Jvm.ClassFile.FieldType), Jvm.Cond.code ({ cls := "java/lang/String", name := "checkBoundsOffCount", desc := "(III)I" } : Jvm.MethodName) jdk_42_method_157_code (3 : Nat) (Option.some Jvm.ClassFile.FieldType.int), Jvm.Cond.code ({ cls := "jdk/internal/util/Preconditions", name := "checkFromIndexSize", desc := "(IIILjava/util/function/BiFunction;)I" } : Jvm.MethodName) jdk_41_method_13_code (4 : Nat) (Option.some Jvm.ClassFile.FieldType.int), Jvm.Cond.code ({ cls := "java/util/Arrays", name := "copyOfRange", desc := "([BII)[B" } : Jvm.MethodName) jdk_65_method_132_code (3 : Nat) (Option.some (Jvm.ClassFile.FieldType.array Jvm.ClassFile.FieldType.byte)), Jvm.Cond.code ({ cls := "java/util/Arrays", name := "copyOfRangeByte", desc := "([BII)[B" } : Jvm.MethodName) jdk_65_method_133_code (5 : Nat) (Option.some (Jvm.ClassFile.FieldType.array Jvm.ClassFile.FieldType.byte)), Jvm.Cond.code ({ cls := "java/util/Arrays", name := "checkLength", desc := "(II)V" } : Jvm.MethodName) jdk_65_method_131_code (2 : Nat) (Option.none : Option Jvm.ClassFile.FieldType), Jvm.Cond.code ({ cls := "java/lang/Math", name := "min", desc := "(II)I" } : Jvm.MethodName) jdk_29_method_69_code (2 : Nat) (Option.some Jvm.ClassFile.FieldType.int), Jvm.Cond.code ({ cls := "java/lang/String", name := "<init>", desc := "([BB)V" } : Jvm.MethodName) jdk_42_method_151_code (3 : Nat) (Option.none : Option Jvm.ClassFile.FieldType)]
set_option maxRecDepth 65536 in
theorem codes_eq : words1.filter isCode = codes1 := rfl
theorem w_codes : ∀ c ∈ words1.filter isCode, c.before args0 about1 = true := by
  rw [codes_eq]
  intro c hc
  simp only [codes1, List.mem_cons, List.not_mem_nil, or_false] at hc
  rcases hc with rfl | rfl | rfl | rfl | rfl | rfl | rfl | rfl | rfl | rfl | rfl | rfl | rfl | rfl | rfl | rfl | rfl | rfl | rfl | rfl | rfl | rfl | rfl | rfl | rfl | rfl | rfl | rfl | rfl | rfl | rfl | rfl | rfl | rfl | rfl | rfl | rfl | rfl | rfl | rfl | rfl | rfl
  · exact w_c0
  · exact w_c1
  · exact w_c2
  · exact w_c3
  · exact w_c4
  · exact w_c5
  · exact w_c6
  · exact w_c7
  · exact w_c8
  · exact w_c9
  · exact w_c10
  · exact w_c11
  · exact w_c12
  · exact w_c13
  · exact w_c14
  · exact w_c15
  · exact w_c16
  · exact w_c17
  · exact w_c18
  · exact w_c19
  · exact w_c20
  · exact w_c21
  · exact w_c22
  · exact w_c23
  · exact w_c24
  · exact w_c25
  · exact w_c26
  · exact w_c27
  · exact w_c28
  · exact w_c29
  · exact w_c30
  · exact w_c31
  · exact w_c32
  · exact w_c33
  · exact w_c34
  · exact w_c35
  · exact w_c36
  · exact w_c37
  · exact w_c38
  · exact w_c39
  · exact w_c40
  · exact w_c41
set_option maxRecDepth 65536 in
theorem w_t1 : (words1.take 24).all (fun c => isCode c || c.before args0 about1) = true := by decide +kernel
set_option maxRecDepth 65536 in
theorem w_t2 : ((words1.drop 24).take 24).all (fun c => isCode c || c.before args0 about1) = true := by decide +kernel
set_option maxRecDepth 65536 in
theorem w_t3 : (((words1.drop 24).drop 24).take 24).all (fun c => isCode c || c.before args0 about1) = true := by decide +kernel
set_option maxRecDepth 65536 in
theorem w_t4 : ((((words1.drop 24).drop 24).drop 24).take 24).all (fun c => isCode c || c.before args0 about1) = true := by decide +kernel
set_option maxRecDepth 65536 in
theorem w_t5 : (((((words1.drop 24).drop 24).drop 24).drop 24).take 24).all (fun c => isCode c || c.before args0 about1) = true := by decide +kernel
set_option maxRecDepth 65536 in
theorem w_t6 : ((((((words1.drop 24).drop 24).drop 24).drop 24).drop 24).take 24).all (fun c => isCode c || c.before args0 about1) = true := by decide +kernel
set_option maxRecDepth 65536 in
theorem w_t7 : (((((((words1.drop 24).drop 24).drop 24).drop 24).drop 24).drop 24).take 24).all (fun c => isCode c || c.before args0 about1) = true := by decide +kernel
set_option maxRecDepth 65536 in
theorem w_t8 : (((((((words1.drop 24).drop 24).drop 24).drop 24).drop 24).drop 24).drop 24).all (fun c => isCode c || c.before args0 about1) = true := by decide +kernel
theorem w_tables : (allAtoms (Jvm.Cond.code x code maxLocals ret :: tables_1)).before args0 about1 = true := by
  rw [allAtoms_all]
  show words1.all (fun c => c.before args0 about1) = true
  refine all_split ?_ w_codes
  rw [← List.take_append_drop 24 words1, List.all_append, w_t1, ← List.take_append_drop 24 (words1.drop 24), List.all_append, w_t2, ← List.take_append_drop 24 ((words1.drop 24).drop 24), List.all_append, w_t3, ← List.take_append_drop 24 (((words1.drop 24).drop 24).drop 24), List.all_append, w_t4, ← List.take_append_drop 24 ((((words1.drop 24).drop 24).drop 24).drop 24), List.all_append, w_t5, ← List.take_append_drop 24 (((((words1.drop 24).drop 24).drop 24).drop 24).drop 24), List.all_append, w_t6, ← List.take_append_drop 24 ((((((words1.drop 24).drop 24).drop 24).drop 24).drop 24).drop 24), List.all_append, w_t7, w_t8]
  rfl
set_option maxRecDepth 65536 in
theorem w_rest : rest_1_c.before args0 about1 = true := by decide +kernel
set_option maxRecDepth 65536 in
theorem w_case : (Jvm.Cond.and given_1 narrow_1).before args0 about1 = true := by decide +kernel
set_option maxRecDepth 65536 in
theorem w_consts : constsHeld consts_1 about1 := Jvm.Lit.constsHeldB_iff.mp (by decide +kernel)
theorem w_applies : (headSpec (Jvm.Cond.code x code maxLocals ret :: tables_1) room_1).applies x e0.platform about1 = true :=
  (Spec.applies_iff w_frames).mpr ⟨w_running, w_runnable, w_alone, w_named, w_hears, w_ripe, w_room, w_tables⟩
theorem atStart : AtStart classFile x code maxLocals ret World_1 tables_1 room_1 Calls_1 rest_1 Pre_1 launch0 p0 e0 about1 theMethod args0 below0 :=
  ⟨lists_1, trivial, launch0.admits_env _ _ _, launch0.least_env, fairChoices_fair.cas, fairChoices_fair.clock, w_frames, w_args, w_heap, w_applies, ⟨w_consts, trivial⟩, w_rest, w_case⟩
end start1
theorem witness_1 : WitnessClaimed_1 := ⟨start1.p0, start1.e0, start1.about1, start1.theMethod, start1.args0, start1.below0, start1.atStart⟩
end Jvm.Pilot.@@N@@
