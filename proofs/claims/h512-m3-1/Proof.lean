import JvmDerived
import JvmDerived.Pilot.@@N@@Statement
import JvmDerived.Pilot.@@N@@Code
set_option linter.unusedVariables false
set_option linter.unusedSimpArgs false
namespace Jvm.RoadKit
open Sem ClassFile Op Lib Jvm.Stand Jvm.Free Jvm.LawKit
section Own
variable {p : Program} {l : Launch} {e : Env} {R : Room} {s : State} {m : MethodId} {args : Array Value} {below : List Frame} {meth : Method} {c : Code} {T : State} {locs : List Loc} {cells slots : Nat} {Z : State} {a0 : Array Value} {h : Heap}
/-- from T with the frame g on top the run comes back with what Q says -/
def Go (p : Program) (e : Env) (below : List Frame) (Fin' : Outcome → State → Prop) (T : State) (g : JFrame) : Prop :=
  ∃ s₂ o, Steps p.tables e below (T.setTop g) s₂ ∧ s₂.status = .running ∧ Ended s₂ below o ∧ Fin' o s₂
/-- how a body ends -/
def Fn (s : State) (RC RS : Nat) (Q : Option Value → Heap → List Loc → Prop) (o : Outcome) (t : State) : Prop := ∃ v L, o = .returned v ∧ Q v t.heap L ∧ FrameEnd s o t L RC RS
/-- what stands fast through a body's walk -/
def Cx (p : Program) (s : State) (m : MethodId) (meth : Method) (c : Code) (Z : State) (own nm : String) (bytes : ByteArray) (maxL : Nat) (ret : Option FieldType) : Prop :=
  p.tables.exec = Jvm.exec ∧ Z.Warmed39 s.vm ∧ s.vm.findClass own = some m.cls ∧ c.code = bytes ∧ c.maxLocals = maxL ∧ meth.sig.returnType = ret ∧ meth.name = nm ∧ meth.locks = false
variable {RC RS : Nat} {Q : Option Value → Heap → List Loc → Prop} {Fin' : Outcome → State → Prop} {own nm : String} {bytes : ByteArray} {maxL : Nat} {ret : Option FieldType} {pc pc' : Nat} {Ls Ls' : Array Slot} {S : List Value}
theorem Go.via {T' : State} {g g' : JFrame} (G : Go p e below Fin' T' g') (k : ∀ t, Steps p.tables e below (T'.setTop g') t → Steps p.tables e below (T.setTop g) t) : Go p e below Fin' T g := by
  obtain ⟨s₂, o, st, r⟩ := G; exact ⟨s₂, o, k _ st, r⟩
theorem Go.cast {g g' : JFrame} (q : g = g') (G : Go p e below Fin' T g') : Go p e below Fin' T g := q ▸ G
/-- a body's contract -/
def Met1 (l : Launch) (Z : State) (y : MethodName) (bytes : ByteArray) (maxL : Nat) (ret : Option FieldType) (rm : Room) (as' : Array Value) (h0 : Heap) (Q : Option Value → Heap → List Loc → Prop) : Prop :=
  ∀ ws : List Jvm.Cond, MetFree l y (head1 (Jvm.Cond.code y bytes maxL ret :: ws) rm) (fun a U => a = as' ∧ Z.Warmed39 U.vm ∧ U.heap = h0) (fun _ _ _ _ _ => True) (fun _ U o U' => ∃ v L, o = .returned v ∧ Q v U'.heap L ∧ FrameEnd U o U' L rm.cells rm.slots)
theorem Met1.of_body {y : MethodName} {rm : Room} {as' : Array Value} {h0 : Heap} (hp : plainFor y = true) (ef : ∀ m, entryFrame m as' maxL = mkF m 0 Ls [])
    (body : ∀ {p : Program} {e : Env} {s : State} {m : MethodId} {below : List Frame} {meth : Method} {c : Code} {T : State}, Cx p s m meth c Z y.cls y.name bytes maxL ret → Stand p l e rm s m as' below meth c T [] 0 0 → T.heap = h0 → Go p e below (Fn s rm.cells rm.slots Q) T (mkF m 0 Ls [])) :
    Met1 l Z y bytes maxL ret rm as' h0 Q := by
  intro ws
  refine MetFree.of_bodySF hp hisR ?_
  intro p e s m args below meth c s₁ Bd hml0 hP hK
  obtain ⟨rfl, hZ, hh⟩ := hP
  have X0 : Stand p l e rm s m args below meth c s₁ [] 0 0 := Stand.of_body Bd
  have hlk : meth.locks = false := BodyLoose.notSynchronized Bd
  obtain ⟨s₂, o, st, r1, r2, r3⟩ := body (p := p) (e := e) (s := s) (m := m) (below := below) (meth := meth) (c := c) (T := s₁) ⟨Bd.exec, hZ, findClass_of_methodNamed Bd.named, Bd.bytes, hml0, Bd.returns, (name_of_methodNamed Bd.named Bd.method).1, hlk⟩ X0 (by rw [← hh, Bd.state]; rfl)
  exact ⟨s₂, o, castTop (ef m) st, r1, r2, r3⟩
/-- a contract may say less -/
theorem Met1.weak {y : MethodName} {rm : Room} {as' : Array Value} {h0 : Heap} {Q' : Option Value → Heap → List Loc → Prop} (M : Met1 l Z y bytes maxL ret rm as' h0 Q) (q : ∀ v h L, Q v h L → Q' v h L) : Met1 l Z y bytes maxL ret rm as' h0 Q' := by
  intro ws p e ha hc hk s m args below hf happ hP hK
  obtain ⟨n, o, h1, h2, h3, v, L, h4, h5, h6⟩ := M ws p e ha hc hk s m args below hf happ hP hK
  exact ⟨n, o, h1, h2, h3, v, L, h4, q _ _ _ h5, h6⟩

/-! plain steps -/
theorem Go.aloadN (C : Cx p s m meth c Z own nm bytes maxL ret) (X : Stand p l e R s m args below meth c T locs cells slots) {k : Fin 4} {v : Value} (hd : decode bytes pc = .ok (.aload_n k, 1)) (hl : Ls[k.val]? = some (.val v)) (hv : v.isRef = true) (hp : pc + 1 = pc') (G : Go p e below Fin' T (mkF m pc' Ls (v :: S))) : Go p e below Fin' T (mkF m pc Ls S) := by
  subst hp; exact G.via fun _ k => XS.aloadN X.here C.1 rfl (hb C.2.2.2.1 hd) hl hv k
theorem Go.aload (C : Cx p s m meth c Z own nm bytes maxL ret) (X : Stand p l e R s m args below meth c T locs cells slots) {k : Nat} {v : Value} (hd : decode bytes pc = .ok (.aload k, 2)) (hl : Ls[k]? = some (.val v)) (hv : v.isRef = true) (hp : pc + 2 = pc') (G : Go p e below Fin' T (mkF m pc' Ls (v :: S))) : Go p e below Fin' T (mkF m pc Ls S) := by
  subst hp; exact G.via fun _ k => XS.aload X.here C.1 rfl (hb C.2.2.2.1 hd) hl hv k
theorem Go.iloadN (C : Cx p s m meth c Z own nm bytes maxL ret) (X : Stand p l e R s m args below meth c T locs cells slots) {k : Fin 4} {v : Int32} (hd : decode bytes pc = .ok (.iload_n k, 1)) (hl : Ls[k.val]? = some (.val (.int v))) (hp : pc + 1 = pc') (G : Go p e below Fin' T (mkF m pc' Ls (.int v :: S))) : Go p e below Fin' T (mkF m pc Ls S) := by
  subst hp; exact G.via fun _ k => XS.iloadN X.here C.1 rfl (hb C.2.2.2.1 hd) hl k
theorem Go.iload (C : Cx p s m meth c Z own nm bytes maxL ret) (X : Stand p l e R s m args below meth c T locs cells slots) {k : Nat} {v : Int32} (hd : decode bytes pc = .ok (.iload k, 2)) (hl : Ls[k]? = some (.val (.int v))) (hp : pc + 2 = pc') (G : Go p e below Fin' T (mkF m pc' Ls (.int v :: S))) : Go p e below Fin' T (mkF m pc Ls S) := by
  subst hp; exact G.via fun _ k => XS.iload X.here C.1 rfl (hb C.2.2.2.1 hd) hl k
theorem Go.istoreN (C : Cx p s m meth c Z own nm bytes maxL ret) (X : Stand p l e R s m args below meth c T locs cells slots) {k : Fin 4} {v : Int32} (hd : decode bytes pc = .ok (.istore_n k, 1)) (hl : storeLocals Ls k.val (.int v) = some Ls') (hp : pc + 1 = pc') (G : Go p e below Fin' T (mkF m pc' Ls' S)) : Go p e below Fin' T (mkF m pc Ls (.int v :: S)) := by
  subst hp; exact G.via fun _ k => XS.istoreN X.here C.1 rfl (hb C.2.2.2.1 hd) rfl hl k
theorem Go.istore (C : Cx p s m meth c Z own nm bytes maxL ret) (X : Stand p l e R s m args below meth c T locs cells slots) {k : Nat} {v : Int32} (hd : decode bytes pc = .ok (.istore k, 2)) (hl : storeLocals Ls k (.int v) = some Ls') (hp : pc + 2 = pc') (G : Go p e below Fin' T (mkF m pc' Ls' S)) : Go p e below Fin' T (mkF m pc Ls (.int v :: S)) := by
  subst hp; exact G.via fun _ k => XS.istore X.here C.1 rfl (hb C.2.2.2.1 hd) rfl hl k
theorem Go.lloadN (C : Cx p s m meth c Z own nm bytes maxL ret) (X : Stand p l e R s m args below meth c T locs cells slots) {k : Fin 4} {v : Int64} (hd : decode bytes pc = .ok (.lload_n k, 1)) (hl : Ls[k.val]? = some (.val (.long v))) (hp : pc + 1 = pc') (G : Go p e below Fin' T (mkF m pc' Ls (.long v :: S))) : Go p e below Fin' T (mkF m pc Ls S) := by
  subst hp; exact G.via fun _ k => XS.lloadN X.here C.1 rfl (hb C.2.2.2.1 hd) hl k
theorem Go.lload (C : Cx p s m meth c Z own nm bytes maxL ret) (X : Stand p l e R s m args below meth c T locs cells slots) {k : Nat} {v : Int64} (hd : decode bytes pc = .ok (.lload k, 2)) (hl : Ls[k]? = some (.val (.long v))) (hp : pc + 2 = pc') (G : Go p e below Fin' T (mkF m pc' Ls (.long v :: S))) : Go p e below Fin' T (mkF m pc Ls S) := by
  subst hp; exact G.via fun _ k => XS.lload X.here C.1 rfl (hb C.2.2.2.1 hd) hl k
theorem Go.lstoreN (C : Cx p s m meth c Z own nm bytes maxL ret) (X : Stand p l e R s m args below meth c T locs cells slots) {k : Fin 4} {v : Int64} (hd : decode bytes pc = .ok (.lstore_n k, 1)) (hl : storeLocals Ls k.val (.long v) = some Ls') (hp : pc + 1 = pc') (G : Go p e below Fin' T (mkF m pc' Ls' S)) : Go p e below Fin' T (mkF m pc Ls (.long v :: S)) := by
  subst hp; exact G.via fun _ k => XS.lstoreN X.here C.1 rfl (hb C.2.2.2.1 hd) rfl hl k
theorem Go.lstore (C : Cx p s m meth c Z own nm bytes maxL ret) (X : Stand p l e R s m args below meth c T locs cells slots) {k : Nat} {v : Int64} (hd : decode bytes pc = .ok (.lstore k, 2)) (hl : storeLocals Ls k (.long v) = some Ls') (hp : pc + 2 = pc') (G : Go p e below Fin' T (mkF m pc' Ls' S)) : Go p e below Fin' T (mkF m pc Ls (.long v :: S)) := by
  subst hp; exact G.via fun _ k => XS.lstore X.here C.1 rfl (hb C.2.2.2.1 hd) rfl hl k
theorem Go.astoreN (C : Cx p s m meth c Z own nm bytes maxL ret) (X : Stand p l e R s m args below meth c T locs cells slots) {k : Fin 4} {v : Value} (hd : decode bytes pc = .ok (.astore_n k, 1)) (hv : v.isRef = true) (hl : storeLocals Ls k.val v = some Ls') (hp : pc + 1 = pc') (G : Go p e below Fin' T (mkF m pc' Ls' S)) : Go p e below Fin' T (mkF m pc Ls (v :: S)) := by
  subst hp; exact G.via fun _ k => XS.astoreN X.here C.1 rfl (hb C.2.2.2.1 hd) rfl hv hl k
theorem Go.astore (C : Cx p s m meth c Z own nm bytes maxL ret) (X : Stand p l e R s m args below meth c T locs cells slots) {k : Nat} {v : Value} (hd : decode bytes pc = .ok (.astore k, 2)) (hv : v.isRef = true) (hl : storeLocals Ls k v = some Ls') (hp : pc + 2 = pc') (G : Go p e below Fin' T (mkF m pc' Ls' S)) : Go p e below Fin' T (mkF m pc Ls (v :: S)) := by
  subst hp; exact G.via fun _ k => XS.astore X.here C.1 rfl (hb C.2.2.2.1 hd) rfl hv hl k
theorem Go.iconst (C : Cx p s m meth c Z own nm bytes maxL ret) (X : Stand p l e R s m args below meth c T locs cells slots) {i : Int} {z : Int32} (hd : decode bytes pc = .ok (.iconst i, 1)) (hz : Int32.ofInt i = z) (hp : pc + 1 = pc') (G : Go p e below Fin' T (mkF m pc' Ls (.int z :: S))) : Go p e below Fin' T (mkF m pc Ls S) := by
  subst hp; exact G.via fun _ k => XT.iconstV X.here C.1 rfl z (hb C.2.2.2.1 hd) hz k
theorem Go.bipush (C : Cx p s m meth c Z own nm bytes maxL ret) (X : Stand p l e R s m args below meth c T locs cells slots) {i : Int} {z : Int32} (hd : decode bytes pc = .ok (.bipush i, 2)) (hz : (Int8.ofInt i).toInt32 = z) (hp : pc + 2 = pc') (G : Go p e below Fin' T (mkF m pc' Ls (.int z :: S))) : Go p e below Fin' T (mkF m pc Ls S) := by
  subst hp; exact G.via fun _ k => XT.bipushV X.here C.1 rfl z (hb C.2.2.2.1 hd) hz k
theorem Go.sipush (C : Cx p s m meth c Z own nm bytes maxL ret) (X : Stand p l e R s m args below meth c T locs cells slots) {i : Int} {z : Int32} (hd : decode bytes pc = .ok (.sipush i, 3)) (hz : (Int16.ofInt i).toInt32 = z) (hp : pc + 3 = pc') (G : Go p e below Fin' T (mkF m pc' Ls (.int z :: S))) : Go p e below Fin' T (mkF m pc Ls S) := by
  subst hp; exact G.via fun _ k => XT.sipushV X.here C.1 rfl z (hb C.2.2.2.1 hd) hz k
theorem Go.lconst (C : Cx p s m meth c Z own nm bytes maxL ret) (X : Stand p l e R s m args below meth c T locs cells slots) {i : Fin 2} {z : Int64} (hd : decode bytes pc = .ok (.lconst i, 1)) (hz : Int64.ofNat i = z) (hp : pc + 1 = pc') (G : Go p e below Fin' T (mkF m pc' Ls (.long z :: S))) : Go p e below Fin' T (mkF m pc Ls S) := by
  subst hp; exact G.via fun _ k => XT.lconstV X.here C.1 rfl z (hb C.2.2.2.1 hd) hz k
theorem Go.aconstNull (C : Cx p s m meth c Z own nm bytes maxL ret) (X : Stand p l e R s m args below meth c T locs cells slots)  (hd : decode bytes pc = .ok (.aconst_null, 1))  (hp : pc + 1 = pc') (G : Go p e below Fin' T (mkF m pc' Ls (.null :: S))) : Go p e below Fin' T (mkF m pc Ls S) := by
  subst hp; exact G.via fun _ k => XS.aconstNull X.here C.1 rfl (hb C.2.2.2.1 hd) k
theorem Go.ldcI (C : Cx p s m meth c Z own nm bytes maxL ret) (X : Stand p l e R s m args below meth c T locs cells slots) {i : Nat} {z : Int32} (hd : decode bytes pc = .ok (.ldc i, 2)) (w : (Cond.constant own i z).before a0 Z = true) (hp : pc + 2 = pc') (G : Go p e below Fin' T (mkF m pc' Ls (.int z :: S))) : Go p e below Fin' T (mkF m pc Ls S) := by
  subst hp; exact G.via fun _ k => X.ldcI C.1 C.2.2.1 (mvT C.2.1 w) rfl (hb C.2.2.2.1 hd) k
theorem Go.ldcWI (C : Cx p s m meth c Z own nm bytes maxL ret) (X : Stand p l e R s m args below meth c T locs cells slots) {i : Nat} {z : Int32} (hd : decode bytes pc = .ok (.ldc_w i, 3)) (w : (Cond.constant own i z).before a0 Z = true) (hp : pc + 3 = pc') (G : Go p e below Fin' T (mkF m pc' Ls (.int z :: S))) : Go p e below Fin' T (mkF m pc Ls S) := by
  subst hp; exact G.via (X.ldcwInt C.1 C.2.2.1 (mvT C.2.1 w) (g := mkF m pc Ls S) rfl (hb C.2.2.2.1 hd))
theorem Go.ldc2J (C : Cx p s m meth c Z own nm bytes maxL ret) (X : Stand p l e R s m args below meth c T locs cells slots) {i : Nat} {z : Int64} (hd : decode bytes pc = .ok (.ldc2_w i, 3)) (w : (Cond.constantLong own i z).before a0 Z = true) (hp : pc + 3 = pc') (G : Go p e below Fin' T (mkF m pc' Ls (.long z :: S))) : Go p e below Fin' T (mkF m pc Ls S) := by
  subst hp; exact G.via fun _ k => X.ldc2J C.1 C.2.2.1 (mvT C.2.1 w) rfl (hb C.2.2.2.1 hd) k
theorem Go.iadd (C : Cx p s m meth c Z own nm bytes maxL ret) (X : Stand p l e R s m args below meth c T locs cells slots) {x y : Int32} (hd : decode bytes pc = .ok (.iadd, 1))  (hp : pc + 1 = pc') (G : Go p e below Fin' T (mkF m pc' Ls (.int (x + y) :: S))) : Go p e below Fin' T (mkF m pc Ls (.int y :: .int x :: S)) := by
  subst hp; exact G.via fun _ k => XS.iadd X.here C.1 rfl (hb C.2.2.2.1 hd) rfl k
theorem Go.ladd (C : Cx p s m meth c Z own nm bytes maxL ret) (X : Stand p l e R s m args below meth c T locs cells slots) {x y : Int64} (hd : decode bytes pc = .ok (.ladd, 1))  (hp : pc + 1 = pc') (G : Go p e below Fin' T (mkF m pc' Ls (.long (x + y) :: S))) : Go p e below Fin' T (mkF m pc Ls (.long y :: .long x :: S)) := by
  subst hp; exact G.via fun _ k => XS.ladd X.here C.1 rfl (hb C.2.2.2.1 hd) rfl k
theorem Go.isub (C : Cx p s m meth c Z own nm bytes maxL ret) (X : Stand p l e R s m args below meth c T locs cells slots) {x y : Int32} (hd : decode bytes pc = .ok (.isub, 1))  (hp : pc + 1 = pc') (G : Go p e below Fin' T (mkF m pc' Ls (.int (x - y) :: S))) : Go p e below Fin' T (mkF m pc Ls (.int y :: .int x :: S)) := by
  subst hp; exact G.via fun _ k => XS.isub X.here C.1 rfl (hb C.2.2.2.1 hd) rfl k
theorem Go.lsub (C : Cx p s m meth c Z own nm bytes maxL ret) (X : Stand p l e R s m args below meth c T locs cells slots) {x y : Int64} (hd : decode bytes pc = .ok (.lsub, 1))  (hp : pc + 1 = pc') (G : Go p e below Fin' T (mkF m pc' Ls (.long (x - y) :: S))) : Go p e below Fin' T (mkF m pc Ls (.long y :: .long x :: S)) := by
  subst hp; exact G.via fun _ k => XS.lsub X.here C.1 rfl (hb C.2.2.2.1 hd) rfl k
theorem Go.imul (C : Cx p s m meth c Z own nm bytes maxL ret) (X : Stand p l e R s m args below meth c T locs cells slots) {x y : Int32} (hd : decode bytes pc = .ok (.imul, 1))  (hp : pc + 1 = pc') (G : Go p e below Fin' T (mkF m pc' Ls (.int (x * y) :: S))) : Go p e below Fin' T (mkF m pc Ls (.int y :: .int x :: S)) := by
  subst hp; exact G.via fun _ k => XS.imul X.here C.1 rfl (hb C.2.2.2.1 hd) rfl k
theorem Go.lmul (C : Cx p s m meth c Z own nm bytes maxL ret) (X : Stand p l e R s m args below meth c T locs cells slots) {x y : Int64} (hd : decode bytes pc = .ok (.lmul, 1))  (hp : pc + 1 = pc') (G : Go p e below Fin' T (mkF m pc' Ls (.long (x * y) :: S))) : Go p e below Fin' T (mkF m pc Ls (.long y :: .long x :: S)) := by
  subst hp; exact G.via fun _ k => XS.lmul X.here C.1 rfl (hb C.2.2.2.1 hd) rfl k
theorem Go.iand (C : Cx p s m meth c Z own nm bytes maxL ret) (X : Stand p l e R s m args below meth c T locs cells slots) {x y : Int32} (hd : decode bytes pc = .ok (.iand, 1))  (hp : pc + 1 = pc') (G : Go p e below Fin' T (mkF m pc' Ls (.int (x &&& y) :: S))) : Go p e below Fin' T (mkF m pc Ls (.int y :: .int x :: S)) := by
  subst hp; exact G.via fun _ k => XS.iand X.here C.1 rfl (hb C.2.2.2.1 hd) rfl k
theorem Go.land (C : Cx p s m meth c Z own nm bytes maxL ret) (X : Stand p l e R s m args below meth c T locs cells slots) {x y : Int64} (hd : decode bytes pc = .ok (.land, 1))  (hp : pc + 1 = pc') (G : Go p e below Fin' T (mkF m pc' Ls (.long (x &&& y) :: S))) : Go p e below Fin' T (mkF m pc Ls (.long y :: .long x :: S)) := by
  subst hp; exact G.via fun _ k => XS.land X.here C.1 rfl (hb C.2.2.2.1 hd) rfl k
theorem Go.ior (C : Cx p s m meth c Z own nm bytes maxL ret) (X : Stand p l e R s m args below meth c T locs cells slots) {x y : Int32} (hd : decode bytes pc = .ok (.ior, 1))  (hp : pc + 1 = pc') (G : Go p e below Fin' T (mkF m pc' Ls (.int (x ||| y) :: S))) : Go p e below Fin' T (mkF m pc Ls (.int y :: .int x :: S)) := by
  subst hp; exact G.via fun _ k => XS.ior X.here C.1 rfl (hb C.2.2.2.1 hd) rfl k
theorem Go.lor (C : Cx p s m meth c Z own nm bytes maxL ret) (X : Stand p l e R s m args below meth c T locs cells slots) {x y : Int64} (hd : decode bytes pc = .ok (.lor, 1))  (hp : pc + 1 = pc') (G : Go p e below Fin' T (mkF m pc' Ls (.long (x ||| y) :: S))) : Go p e below Fin' T (mkF m pc Ls (.long y :: .long x :: S)) := by
  subst hp; exact G.via fun _ k => XS.lor X.here C.1 rfl (hb C.2.2.2.1 hd) rfl k
theorem Go.ixor (C : Cx p s m meth c Z own nm bytes maxL ret) (X : Stand p l e R s m args below meth c T locs cells slots) {x y : Int32} (hd : decode bytes pc = .ok (.ixor, 1))  (hp : pc + 1 = pc') (G : Go p e below Fin' T (mkF m pc' Ls (.int (x ^^^ y) :: S))) : Go p e below Fin' T (mkF m pc Ls (.int y :: .int x :: S)) := by
  subst hp; exact G.via fun _ k => XS.ixor X.here C.1 rfl (hb C.2.2.2.1 hd) rfl k
theorem Go.lxor (C : Cx p s m meth c Z own nm bytes maxL ret) (X : Stand p l e R s m args below meth c T locs cells slots) {x y : Int64} (hd : decode bytes pc = .ok (.lxor, 1))  (hp : pc + 1 = pc') (G : Go p e below Fin' T (mkF m pc' Ls (.long (x ^^^ y) :: S))) : Go p e below Fin' T (mkF m pc Ls (.long y :: .long x :: S)) := by
  subst hp; exact G.via fun _ k => XS.lxor X.here C.1 rfl (hb C.2.2.2.1 hd) rfl k
theorem Go.ishl (C : Cx p s m meth c Z own nm bytes maxL ret) (X : Stand p l e R s m args below meth c T locs cells slots) {x y : Int32} (hd : decode bytes pc = .ok (.ishl, 1))  (hp : pc + 1 = pc') (G : Go p e below Fin' T (mkF m pc' Ls (.int (x <<< (y &&& 31)) :: S))) : Go p e below Fin' T (mkF m pc Ls (.int y :: .int x :: S)) := by
  subst hp; exact G.via fun _ k => XS.ishl X.here C.1 rfl (hb C.2.2.2.1 hd) rfl k
theorem Go.ishr (C : Cx p s m meth c Z own nm bytes maxL ret) (X : Stand p l e R s m args below meth c T locs cells slots) {x y : Int32} (hd : decode bytes pc = .ok (.ishr, 1))  (hp : pc + 1 = pc') (G : Go p e below Fin' T (mkF m pc' Ls (.int (x >>> (y &&& 31)) :: S))) : Go p e below Fin' T (mkF m pc Ls (.int y :: .int x :: S)) := by
  subst hp; exact G.via fun _ k => XS.ishr X.here C.1 rfl (hb C.2.2.2.1 hd) rfl k
theorem Go.iushr (C : Cx p s m meth c Z own nm bytes maxL ret) (X : Stand p l e R s m args below meth c T locs cells slots) {x y : Int32} (hd : decode bytes pc = .ok (.iushr, 1))  (hp : pc + 1 = pc') (G : Go p e below Fin' T (mkF m pc' Ls (.int ((x.toUInt32 >>> (y &&& 31).toUInt32).toInt32) :: S))) : Go p e below Fin' T (mkF m pc Ls (.int y :: .int x :: S)) := by
  subst hp; exact G.via fun _ k => XS.iushr X.here C.1 rfl (hb C.2.2.2.1 hd) rfl k
theorem Go.lshl (C : Cx p s m meth c Z own nm bytes maxL ret) (X : Stand p l e R s m args below meth c T locs cells slots) {x : Int64} {y : Int32} (hd : decode bytes pc = .ok (.lshl, 1))  (hp : pc + 1 = pc') (G : Go p e below Fin' T (mkF m pc' Ls (.long (x <<< (y &&& 0x3f).toInt64) :: S))) : Go p e below Fin' T (mkF m pc Ls (.int y :: .long x :: S)) := by
  subst hp; exact G.via fun _ k => XS.lshl X.here C.1 rfl (hb C.2.2.2.1 hd) rfl k
theorem Go.lshr (C : Cx p s m meth c Z own nm bytes maxL ret) (X : Stand p l e R s m args below meth c T locs cells slots) {x : Int64} {y : Int32} (hd : decode bytes pc = .ok (.lshr, 1))  (hp : pc + 1 = pc') (G : Go p e below Fin' T (mkF m pc' Ls (.long (x >>> (y &&& 0x3f).toInt64) :: S))) : Go p e below Fin' T (mkF m pc Ls (.int y :: .long x :: S)) := by
  subst hp; exact G.via fun _ k => XS.lshr X.here C.1 rfl (hb C.2.2.2.1 hd) rfl k
theorem Go.lushr (C : Cx p s m meth c Z own nm bytes maxL ret) (X : Stand p l e R s m args below meth c T locs cells slots) {x : Int64} {y : Int32} (hd : decode bytes pc = .ok (.lushr, 1))  (hp : pc + 1 = pc') (G : Go p e below Fin' T (mkF m pc' Ls (.long ((x.toUInt64 >>> (y &&& 0x3f).toInt64.toUInt64).toInt64) :: S))) : Go p e below Fin' T (mkF m pc Ls (.int y :: .long x :: S)) := by
  subst hp; exact G.via fun _ k => XS.lushr X.here C.1 rfl (hb C.2.2.2.1 hd) rfl k
theorem Go.idiv (C : Cx p s m meth c Z own nm bytes maxL ret) (X : Stand p l e R s m args below meth c T locs cells slots) {x y : Int32} (hd : decode bytes pc = .ok (.idiv, 1)) (hy : y ≠ 0) (hp : pc + 1 = pc') (G : Go p e below Fin' T (mkF m pc' Ls (.int (x / y) :: S))) : Go p e below Fin' T (mkF m pc Ls (.int y :: .int x :: S)) := by
  subst hp; exact G.via fun _ k => XS.idiv X.here C.1 rfl (hb C.2.2.2.1 hd) rfl hy k
theorem Go.irem (C : Cx p s m meth c Z own nm bytes maxL ret) (X : Stand p l e R s m args below meth c T locs cells slots) {x y : Int32} (hd : decode bytes pc = .ok (.irem, 1)) (hy : y ≠ 0) (hp : pc + 1 = pc') (G : Go p e below Fin' T (mkF m pc' Ls (.int (x % y) :: S))) : Go p e below Fin' T (mkF m pc Ls (.int y :: .int x :: S)) := by
  subst hp; exact G.via fun _ k => iremM X C.1 rfl (hb C.2.2.2.1 hd) rfl hy k
theorem Go.ldiv (C : Cx p s m meth c Z own nm bytes maxL ret) (X : Stand p l e R s m args below meth c T locs cells slots) {x y : Int64} (hd : decode bytes pc = .ok (.ldiv, 1)) (hy : y ≠ 0) (hp : pc + 1 = pc') (G : Go p e below Fin' T (mkF m pc' Ls (.long (x / y) :: S))) : Go p e below Fin' T (mkF m pc Ls (.long y :: .long x :: S)) := by
  subst hp; exact G.via fun _ k => XS.ldiv X.here C.1 rfl (hb C.2.2.2.1 hd) rfl hy k
theorem Go.ineg (C : Cx p s m meth c Z own nm bytes maxL ret) (X : Stand p l e R s m args below meth c T locs cells slots) {x : Int32} (hd : decode bytes pc = .ok (.ineg, 1))  (hp : pc + 1 = pc') (G : Go p e below Fin' T (mkF m pc' Ls (.int (-x) :: S))) : Go p e below Fin' T (mkF m pc Ls (.int x :: S)) := by
  subst hp; exact G.via fun _ k => XS.ineg X.here C.1 rfl (hb C.2.2.2.1 hd) rfl k
theorem Go.lneg (C : Cx p s m meth c Z own nm bytes maxL ret) (X : Stand p l e R s m args below meth c T locs cells slots) {x : Int64} (hd : decode bytes pc = .ok (.lneg, 1))  (hp : pc + 1 = pc') (G : Go p e below Fin' T (mkF m pc' Ls (.long (-x) :: S))) : Go p e below Fin' T (mkF m pc Ls (.long x :: S)) := by
  subst hp; exact G.via fun _ k => XS.lneg X.here C.1 rfl (hb C.2.2.2.1 hd) rfl k
theorem Go.i2l (C : Cx p s m meth c Z own nm bytes maxL ret) (X : Stand p l e R s m args below meth c T locs cells slots) {x : Int32} (hd : decode bytes pc = .ok (.i2l, 1))  (hp : pc + 1 = pc') (G : Go p e below Fin' T (mkF m pc' Ls (.long (x.toInt64) :: S))) : Go p e below Fin' T (mkF m pc Ls (.int x :: S)) := by
  subst hp; exact G.via fun _ k => XS.i2l X.here C.1 rfl (hb C.2.2.2.1 hd) rfl k
theorem Go.l2i (C : Cx p s m meth c Z own nm bytes maxL ret) (X : Stand p l e R s m args below meth c T locs cells slots) {x : Int64} (hd : decode bytes pc = .ok (.l2i, 1))  (hp : pc + 1 = pc') (G : Go p e below Fin' T (mkF m pc' Ls (.int (x.toInt32) :: S))) : Go p e below Fin' T (mkF m pc Ls (.long x :: S)) := by
  subst hp; exact G.via fun _ k => XS.l2i X.here C.1 rfl (hb C.2.2.2.1 hd) rfl k
theorem Go.i2b (C : Cx p s m meth c Z own nm bytes maxL ret) (X : Stand p l e R s m args below meth c T locs cells slots) {x : Int32} (hd : decode bytes pc = .ok (.i2b, 1))  (hp : pc + 1 = pc') (G : Go p e below Fin' T (mkF m pc' Ls (.int (x.toInt8.toInt32) :: S))) : Go p e below Fin' T (mkF m pc Ls (.int x :: S)) := by
  subst hp; exact G.via fun _ k => XS.i2b X.here C.1 rfl (hb C.2.2.2.1 hd) rfl k
theorem Go.i2c (C : Cx p s m meth c Z own nm bytes maxL ret) (X : Stand p l e R s m args below meth c T locs cells slots) {x : Int32} (hd : decode bytes pc = .ok (.i2c, 1))  (hp : pc + 1 = pc') (G : Go p e below Fin' T (mkF m pc' Ls (.int (x.toUInt32.toUInt16.toUInt32.toInt32) :: S))) : Go p e below Fin' T (mkF m pc Ls (.int x :: S)) := by
  subst hp; exact G.via fun _ k => XS.i2c X.here C.1 rfl (hb C.2.2.2.1 hd) rfl k
theorem Go.i2s (C : Cx p s m meth c Z own nm bytes maxL ret) (X : Stand p l e R s m args below meth c T locs cells slots) {x : Int32} (hd : decode bytes pc = .ok (.i2s, 1))  (hp : pc + 1 = pc') (G : Go p e below Fin' T (mkF m pc' Ls (.int (x.toInt16.toInt32) :: S))) : Go p e below Fin' T (mkF m pc Ls (.int x :: S)) := by
  subst hp; exact G.via fun _ k => XS.i2s X.here C.1 rfl (hb C.2.2.2.1 hd) rfl k
theorem Go.lcmp (C : Cx p s m meth c Z own nm bytes maxL ret) (X : Stand p l e R s m args below meth c T locs cells slots) {x y : Int64} (hd : decode bytes pc = .ok (.lcmp, 1))  (hp : pc + 1 = pc') (G : Go p e below Fin' T (mkF m pc' Ls (.int (lcmpW x y) :: S))) : Go p e below Fin' T (mkF m pc Ls (.long y :: .long x :: S)) := by
  subst hp; exact G.via fun _ k => XS.lcmp X.here C.1 rfl (hb C.2.2.2.1 hd) rfl k
theorem Go.iinc (C : Cx p s m meth c Z own nm bytes maxL ret) (X : Stand p l e R s m args below meth c T locs cells slots) {k : Nat} {i : Int} {z x : Int32} (hd : decode bytes pc = .ok (.iinc k i, 3)) (hz : Int32.ofInt i = z) (hl : Ls[k]? = some (.val (.int x))) (hl' : storeLocals Ls k (.int (x + z)) = some Ls') (hp : pc + 3 = pc') (G : Go p e below Fin' T (mkF m pc' Ls' S)) : Go p e below Fin' T (mkF m pc Ls S) := by
  subst hp; exact G.via fun _ k => XT.iincV X.here C.1 rfl z (hb C.2.2.2.1 hd) hz hl hl' k
theorem Go.dup (C : Cx p s m meth c Z own nm bytes maxL ret) (X : Stand p l e R s m args below meth c T locs cells slots) {v : Value} (hd : decode bytes pc = .ok (.dup, 1)) (hc : v.category = 1) (hp : pc + 1 = pc') (G : Go p e below Fin' T (mkF m pc' Ls (v :: v :: S))) : Go p e below Fin' T (mkF m pc Ls (v :: S)) := by
  subst hp; exact G.via fun _ k => XS.dup X.here C.1 rfl (hb C.2.2.2.1 hd) rfl hc k
theorem Go.pop (C : Cx p s m meth c Z own nm bytes maxL ret) (X : Stand p l e R s m args below meth c T locs cells slots) {v : Value} (hd : decode bytes pc = .ok (.pop, 1)) (hc : v.category = 1) (hp : pc + 1 = pc') (G : Go p e below Fin' T (mkF m pc' Ls S)) : Go p e below Fin' T (mkF m pc Ls (v :: S)) := by
  subst hp; exact G.via fun _ k => XS.pop X.here C.1 rfl (hb C.2.2.2.1 hd) rfl hc k
theorem Go.dupX1 (C : Cx p s m meth c Z own nm bytes maxL ret) (X : Stand p l e R s m args below meth c T locs cells slots) {v w : Value} (hd : decode bytes pc = .ok (.dup_x1, 1)) (hc : v.category = 1) (hc' : w.category = 1) (hp : pc + 1 = pc') (G : Go p e below Fin' T (mkF m pc' Ls (v :: w :: v :: S))) : Go p e below Fin' T (mkF m pc Ls (v :: w :: S)) := by
  subst hp; exact G.via fun _ k => XS.dupX1 X.here C.1 rfl (hb C.2.2.2.1 hd) rfl hc hc' k
theorem Go.dup2 (C : Cx p s m meth c Z own nm bytes maxL ret) (X : Stand p l e R s m args below meth c T locs cells slots) {v w : Value} (hd : decode bytes pc = .ok (.dup2, 1)) (hc : v.category = 1) (hc' : w.category = 1) (hp : pc + 1 = pc') (G : Go p e below Fin' T (mkF m pc' Ls (v :: w :: v :: w :: S))) : Go p e below Fin' T (mkF m pc Ls (v :: w :: S)) := by
  subst hp; exact G.via fun _ k => XT.dup2 X.here C.1 rfl (hb C.2.2.2.1 hd) rfl hc hc' k
theorem Go.dup2L (C : Cx p s m meth c Z own nm bytes maxL ret) (X : Stand p l e R s m args below meth c T locs cells slots) {x : Int64} (hd : decode bytes pc = .ok (.dup2, 1))  (hp : pc + 1 = pc') (G : Go p e below Fin' T (mkF m pc' Ls (.long x :: .long x :: S))) : Go p e below Fin' T (mkF m pc Ls (.long x :: S)) := by
  subst hp; exact G.via fun _ k => XT.dup2L X.here C.1 rfl (hb C.2.2.2.1 hd) rfl k
theorem Go.goto (C : Cx p s m meth c Z own nm bytes maxL ret) (X : Stand p l e R s m args below meth c T locs cells slots)  {o : Int} (hd : decode bytes pc = .ok (.goto o, 3))  (ho : 0 ≤ (pc : Int) + o) (hp : ((pc : Int) + o).toNat = pc') (G : Go p e below Fin' T (mkF m pc' Ls S)) : Go p e below Fin' T (mkF m pc Ls S) :=
  G.via fun _ k => XS.goto X.here C.1 rfl rfl (hb C.2.2.2.1 hd) ho hp k
theorem Go.ifYes (C : Cx p s m meth c Z own nm bytes maxL ret) (X : Stand p l e R s m args below meth c T locs cells slots) {cd : ClassFile.Cond} {x : Int32} {o : Int} (hd : decode bytes pc = .ok (.ifCond cd o, 3)) (hc : ifCond.holds cd x = true) (ho : 0 ≤ (pc : Int) + o) (hp : ((pc : Int) + o).toNat = pc') (G : Go p e below Fin' T (mkF m pc' Ls S)) : Go p e below Fin' T (mkF m pc Ls (.int x :: S)) :=
  G.via fun _ k => XS.ifYes X.here C.1 rfl rfl (hb C.2.2.2.1 hd) rfl hc ho hp k
theorem Go.ifNo (C : Cx p s m meth c Z own nm bytes maxL ret) (X : Stand p l e R s m args below meth c T locs cells slots) {cd : ClassFile.Cond} {x : Int32} {o : Int} (hd : decode bytes pc = .ok (.ifCond cd o, 3)) (hc : ifCond.holds cd x = false) (hp : pc + 3 = pc') (G : Go p e below Fin' T (mkF m pc' Ls S)) : Go p e below Fin' T (mkF m pc Ls (.int x :: S)) := by
  subst hp; exact G.via fun _ k => XS.ifNo X.here C.1 rfl (hb C.2.2.2.1 hd) rfl hc k
theorem Go.icmpYes (C : Cx p s m meth c Z own nm bytes maxL ret) (X : Stand p l e R s m args below meth c T locs cells slots) {cd : ClassFile.Cond} {x y : Int32} {o : Int} (hd : decode bytes pc = .ok (.if_icmp cd o, 3)) (hc : if_icmp.holds cd x y = true) (ho : 0 ≤ (pc : Int) + o) (hp : ((pc : Int) + o).toNat = pc') (G : Go p e below Fin' T (mkF m pc' Ls S)) : Go p e below Fin' T (mkF m pc Ls (.int y :: .int x :: S)) :=
  G.via fun _ k => XS.icmpYes X.here C.1 rfl rfl (hb C.2.2.2.1 hd) rfl hc ho hp k
theorem Go.icmpNo (C : Cx p s m meth c Z own nm bytes maxL ret) (X : Stand p l e R s m args below meth c T locs cells slots) {cd : ClassFile.Cond} {x y : Int32} {o : Int} (hd : decode bytes pc = .ok (.if_icmp cd o, 3)) (hc : if_icmp.holds cd x y = false) (hp : pc + 3 = pc') (G : Go p e below Fin' T (mkF m pc' Ls S)) : Go p e below Fin' T (mkF m pc Ls (.int y :: .int x :: S)) := by
  subst hp; exact G.via fun _ k => XS.icmpNo X.here C.1 rfl (hb C.2.2.2.1 hd) rfl hc k
theorem Go.ifnullYes (C : Cx p s m meth c Z own nm bytes maxL ret) (X : Stand p l e R s m args below meth c T locs cells slots)  {o : Int} (hd : decode bytes pc = .ok (.ifnull o, 3))  (ho : 0 ≤ (pc : Int) + o) (hp : ((pc : Int) + o).toNat = pc') (G : Go p e below Fin' T (mkF m pc' Ls S)) : Go p e below Fin' T (mkF m pc Ls (.null :: S)) :=
  G.via fun _ k => XS.ifnullYes X.here C.1 rfl rfl (hb C.2.2.2.1 hd) rfl ho hp k
theorem Go.ifnullNo (C : Cx p s m meth c Z own nm bytes maxL ret) (X : Stand p l e R s m args below meth c T locs cells slots) {b : Addr} {o : Int} (hd : decode bytes pc = .ok (.ifnull o, 3))  (hp : pc + 3 = pc') (G : Go p e below Fin' T (mkF m pc' Ls S)) : Go p e below Fin' T (mkF m pc Ls (.ref b :: S)) := by
  subst hp; exact G.via fun _ k => XS.ifnullNo X.here C.1 rfl (hb C.2.2.2.1 hd) rfl k
theorem Go.ifnonnullYes (C : Cx p s m meth c Z own nm bytes maxL ret) (X : Stand p l e R s m args below meth c T locs cells slots) {b : Addr} {o : Int} (hd : decode bytes pc = .ok (.ifnonnull o, 3))  (ho : 0 ≤ (pc : Int) + o) (hp : ((pc : Int) + o).toNat = pc') (G : Go p e below Fin' T (mkF m pc' Ls S)) : Go p e below Fin' T (mkF m pc Ls (.ref b :: S)) :=
  G.via fun _ k => XS.ifnonnullYes X.here C.1 rfl rfl (hb C.2.2.2.1 hd) rfl ho hp k
theorem Go.ifnonnullNo (C : Cx p s m meth c Z own nm bytes maxL ret) (X : Stand p l e R s m args below meth c T locs cells slots)  {o : Int} (hd : decode bytes pc = .ok (.ifnonnull o, 3))  (hp : pc + 3 = pc') (G : Go p e below Fin' T (mkF m pc' Ls S)) : Go p e below Fin' T (mkF m pc Ls (.null :: S)) := by
  subst hp; exact G.via fun _ k => XS.ifnonnullNo X.here C.1 rfl (hb C.2.2.2.1 hd) rfl k
theorem Go.acmpYes (C : Cx p s m meth c Z own nm bytes maxL ret) (X : Stand p l e R s m args below meth c T locs cells slots) {cd : ClassFile.ACond} {v w : Value} {o : Int} (hd : decode bytes pc = .ok (.if_acmp cd o, 3)) (hv : v.isRef = true) (hw : w.isRef = true) (hc : XT.acmp cd v w = true) (ho : 0 ≤ (pc : Int) + o) (hp : ((pc : Int) + o).toNat = pc') (G : Go p e below Fin' T (mkF m pc' Ls S)) : Go p e below Fin' T (mkF m pc Ls (w :: v :: S)) :=
  G.via fun _ k => XT.acmpYes X.here C.1 rfl rfl (hb C.2.2.2.1 hd) rfl hv hw hc ho hp k
theorem Go.acmpNo (C : Cx p s m meth c Z own nm bytes maxL ret) (X : Stand p l e R s m args below meth c T locs cells slots) {cd : ClassFile.ACond} {v w : Value} {o : Int} (hd : decode bytes pc = .ok (.if_acmp cd o, 3)) (hv : v.isRef = true) (hw : w.isRef = true) (hc : XT.acmp cd v w = false) (hp : pc + 3 = pc') (G : Go p e below Fin' T (mkF m pc' Ls S)) : Go p e below Fin' T (mkF m pc Ls (w :: v :: S)) := by
  subst hp; exact G.via fun _ k => XT.acmpNo X.here C.1 rfl (hb C.2.2.2.1 hd) rfl hv hw hc k
theorem Go.tswIn (C : Cx p s m meth c Z own nm bytes maxL ret) (X : Stand p l e R s m args below meth c T locs cells slots) {dflt low high : Int} {offs : Array Int} {len : Nat} {o : Int} {i : Int32} (hd : decode bytes pc = .ok (.tableswitch dflt low high offs, len)) (hin : ¬ (i.toInt < low ∨ i.toInt > high)) (hoff : offs[(i.toInt - low).toNat]? = some o) (ho : 0 ≤ (pc : Int) + o) (hp : ((pc : Int) + o).toNat = pc') (G : Go p e below Fin' T (mkF m pc' Ls S)) : Go p e below Fin' T (mkF m pc Ls (.int i :: S)) :=
  G.via fun _ k => XS.tswIn X.here C.1 rfl rfl (hb C.2.2.2.1 hd) rfl hin hoff ho hp k
theorem Go.tswOut (C : Cx p s m meth c Z own nm bytes maxL ret) (X : Stand p l e R s m args below meth c T locs cells slots) {dflt low high : Int} {offs : Array Int} {len : Nat} {i : Int32} (hd : decode bytes pc = .ok (.tableswitch dflt low high offs, len)) (hout : i.toInt < low ∨ i.toInt > high) (ho : 0 ≤ (pc : Int) + dflt) (hp : ((pc : Int) + dflt).toNat = pc') (G : Go p e below Fin' T (mkF m pc' Ls S)) : Go p e below Fin' T (mkF m pc Ls (.int i :: S)) :=
  G.via fun _ k => XS.tswOut X.here C.1 rfl rfl (hb C.2.2.2.1 hd) rfl hout ho hp k
/-! the returns -/
theorem Go.retV (C : Cx p s m meth c Z own nm bytes maxL ret) (X : Stand p l e R s m args below meth c T locs cells slots)  (hr : ret = none) (hd : decode bytes pc = .ok (.return_, 1))  (hq : Q none T.heap locs) (hc : cells ≤ RC) (hs : slots ≤ RS) : Go p e below (Fn s RC RS Q) T (mkF m pc Ls []) := by
  have hret := C.2.2.2.2.2.1
  have hlk := C.2.2.2.2.2.2.2
  rw [hr] at hret
  obtain ⟨fs, hl, hrun, hended, hW, hsame⟩ := X.leave (v := none) (fun h => by first | rfl | (rw [hret] at h; cases h)) hlk
  exact ⟨_, _, X.returnOut C.1 hret (hb C.2.2.2.1 hd) hl, hrun, hended, _, _, rfl, hq, ⟨_, rfl⟩, hW, hsame.mono hc hs⟩
theorem Go.retN (C : Cx p s m meth c Z own nm bytes maxL ret) (X : Stand p l e R s m args below meth c T locs cells slots) {t : FieldType} {z : Int32} (hr : ret = some t) (hd : decode bytes pc = .ok (.ireturn, 1)) (ht : t = .boolean ∨ t = .byte ∨ t = .char ∨ t = .short) (hq : Q (some (.int (nar t z))) T.heap locs) (hc : cells ≤ RC) (hs : slots ≤ RS) : Go p e below (Fn s RC RS Q) T (mkF m pc Ls (.int z :: S)) := by
  have hret := C.2.2.2.2.2.1
  have hlk := C.2.2.2.2.2.2.2
  rw [hr] at hret
  obtain ⟨fs, hl, hrun, hended, hW, hsame⟩ := X.leave (v := (some (.int (nar t z)))) (fun h => by first | rfl | (rw [hret] at h; cases h)) hlk
  exact ⟨_, _, Jvm.RoadKit.retN X C.1 hret ht (hb C.2.2.2.1 hd) hl, hrun, hended, _, _, rfl, hq, ⟨_, rfl⟩, hW, hsame.mono hc hs⟩
theorem Go.retI (C : Cx p s m meth c Z own nm bytes maxL ret) (X : Stand p l e R s m args below meth c T locs cells slots) {z : Int32} (hr : ret = some .int) (hd : decode bytes pc = .ok (.ireturn, 1))  (hq : Q (some (.int z)) T.heap locs) (hc : cells ≤ RC) (hs : slots ≤ RS) : Go p e below (Fn s RC RS Q) T (mkF m pc Ls (.int z :: S)) := by
  have hret := C.2.2.2.2.2.1
  have hlk := C.2.2.2.2.2.2.2
  rw [hr] at hret
  obtain ⟨fs, hl, hrun, hended, hW, hsame⟩ := X.leave (v := (some (.int z))) (fun h => by first | rfl | (rw [hret] at h; cases h)) hlk
  exact ⟨_, _, retOut X C.1 hret rfl (Or.inl ⟨rfl, Or.inl rfl, z, rfl⟩) (hb C.2.2.2.1 hd) hl, hrun, hended, _, _, rfl, hq, ⟨_, rfl⟩, hW, hsame.mono hc hs⟩
theorem Go.retJ (C : Cx p s m meth c Z own nm bytes maxL ret) (X : Stand p l e R s m args below meth c T locs cells slots) {z : Int64} (hr : ret = some .long) (hd : decode bytes pc = .ok (.lreturn, 1))  (hq : Q (some (.long z)) T.heap locs) (hc : cells ≤ RC) (hs : slots ≤ RS) : Go p e below (Fn s RC RS Q) T (mkF m pc Ls (.long z :: S)) := by
  have hret := C.2.2.2.2.2.1
  have hlk := C.2.2.2.2.2.2.2
  rw [hr] at hret
  obtain ⟨fs, hl, hrun, hended, hW, hsame⟩ := X.leave (v := (some (.long z))) (fun h => by first | rfl | (rw [hret] at h; cases h)) hlk
  exact ⟨_, _, retOut X C.1 hret rfl (Or.inr (Or.inl ⟨rfl, rfl, z, rfl⟩)) (hb C.2.2.2.1 hd) hl, hrun, hended, _, _, rfl, hq, ⟨_, rfl⟩, hW, hsame.mono hc hs⟩
theorem Go.retA (C : Cx p s m meth c Z own nm bytes maxL ret) (X : Stand p l e R s m args below meth c T locs cells slots) {t : FieldType} {v : Value} (hr : ret = some t) (hd : decode bytes pc = .ok (.areturn, 1)) (ht : t.isReference = true) (hv : v.isRef = true) (hn : narrow t v = v) (hq : Q (some v) T.heap locs) (hc : cells ≤ RC) (hs : slots ≤ RS) : Go p e below (Fn s RC RS Q) T (mkF m pc Ls (v :: S)) := by
  have hret := C.2.2.2.2.2.1
  have hlk := C.2.2.2.2.2.2.2
  rw [hr] at hret
  obtain ⟨fs, hl, hrun, hended, hW, hsame⟩ := X.leave (v := (some v)) (fun h => by first | rfl | (rw [hret] at h; cases h)) hlk
  exact ⟨_, _, retOut X C.1 hret hn (Or.inr (Or.inr (Or.inr (Or.inr ⟨rfl, ht, hv⟩)))) (hb C.2.2.2.1 hd) hl, hrun, hended, _, _, rfl, hq, ⟨_, rfl⟩, hW, hsame.mono hc hs⟩
/-! arrays whose elements are all known -/
def AL (Z : State) (h : Heap) (a : Addr) (k : ClassId) (ty : FieldType) (vs : List Value) : Prop := ∃ c : Cell, Arr Z h a c ty ∧ c.cls = k ∧ c.slots = vs.toArray
theorem AL.lt {a : Addr} {k : ClassId} {ty : FieldType} {vs : List Value} (F : AL Z h a k ty vs) : a < h.size := by obtain ⟨c, A, -⟩ := F; exact A.lt
theorem AL.ext {h' : Heap} {a : Addr} {k : ClassId} {ty : FieldType} {vs : List Value} (E : Ext h h') (F : AL Z h a k ty vs) : AL Z h' a k ty vs := by obtain ⟨c, A, r⟩ := F; exact ⟨c, A.ext E, r⟩
theorem AL.other {h' : Heap} {a b : Addr} {sl : Nat} {v : Value} {k : ClassId} {ty : FieldType} {vs : List Value} (W : Wr h h' a sl v) (F : AL Z h b k ty vs) (q : b ≠ a) : AL Z h' b k ty vs := by obtain ⟨c, A, r⟩ := F; exact ⟨c, A.other W q, r⟩
theorem AL.keep {h' : Heap} {a : Addr} {ws : List Addr} {k : ClassId} {ty : FieldType} {vs : List Value} (F : AL Z h a k ty vs) (K : Keep h h' ws) (q : a ∉ ws) : AL Z h' a k ty vs := by obtain ⟨c, A, r⟩ := F; exact ⟨c, ⟨K.2.1 a c A.1 q, A.2⟩, r⟩
theorem AL.set {h' : Heap} {a : Addr} {i : Nat} {v : Value} {k : ClassId} {ty : FieldType} {vs : List Value} (F : AL Z h a k ty vs) (W : Wr h h' a i v) : AL Z h' a k ty (vs.set i v) := by
  obtain ⟨c, A, r1, r2⟩ := F
  exact ⟨_, A.same W, r1, by simp [Cell.setSlot, r2]⟩
theorem AL.new {a : Addr} {k : ClassId} {ty : FieldType} {n : Int32} (A : Arr Z h a (newA k ty n) ty) : AL Z h a k ty (List.replicate n.toNatClampNeg (defaultValue ty)) := ⟨_, A, rfl, by simp [newA]⟩
theorem AL.arv {a : Addr} {k : ClassId} {ty : FieldType} {n : Int32} {vs : List Value} {dv : Value} (F : AL Z h a k ty vs) (hn : ¬ n < 0) (hl : n.toNatClampNeg = vs.length) (hf : ∀ v ∈ vs, fits ty v = true) : Arv Z h a k ty n vs dv := by
  obtain ⟨c, A, r1, r2⟩ := F
  refine ⟨c, A, r1, by rw [r2]; simp [hl], hn, fun i hi => ?_, fun i hi => ?_⟩
  · have hi' : i < vs.length := by simpa [r2] using hi
    simp [r2, List.getD, List.getElem?_eq_getElem hi']
  · have hi' : i < vs.length := by simpa [r2] using hi
    have q : vs.getD i dv = vs[i] := by simp [List.getD, List.getElem?_eq_getElem hi']
    rw [q]; exact hf _ (List.getElem_mem hi')
theorem AL.of_arv {a : Addr} {k : ClassId} {ty : FieldType} {n : Int32} {vs : List Value} {dv : Value} (F : Arv Z h a k ty n vs dv) (hl : n.toNatClampNeg = vs.length) : AL Z h a k ty vs := by
  obtain ⟨c, A, r1, r2, -, H, -⟩ := F
  refine ⟨c, A, r1, ?_⟩
  apply Array.ext_getElem?
  intro i
  by_cases hi : i < c.slots.size
  · have hi' : i < vs.length := by omega
    rw [H i hi]
    simp [List.getD, List.getElem?_eq_getElem hi']
  · have hi' : vs.length ≤ i := by omega
    rw [Array.getElem?_eq_none (by omega)]
    simp [List.getElem?_eq_none hi']
theorem Sta.old {n d K1 : String} {v : Value} (F : Sta Z Z.heap K1 n d v) (O : Ext Z.heap h) : Sta Z h K1 n d v := F.ext O
theorem Ext.trans {h1 h2 h3 : Heap} (E : Ext h1 h2) (E' : Ext h2 h3) : Ext h1 h3 := ⟨Nat.le_trans E.1 E'.1, fun x c q => E'.2 x c (E.2 x c q)⟩
theorem Ext.refl (h : Heap) : Ext h h := ⟨Nat.le_refl _, fun _ _ q => q⟩
theorem Ext.wr {h1 h2 h3 : Heap} {a : Addr} {sl : Nat} {v : Value} (E : Ext h1 h2) (W : Wr h2 h3 a sl v) (q : h1.size ≤ a) : Ext h1 h3 := by
  refine ⟨by rw [W.size]; exact E.1, fun x c hx => ?_⟩
  obtain ⟨c', e1, -, -, -, e5, -⟩ := wr_at W (E.2 x c hx)
  have ne : x ≠ a := fun e => absurd (Array.getElem?_eq_some_iff.mp hx).1 (by rw [e]; exact Nat.not_lt.mpr q)
  rw [← e5 ne]; exact e1
theorem Ext.keep {h1 h2 h3 : Heap} {ws : List Addr} (E : Ext h1 h2) (K : Keep h2 h3 ws) (q : ∀ x ∈ ws, h1.size ≤ x) : Ext h1 h3 := ⟨Nat.le_trans E.1 K.1, fun x c hx => K.2.1 x c (E.2 x c hx) fun z => absurd (Array.getElem?_eq_some_iff.mp hx).1 (Nat.not_lt.mpr (q x z))⟩
theorem Keep.toExt {h1 h2 : Heap} (K : Keep h1 h2 []) : Ext h1 h2 := ⟨K.1, fun x c hx => K.2.1 x c hx (fun z => nomatch z)⟩
theorem Keep.of_ext {h1 h2 : Heap} {ws : List Addr} (E : Ext h1 h2) : Keep h1 h2 ws := (Keep.refl h1 ws).ext E
theorem Keep.drop {h1 h2 : Heap} {ws ws' : List Addr} (K : Keep h1 h2 ws) (q : ∀ x ∈ ws, x ∈ ws' ∨ h1.size ≤ x) : Keep h1 h2 ws' := (Keep.refl h1 ws').trans K q
theorem Ins.keep {h' : Heap} {a : Addr} {ws : List Addr} {K1 : String} {bo : Bool} (F : Ins Z h a K1 bo) (K : Keep h h' ws) : Ins Z h' a K1 bo := by
  obtain ⟨cell, cT, h1, h2, h3⟩ := F
  obtain ⟨c', e1, e2, e3, -⟩ := K.2.2 _ _ h1
  exact ⟨c', cT, e1, h2, by rw [e2, e3]; exact h3⟩
/-! steps that read the tables or the heap -/
theorem Go.getF (C : Cx p s m meth c Z own nm bytes maxL ret) (X : Stand p l e R s m args below meth c T locs cells slots) {idx : Nat} {R0 O n d host : String} {a : Addr} {v : Value} (w : (Cond.fieldLink own idx R0 n d).before a0 Z = true ∨ (Cond.fieldLinkNest own idx R0 n d host).before a0 Z = true) (via : Via Z R0 O n d) (eT : T.heap = h) (F : Fld Z h a O n d v) (hd : decode bytes pc = .ok (.getfield idx, 3)) (hp : pc + 3 = pc')
    (K : ∀ T', Stand p l e R s m args below meth c T' locs cells slots → T'.heap = h → Go p e below Fin' T' (mkF m pc' Ls (v :: S))) : Go p e below Fin' T (mkF m pc Ls (.ref a :: S)) := by
  subst hp
  obtain ⟨T', X', e', st⟩ := Jvm.RoadKit.getF X C.1 C.2.1 C.2.2.1 w via eT F (g := mkF m pc Ls (.ref a :: S)) rfl rfl (hb C.2.2.2.1 hd)
  exact (K T' X' e').via st
theorem Go.getS (C : Cx p s m meth c Z own nm bytes maxL ret) (X : Stand p l e R s m args below meth c T locs cells slots) {idx : Nat} {R0 O n d host : String} {v : Value} (w : (Cond.fieldLink own idx R0 n d).before a0 Z = true ∨ (Cond.fieldLinkNest own idx R0 n d host).before a0 Z = true) (via : Via Z R0 O n d) (eT : T.heap = h) (F : Sta Z h O n d v) (hd : decode bytes pc = .ok (.getstatic idx, 3)) (hp : pc + 3 = pc')
    (K : ∀ T', Stand p l e R s m args below meth c T' locs cells slots → T'.heap = h → Go p e below Fin' T' (mkF m pc' Ls (v :: S))) : Go p e below Fin' T (mkF m pc Ls S) := by
  subst hp
  obtain ⟨T', X', e', st⟩ := getS2 X C.1 C.2.1 C.2.2.1 w via eT F (g := mkF m pc Ls S) rfl (hb C.2.2.2.1 hd)
  exact (K T' X' e').via st
theorem Go.putF (C : Cx p s m meth c Z own nm bytes maxL ret) (X : Stand p l e R s m args below meth c T locs cells slots) {idx kk : Nat} {R0 O n d host K1 : String} {a : Addr} {v old : Value} {ty : FieldType} (w : (Cond.fieldLink own idx R0 n d).before a0 Z = true ∨ (Cond.fieldLinkNest own idx R0 n d host).before a0 Z = true) (via : Via Z R0 O n d) (eT : T.heap = h) (F : Fld Z h a O n d old) (E : Exa Z h a K1) (L : (Cond.lays K1 O n d).before a0 Z = true ∨ ((Cond.laysFinal K1 O n d).before a0 Z = true ∧ own = O ∧ nm = "<init>")) (wi : (Cond.instantiable K1 kk).before a0 Z = true) (hty : parseFieldDescriptor d = some ty) (hn : narrow ty v = v) (hf : fits ty v = true) (hd : decode bytes pc = .ok (.putfield idx, 3)) (hp : pc + 3 = pc')
    (K : ∀ T' h', Stand p l e R s m args below meth c T' (locs ++ [⟨a, slotOf Z O n d⟩]) cells slots → T'.heap = h' → Wr h h' a (slotOf Z O n d) v → Fld Z h' a O n d v → Go p e below Fin' T' (mkF m pc' Ls S)) : Go p e below Fin' T (mkF m pc Ls (v :: .ref a :: S)) := by
  subst hp
  obtain ⟨T', h', X', e', W', st⟩ := Jvm.RoadKit.putF X C.1 C.2.1 C.2.2.1 w via eT F E (L.imp id fun q => ⟨q.1, q.2.1, C.2.2.2.2.2.2.1.trans q.2.2⟩) wi hty hn hf (g := mkF m pc Ls (v :: .ref a :: S)) rfl rfl (hb C.2.2.2.1 hd)
  exact (K T' h' X' e' W' (F.same W')).via st
theorem Go.putFN (C : Cx p s m meth c Z own nm bytes maxL ret) (X : Stand p l e R s m args below meth c T locs cells slots) {idx kk : Nat} {R0 O n d K1 : String} {a : Addr} {v v' old : Value} {ty : FieldType} (w : (Cond.fieldLink own idx R0 n d).before a0 Z = true) (via : Via Z R0 O n d) (eT : T.heap = h) (F : Fld Z h a O n d old) (E : Exa Z h a K1) (L : (Cond.lays K1 O n d).before a0 Z = true ∨ ((Cond.laysFinal K1 O n d).before a0 Z = true ∧ own = O ∧ nm = "<init>")) (wi : (Cond.instantiable K1 kk).before a0 Z = true) (hty : parseFieldDescriptor d = some ty) (hn : narrow ty v = v') (hf : fits ty v' = true) (hd : decode bytes pc = .ok (.putfield idx, 3)) (hp : pc + 3 = pc')
    (K : ∀ T' h', Stand p l e R s m args below meth c T' (locs ++ [⟨a, slotOf Z O n d⟩]) cells slots → T'.heap = h' → Wr h h' a (slotOf Z O n d) v' → Fld Z h' a O n d v' → Go p e below Fin' T' (mkF m pc' Ls S)) : Go p e below Fin' T (mkF m pc Ls (v :: .ref a :: S)) := by
  subst hp
  obtain ⟨T', h', X', e', W', st⟩ := Jvm.RoadKit.putFN X C.1 C.2.1 C.2.2.1 w via eT F E (L.imp id fun q => ⟨q.1, q.2.1, C.2.2.2.2.2.2.1.trans q.2.2⟩) wi hty hn hf (g := mkF m pc Ls (v :: .ref a :: S)) rfl rfl (hb C.2.2.2.1 hd)
  exact (K T' h' X' e' W' (F.same W')).via st
theorem Go.newO (C : Cx p s m meth c Z own nm bytes maxL ret) (X : Stand p l e R s m args below meth c T locs cells slots) {idx n : Nat} {K1 : String} (w : (Cond.classLink own idx K1).before a0 Z = true) (wi : (Cond.instantiable K1 n).before a0 Z = true) (wz : (Cond.initialized K1).before a0 Z = true) (eT : T.heap = h) (hc : cells + 1 ≤ R.cells) (hl : slots + n ≤ R.slots) (hd : decode bytes pc = .ok (.new idx, 3)) (hp : pc + 3 = pc')
    (K : ∀ T' h' b, Stand p l e R s m args below meth c T' locs (cells + 1) (slots + n) → T'.heap = h' → b = h.size → Ext h h' → Exa Z h' b K1 → (∀ {O nm d : String} {ty : FieldType}, Laid Z a0 K1 O nm d → parseFieldDescriptor d = some ty → Fld Z h' b O nm d (defaultValue ty)) → Go p e below Fin' T' (mkF m pc' Ls (.ref b :: S))) : Go p e below Fin' T (mkF m pc Ls S) := by
  subst hp
  obtain ⟨T', h', X', e', E', A', D', -, st⟩ := Jvm.RoadKit.newO X C.1 C.2.1 C.2.2.1 w wi wz eT (g := mkF m pc Ls S) rfl (hb C.2.2.2.1 hd) hc hl
  exact (K T' h' h.size X' e' rfl E' A' D').via st
theorem Go.newP (C : Cx p s m meth c Z own nm bytes maxL ret) (X : Stand p l e R s m args below meth c T locs cells slots) {aty : ArrayType} {n : Int32} {cap : Nat} {vs : List Value} {ad : String} (had : "[" ++ (newarray.typeOf aty).toString = ad) (w : (Cond.arrayClass (newarray.typeOf aty)).before a0 Z = true) (eT : T.heap = h) (hn : ¬ n < 0) (hcap : n.toNatClampNeg ≤ cap) (hb8 : cap * 8 ≤ 536870912) (hc : cells + 1 ≤ R.cells) (hl : slots + cap ≤ R.slots) (hvs : List.replicate n.toNatClampNeg (defaultValue (newarray.typeOf aty)) = vs) (hd : decode bytes pc = .ok (.newarray aty, 2)) (hp : pc + 2 = pc')
    (K : ∀ T' h' b k, Stand p l e R s m args below meth c T' locs (cells + 1) (slots + cap) → T'.heap = h' → b = h.size → Ext h h' → AL Z h' b k (newarray.typeOf aty) vs → Exa Z h' b ad → Go p e below Fin' T' (mkF m pc' Ls (.ref b :: S))) : Go p e below Fin' T (mkF m pc Ls (.int n :: S)) := by
  subst hp
  obtain ⟨T', h', k, X', e', E', A', E2, st⟩ := Jvm.RoadKit.newPE X C.1 C.2.1 w eT (g := mkF m pc Ls (.int n :: S)) rfl (hb C.2.2.2.1 hd) rfl hn hcap hb8 hc hl had
  exact (K T' h' h.size k X' e' rfl E' (hvs ▸ AL.new A') E2).via st
theorem Go.newR (C : Cx p s m meth c Z own nm bytes maxL ret) (X : Stand p l e R s m args below meth c T locs cells slots) {idx : Nat} {K1 ad : String} {n : Int32} {cap : Nat} {vs : List Value} (had : "[" ++ (FieldType.object K1).toString = ad) (w : (Cond.classLink own idx K1).before a0 Z = true) (w2 : (Cond.arrayOver (.object K1)).before a0 Z = true) (eT : T.heap = h) (hn : ¬ n < 0) (hcap : n.toNatClampNeg ≤ cap) (hb8 : cap * 8 ≤ 536870912) (hc : cells + 1 ≤ R.cells) (hl : slots + cap ≤ R.slots) (hvs : List.replicate n.toNatClampNeg (defaultValue (.object K1)) = vs) (hd : decode bytes pc = .ok (.anewarray idx, 3)) (hp : pc + 3 = pc')
    (K : ∀ T' h' b k, Stand p l e R s m args below meth c T' locs (cells + 1) (slots + cap) → T'.heap = h' → b = h.size → Ext h h' → AL Z h' b k (.object K1) vs → Exa Z h' b ad → Ovr Z k K1 → Go p e below Fin' T' (mkF m pc' Ls (.ref b :: S))) : Go p e below Fin' T (mkF m pc Ls (.int n :: S)) := by
  subst hp
  obtain ⟨T', h', k, X', e', E', A', E2, O', st⟩ := Jvm.RoadKit.newRE X C.1 C.2.1 C.2.2.1 w w2 eT (g := mkF m pc Ls (.int n :: S)) rfl (hb C.2.2.2.1 hd) rfl hn hcap hb8 hc hl had
  exact (K T' h' h.size k X' e' rfl E' (hvs ▸ AL.new A') E2 O').via st
theorem Go.newRA (C : Cx p s m meth c Z own nm bytes maxL ret) (X : Stand p l e R s m args below meth c T locs cells slots) {idx : Nat} {K1 ad : String} {ty : FieldType} {n : Int32} {cap : Nat} {vs : List Value} (hC : (FieldType.array ty).toString = K1) (had : "[" ++ K1 = ad) (w : (Cond.classLink own idx K1).before a0 Z = true) (w2 : (Cond.arrayOver (.array ty)).before a0 Z = true) (eT : T.heap = h) (hn : ¬ n < 0) (hcap : n.toNatClampNeg ≤ cap) (hb8 : cap * 8 ≤ 536870912) (hc : cells + 1 ≤ R.cells) (hl : slots + cap ≤ R.slots) (hvs : List.replicate n.toNatClampNeg (defaultValue (.array ty)) = vs) (hd : decode bytes pc = .ok (.anewarray idx, 3)) (hp : pc + 3 = pc')
    (K : ∀ T' h' b k, Stand p l e R s m args below meth c T' locs (cells + 1) (slots + cap) → T'.heap = h' → b = h.size → Ext h h' → AL Z h' b k (.array ty) vs → Exa Z h' b ad → OvrA Z k ty K1 → Go p e below Fin' T' (mkF m pc' Ls (.ref b :: S))) : Go p e below Fin' T (mkF m pc Ls (.int n :: S)) := by
  subst hp
  obtain ⟨T', h', k, X', e', E', A', E2, O', st⟩ := Jvm.RoadKit.newRA X C.1 C.2.1 C.2.2.1 hC w w2 eT (g := mkF m pc Ls (.int n :: S)) rfl (hb C.2.2.2.1 hd) rfl hn hcap hb8 hc hl had
  exact (K T' h' h.size k X' e' rfl E' (hvs ▸ AL.new A') E2 O').via st
theorem AL.stoA {a y : Addr} {k : ClassId} {t0 ty : FieldType} {vs : List Value} {K1 : String} (F : AL Z h a k t0 vs) (O : OvrA Z k ty K1) (I : Ins Z h y K1 true) : Sto Z h a (.ref y) := by
  obtain ⟨c, A, r, -⟩ := F; exact Sto.ofVA A r O I
theorem Go.getFR (C : Cx p s m meth c Z own nm bytes maxL ret) (X : Stand p l e R s m args below meth c T locs cells slots) {idx : Nat} {O n d : String} {a : Addr} {v : Value} (w : (Cond.fieldRef own idx O n d).before a0 Z = true) (eT : T.heap = h) (F : Fld Z h a O n d v) (hd : decode bytes pc = .ok (.getfield idx, 3)) (hp : pc + 3 = pc')
    (K : Go p e below Fin' T (mkF m pc' Ls (v :: S))) : Go p e below Fin' T (mkF m pc Ls (.ref a :: S)) := by
  subst hp
  obtain ⟨cell, cf, k, i, f, h1, h2, h3, h4, -, -, h7⟩ := F
  have hZT : Z.Warmed39 T.vm := wtrans C.2.1 X.warmed
  have w' : (Cond.fieldRef own idx O n d).before args T = true := (Cond.fieldRef_warmed39 hZT w :)
  have hown : T.vm.findClass own = some m.cls := by rw [X.warmed.alike.findClass]; exact C.2.2.1
  obtain ⟨c', k', i', f', e1, hr⟩ := Cond.fieldRef_spec hown w'
  obtain ⟨k2, q1, -⟩ := State.fieldFound?_setVm (s := Z) hZT.alike h2
  have q1' : T.fieldFound? O n d = some (cf, k2, i, f) := q1
  cases q1'.symm.trans e1
  exact K.via fun t kt => (X.getfieldR C.1 (g := mkF m pc Ls (.ref a :: S)) rfl hr h3 rfl (by rw [eT]; exact h1) h4 h7 (hb C.2.2.2.1 hd) (Steps.refl _)).trans kt
theorem Go.clone (C : Cx p s m meth c Z own nm bytes maxL ret) (X : Stand p l e R s m args below meth c T locs cells slots) {idx : Nat} {ad : String} {a : Addr} {k : ClassId} {ty : FieldType} {vs : List Value} {W cap : Nat} (w1 : (Cond.methodLink own idx ⟨ad, "clone", "()Ljava/lang/Object;"⟩).before a0 Z = true) (w2 : (Cond.sameMethod ad "java/lang/Object" "clone" "()Ljava/lang/Object;").before a0 Z = true) (w3 : (Cond.native ⟨"java/lang/Object", "clone", "()Ljava/lang/Object;"⟩).before a0 Z = true) (w4 : (Cond.instanceMethod ⟨"java/lang/Object", "clone", "()Ljava/lang/Object;"⟩).before a0 Z = true) (w5 : (Cond.selects ad ⟨ad, "clone", "()Ljava/lang/Object;"⟩ ⟨"java/lang/Object", "clone", "()Ljava/lang/Object;"⟩).before a0 Z = true) (w6 : (Cond.castable ad "java/lang/Cloneable").before a0 Z = true) (eT : T.heap = h) (F : AL Z h a k ty vs) (E : Exa Z h a ad) (hfit : ∀ v ∈ vs, fits ty v = true) (hls : Ls.size = maxL) (hf : 1 ≤ R.frames) (hW : (S.map fun v => v.category).sum ≤ W) (hlo : W + 14 ≤ R.locals) (hcap : vs.length ≤ cap) (hc : cells + 1 ≤ R.cells) (hsl : slots + cap ≤ R.slots) (hd : decode bytes pc = .ok (.invokevirtual idx, 3)) (hp : pc + 3 = pc')
    (K : ∀ T' h' b, Stand p l e R s m args below meth c T' locs (cells + 1) (slots + cap) → T'.heap = h' → b = h.size → Ext h h' → AL Z h' b k ty vs → Exa Z h' b ad → Go p e below Fin' T' (mkF m pc' Ls (.ref b :: S))) : Go p e below Fin' T (mkF m pc Ls (.ref a :: S)) := by
  subst hp
  obtain ⟨cl, A, q1, q2⟩ := F
  have FC : FitC Z cl := fitC_of A fun i hi v hv => by
    rw [q2] at hv
    exact hfit v (List.mem_of_getElem? (by simpa using hv))
  have hsz : cl.slots.size = vs.length := by rw [q2]; simp
  obtain ⟨T', h', X', e', ex, A', E', st⟩ := cloneA X C.1 C.2.1 C.2.2.1 w1 w2 w3 w4 w5 w6 eT A E FC (g := mkF m pc Ls (.ref a :: S)) rfl (by show Ls.size = _; rw [C.2.2.2.2.1]; exact hls) rfl (hb C.2.2.2.1 hd) hf (W := W) (by show 2 * 0 + _ ≤ _; omega) hlo (cap := cap) (by omega) hc hsl
  exact (K T' h' h.size X' e' rfl ex ⟨cloneOf cl, A', q1, q2⟩ E').via st
theorem range_drop (vs : List Value) (dv : Value) (i n : Nat) (hn : i + n ≤ vs.length) : ((List.range n).map fun j => vs.getD (i + j) dv) = (vs.drop i).take n := by
  apply List.ext_getElem
  · simp; omega
  · intro j h1 h2
    have h3 : i + j < vs.length := by simp at h1; omega
    simp [List.getD, List.getElem?_eq_getElem h3]
theorem Go.arrcopy (C : Cx p s m meth c Z own nm bytes maxL ret) (X : Stand p l e R s m args below meth c T locs cells slots) {idx : Nat} {a b : Addr} {k k' : ClassId} {ty ty' : FieldType} {vs vd vd' : List Value} {sp dp nn : Int32} {i j n W : Nat} (w1 : (Cond.methodLink own idx Jvm.Stand.acN).before a0 Z = true) (w2 : (Cond.native Jvm.Stand.acN).before a0 Z = true) (w3 : (Cond.static Jvm.Stand.acN).before a0 Z = true) (w4 : (Cond.initialized "java/lang/System").before a0 Z = true) (eT : T.heap = h) (A : AL Z h a k ty vs) (B : AL Z h b k' ty' vd) (hfa : ∀ v ∈ vs, fits ty v = true) (hfb : ∀ v ∈ vd, fits ty' v = true) (hla : vs.length < 2 ^ 31) (hlb : vd.length < 2 ^ 31) (hty : (ty = ty' ∧ refKind ty = false) ∨ (refKind ty = true ∧ refKind ty' = true ∧ StoL Z h b ((vs.drop i).take n))) (h1 : ¬ sp < 0) (h2 : ¬ dp < 0) (h3 : ¬ nn < 0) (hi : sp.toNatClampNeg = i) (hj : dp.toNatClampNeg = j) (hn : nn.toNatClampNeg = n) (h4 : i + n ≤ vs.length) (h5 : j + n ≤ vd.length) (hvd : vd.take j ++ (vs.drop i).take n ++ vd.drop (j + n) = vd') {n0 : Nat} (N : Fr n0 locs) (ge : n0 ≤ b) (hls : Ls.size = maxL) (hf : 1 ≤ R.frames) (hW : (S.map fun v => v.category).sum ≤ W) (hlo : W + (nativeFrameWords "java/lang/System" "arraycopy" 5 + 11) ≤ R.locals) (hd : decode bytes pc = .ok (.invokestatic idx, 3)) (hp : pc + 3 = pc')
    (K : ∀ T' h' L, Stand p l e R s m args below meth c T' L cells slots → T'.heap = h' → Fr n0 L → Keep h h' [b] → AL Z h' b k' ty' vd' → Go p e below Fin' T' (mkF m pc' Ls S)) : Go p e below Fin' T (mkF m pc Ls (.int nn :: .int dp :: .ref b :: .int sp :: .ref a :: S)) := by
  subst hp
  subst hi hj hn hvd
  have za : vs.length.toInt32.toNatClampNeg = vs.length := by simp only [Int32.toNatClampNeg, len_toInt hla]; omega
  have zb : vd.length.toInt32.toNatClampNeg = vd.length := by simp only [Int32.toNatClampNeg, len_toInt hlb]; omega
  have na : ¬ vs.length.toInt32 < 0 := by simp only [Int32.lt_iff_toInt_lt, len_toInt hla, Int32.reduceToInt]; omega
  have nb : ¬ vd.length.toInt32 < 0 := by simp only [Int32.lt_iff_toInt_lt, len_toInt hlb, Int32.reduceToInt]; omega
  have A' : Arv Z h a k ty vs.length.toInt32 vs .null := A.arv na za hfa
  have B' : Arv Z h b k' ty' vd.length.toInt32 vd .null := B.arv nb zb hfb
  obtain ⟨T', h', L, X', e', N', K', R', st⟩ := cpA X C.1 C.2.1 C.2.2.1 w1 w2 w3 w4 eT A' B' hty h1 h2 h3 (by rw [za]; exact h4) (by rw [zb]; exact h5) (range_drop vs .null _ _ h4).symm h5 N ge (g := mkF m pc Ls (.int nn :: .int dp :: .ref b :: .int sp :: .ref a :: S)) rfl (by show Ls.size = _; rw [C.2.2.2.2.1]; exact hls) rfl (hb C.2.2.2.1 hd) hf (W := W) (by show 2 * 0 + _ ≤ _; omega) hlo
  exact (K T' h' L X' e' N' K' (AL.of_arv R' (by rw [zb]; simp; omega))).via st
theorem Go.castY (C : Cx p s m meth c Z own nm bytes maxL ret) (X : Stand p l e R s m args below meth c T locs cells slots) {idx : Nat} {K1 : String} {a : Addr} (w : (Cond.classLink own idx K1).before a0 Z = true) (eT : T.heap = h) (F : Ins Z h a K1 true) (hd : decode bytes pc = .ok (.checkcast idx, 3)) (hp : pc + 3 = pc')
    (K : ∀ T', Stand p l e R s m args below meth c T' locs cells slots → T'.heap = h → Go p e below Fin' T' (mkF m pc' Ls (.ref a :: S))) : Go p e below Fin' T (mkF m pc Ls (.ref a :: S)) := by
  subst hp
  obtain ⟨T', X', e', st⟩ := Jvm.RoadKit.castY X C.1 C.2.1 C.2.2.1 w eT F (g := mkF m pc Ls (.ref a :: S)) rfl rfl (hb C.2.2.2.1 hd)
  exact (K T' X' e').via st
theorem Go.instY (C : Cx p s m meth c Z own nm bytes maxL ret) (X : Stand p l e R s m args below meth c T locs cells slots) {idx : Nat} {K1 : String} {a : Addr} (w : (Cond.classLink own idx K1).before a0 Z = true) (eT : T.heap = h) (F : Ins Z h a K1 true) (hd : decode bytes pc = .ok (.instanceof idx, 3)) (hp : pc + 3 = pc')
    (K : ∀ T', Stand p l e R s m args below meth c T' locs cells slots → T'.heap = h → Go p e below Fin' T' (mkF m pc' Ls (.int 1 :: S))) : Go p e below Fin' T (mkF m pc Ls (.ref a :: S)) := by
  subst hp
  obtain ⟨T', X', e', st⟩ := Jvm.RoadKit.instY X C.1 C.2.1 C.2.2.1 w eT F (g := mkF m pc Ls (.ref a :: S)) rfl rfl (hb C.2.2.2.1 hd)
  exact (K T' X' e').via st
theorem Go.gcls (C : Cx p s m meth c Z own nm bytes maxL ret) (X : Stand p l e R s m args below meth c T locs cells slots) {idx : Nat} {K1 : String} {a mr : Addr} {W : Nat} (w1 : (Cond.methodLink own idx ⟨"java/lang/Object", "getClass", "()Ljava/lang/Class;"⟩).before a0 Z = true) (w2 : (Cond.declares ⟨"java/lang/Object", "getClass", "()Ljava/lang/Class;"⟩).before a0 Z = true) (w3 : (Cond.noSuperclass "java/lang/Object").before a0 Z = true) (w4 : (Cond.selects K1 ⟨"java/lang/Object", "getClass", "()Ljava/lang/Class;"⟩ ⟨"java/lang/Object", "getClass", "()Ljava/lang/Class;"⟩).before a0 Z = true) (w5 : (Cond.instanceMethod ⟨"java/lang/Object", "getClass", "()Ljava/lang/Class;"⟩).before a0 Z = true) (w6 : (Cond.native ⟨"java/lang/Object", "getClass", "()Ljava/lang/Class;"⟩).before a0 Z = true) (eT : T.heap = h) (E : Exa Z h a K1) (M : Mir Z K1 mr) (hls : Ls.size = maxL) (hf : 1 ≤ R.frames) (hW : (S.map fun v => v.category).sum ≤ W) (hlo : W + 14 ≤ R.locals) (hd : decode bytes pc = .ok (.invokevirtual idx, 3)) (hp : pc + 3 = pc')
    (K : ∀ T', Stand p l e R s m args below meth c T' locs cells slots → T'.heap = h → Go p e below Fin' T' (mkF m pc' Ls (.ref mr :: S))) : Go p e below Fin' T (mkF m pc Ls (.ref a :: S)) := by
  subst hp
  obtain ⟨T', X', e', st⟩ := Jvm.RoadKit.gcls X C.1 C.2.1 C.2.2.1 w1 w2 w3 w4 w5 w6 eT E M (g := mkF m pc Ls (.ref a :: S)) rfl (by show Ls.size = _; rw [C.2.2.2.2.1]; exact hls) rfl (hb C.2.2.2.1 hd) hf (W := W) (by show 2 * 0 + _ ≤ _; omega) hlo
  exact (K T' X' e').via st
theorem Go.ldcM (C : Cx p s m meth c Z own nm bytes maxL ret) (X : Stand p l e R s m args below meth c T locs cells slots) {idx : Nat} {K1 : String} {mr : Addr} (w : (Cond.classLink own idx K1).before a0 Z = true) (eT : T.heap = h) (M : Mir Z K1 mr) (hd : decode bytes pc = .ok (.ldc idx, 2)) (hp : pc + 2 = pc')
    (K : ∀ T', Stand p l e R s m args below meth c T' locs cells slots → T'.heap = h → Go p e below Fin' T' (mkF m pc' Ls (.ref mr :: S))) : Go p e below Fin' T (mkF m pc Ls S) := by
  subst hp
  obtain ⟨cc, kc, m1, m2, m3, -⟩ := M
  obtain ⟨k', q, ek⟩ := C.2.1.alike.2.2 _ _ m2
  have f1 : s.vm.findClass K1 = some cc := by rw [C.2.1.alike.findClass]; exact m1
  have f2 : k'.mirror = some mr := by rw [ek]; exact m3
  have hev : (Term.mirror K1).eval args s none [] s = some (.ref mr) := by simp [Term.eval, f1, q, f2]
  obtain ⟨vm', X', st⟩ := X.ldcMirror C.1 C.2.2.1 (mv C.2.1 w) hev (g := mkF m pc Ls S) rfl (hb C.2.2.2.1 hd)
  exact (K _ X' eT).via st
theorem NS.rootI {O K1 : String} {n : Nat} (w : (Cond.noSuperclass O).before a0 Z = true) (wk : (Cond.instantiable K1 n).before a0 Z = true) (hn : O ≠ K1) : NS Z O K1 := by
  obtain ⟨c, k, h1, h2, h3, -, -⟩ := Cond.noSuperclass_spec w
  obtain ⟨t, -, g1, -⟩ := Cond.instantiable_spec wk
  have ne := ids_ne h1 g1 hn
  refine ⟨c, t, h1, g1, fun fuel => ?_⟩
  cases fuel with
  | zero => rfl
  | succ f => simp [Vm.isSubclassAux, ne, h2, h3]
theorem NS.noI {K0 S0 K1 : String} {n : Nat} (w : (Cond.superclass K0 S0).before a0 Z = true) (wk : (Cond.instantiable K1 n).before a0 Z = true) (N : NS Z K0 K1) (hn : K0 ≠ K1) : ∃ c t, Z.vm.findClass K0 = some c ∧ Z.vm.findClass K1 = some t ∧ Z.vm.assignable c t = false := by
  obtain ⟨c, t, h0, g0, n3⟩ := N
  obtain ⟨p, k, kp, h1, h2, h3, h4, h5, -, h7⟩ := Cond.superclass_spec h0 w
  obtain ⟨t', k', g1, g2, g3, g4, -⟩ := Cond.instantiable_spec wk
  cases g0.symm.trans g1
  have ne := ids_ne h0 g0 hn
  have gi : k'.isInterface = false := by
    cases q : k'.isInterface with
    | false => rfl
    | true => simp [q] at g4
  refine ⟨c, t, h0, g0, ?_⟩
  show Z.vm.assignableAux (255 + 1) c t = false
  simp [Vm.assignableAux, ne, h2, g2, h5, g3, gi, Vm.isSubclass, n3]
theorem Go.instNo (C : Cx p s m meth c Z own nm bytes maxL ret) (X : Stand p l e R s m args below meth c T locs cells slots) {idx : Nat} {K1 K2 : String} {a : Addr} (w : (Cond.classLink own idx K1).before a0 Z = true) (eT : T.heap = h) (E : Exa Z h a K2) (F : ∃ c t, Z.vm.findClass K2 = some c ∧ Z.vm.findClass K1 = some t ∧ Z.vm.assignable c t = false) (hd : decode bytes pc = .ok (.instanceof idx, 3)) (hp : pc + 3 = pc')
    (K : ∀ T', Stand p l e R s m args below meth c T' locs cells slots → T'.heap = h → Go p e below Fin' T' (mkF m pc' Ls (.int 0 :: S))) : Go p e below Fin' T (mkF m pc Ls (.ref a :: S)) := by
  subst hp
  obtain ⟨T', X', e', st⟩ := Jvm.RoadKit.instNo X C.1 C.2.1 C.2.2.1 w eT E F (g := mkF m pc Ls (.ref a :: S)) rfl rfl (hb C.2.2.2.1 hd)
  exact (K T' X' e').via st
theorem Go.castNull (C : Cx p s m meth c Z own nm bytes maxL ret) (X : Stand p l e R s m args below meth c T locs cells slots) {idx : Nat}  (hd : decode bytes pc = .ok (.checkcast idx, 3)) (hp : pc + 3 = pc')
    (K : Go p e below Fin' T (mkF m pc' Ls (.null :: S))) : Go p e below Fin' T (mkF m pc Ls (.null :: S)) := by
  subst hp
  exact K.via (X.checkcastNull C.1 (g := mkF m pc Ls (.null :: S)) rfl rfl (hb C.2.2.2.1 hd))
theorem Go.instNull (C : Cx p s m meth c Z own nm bytes maxL ret) (X : Stand p l e R s m args below meth c T locs cells slots) {idx : Nat}  (hd : decode bytes pc = .ok (.instanceof idx, 3)) (hp : pc + 3 = pc')
    (K : Go p e below Fin' T (mkF m pc' Ls (.int 0 :: S))) : Go p e below Fin' T (mkF m pc Ls (.null :: S)) := by
  subst hp
  exact K.via (X.instanceofNull C.1 (g := mkF m pc Ls (.null :: S)) rfl rfl (hb C.2.2.2.1 hd))
theorem Go.stI (C : Cx p s m meth c Z own nm bytes maxL ret) (X : Stand p l e R s m args below meth c T locs cells slots) {a : Addr} {k : ClassId} {vs vs' : List Value} {j : Int32} {i : Nat} {x x' : Int32} (eT : T.heap = h) (F : AL Z h a k .int vs) (hj : ¬ j < 0) (hji : j.toNatClampNeg = i) (hi : i < vs.length) (hx : x = x') (hvs : vs.set i (.int x') = vs') (hd : decode bytes pc = .ok (.iastore, 1)) (hp : pc + 1 = pc')
    (K : ∀ T' h', Stand p l e R s m args below meth c T' (locs ++ [⟨a, i⟩]) cells slots → T'.heap = h' → Wr h h' a i (.int x') → AL Z h' a k .int vs' → Go p e below Fin' T' (mkF m pc' Ls S)) : Go p e below Fin' T (mkF m pc Ls (.int x :: .int j :: .ref a :: S)) := by
  subst hp
  subst hji hvs hx
  have F0 := F
  obtain ⟨cl, A, q1, q2⟩ := F
  obtain ⟨T', h', X', e', W', st⟩ := Jvm.RoadKit.stI X C.1 C.2.1 eT A (j := j) (fun q => q.elim hj fun y => by rw [q2] at y; simp at y; omega) (g := mkF m pc Ls (.int x :: .int j :: .ref a :: S)) rfl rfl (hb C.2.2.2.1 hd)
  exact (K T' h' X' e' W' (F0.set W')).via st
theorem Go.stC (C : Cx p s m meth c Z own nm bytes maxL ret) (X : Stand p l e R s m args below meth c T locs cells slots) {a : Addr} {k : ClassId} {vs vs' : List Value} {j : Int32} {i : Nat} {x x' : Int32} (eT : T.heap = h) (F : AL Z h a k .char vs) (hj : ¬ j < 0) (hji : j.toNatClampNeg = i) (hi : i < vs.length) (hx : (nar .char x) = x') (hvs : vs.set i (.int x') = vs') (hd : decode bytes pc = .ok (.castore, 1)) (hp : pc + 1 = pc')
    (K : ∀ T' h', Stand p l e R s m args below meth c T' (locs ++ [⟨a, i⟩]) cells slots → T'.heap = h' → Wr h h' a i (.int x') → AL Z h' a k .char vs' → Go p e below Fin' T' (mkF m pc' Ls S)) : Go p e below Fin' T (mkF m pc Ls (.int x :: .int j :: .ref a :: S)) := by
  subst hp
  subst hji hvs hx
  have F0 := F
  obtain ⟨cl, A, q1, q2⟩ := F
  obtain ⟨T', h', X', e', W', st⟩ := Jvm.RoadKit.stC X C.1 C.2.1 eT A (j := j) (fun q => q.elim hj fun y => by rw [q2] at y; simp at y; omega) (g := mkF m pc Ls (.int x :: .int j :: .ref a :: S)) rfl rfl (hb C.2.2.2.1 hd)
  exact (K T' h' X' e' W' (F0.set W')).via st
theorem Go.stS (C : Cx p s m meth c Z own nm bytes maxL ret) (X : Stand p l e R s m args below meth c T locs cells slots) {a : Addr} {k : ClassId} {vs vs' : List Value} {j : Int32} {i : Nat} {x x' : Int32} (eT : T.heap = h) (F : AL Z h a k .short vs) (hj : ¬ j < 0) (hji : j.toNatClampNeg = i) (hi : i < vs.length) (hx : (nar .short x) = x') (hvs : vs.set i (.int x') = vs') (hd : decode bytes pc = .ok (.sastore, 1)) (hp : pc + 1 = pc')
    (K : ∀ T' h', Stand p l e R s m args below meth c T' (locs ++ [⟨a, i⟩]) cells slots → T'.heap = h' → Wr h h' a i (.int x') → AL Z h' a k .short vs' → Go p e below Fin' T' (mkF m pc' Ls S)) : Go p e below Fin' T (mkF m pc Ls (.int x :: .int j :: .ref a :: S)) := by
  subst hp
  subst hji hvs hx
  have F0 := F
  obtain ⟨cl, A, q1, q2⟩ := F
  obtain ⟨T', h', X', e', W', st⟩ := Jvm.RoadKit.stS X C.1 C.2.1 eT A (j := j) (fun q => q.elim hj fun y => by rw [q2] at y; simp at y; omega) (g := mkF m pc Ls (.int x :: .int j :: .ref a :: S)) rfl rfl (hb C.2.2.2.1 hd)
  exact (K T' h' X' e' W' (F0.set W')).via st
theorem Go.stB (C : Cx p s m meth c Z own nm bytes maxL ret) (X : Stand p l e R s m args below meth c T locs cells slots) {a : Addr} {k : ClassId} {vs vs' : List Value} {j : Int32} {i : Nat} {x x' : Int32} (eT : T.heap = h) (F : AL Z h a k .byte vs) (hj : ¬ j < 0) (hji : j.toNatClampNeg = i) (hi : i < vs.length) (hx : (nar .byte x) = x') (hvs : vs.set i (.int x') = vs') (hd : decode bytes pc = .ok (.bastore, 1)) (hp : pc + 1 = pc')
    (K : ∀ T' h', Stand p l e R s m args below meth c T' (locs ++ [⟨a, i⟩]) cells slots → T'.heap = h' → Wr h h' a i (.int x') → AL Z h' a k .byte vs' → Go p e below Fin' T' (mkF m pc' Ls S)) : Go p e below Fin' T (mkF m pc Ls (.int x :: .int j :: .ref a :: S)) := by
  subst hp
  subst hji hvs hx
  have F0 := F
  obtain ⟨cl, A, q1, q2⟩ := F
  obtain ⟨T', h', X', e', W', st⟩ := Jvm.RoadKit.stB X C.1 C.2.1 eT A (j := j) (fun q => q.elim hj fun y => by rw [q2] at y; simp at y; omega) (g := mkF m pc Ls (.int x :: .int j :: .ref a :: S)) rfl rfl (hb C.2.2.2.1 hd)
  exact (K T' h' X' e' W' (F0.set W')).via st
theorem Go.stZ (C : Cx p s m meth c Z own nm bytes maxL ret) (X : Stand p l e R s m args below meth c T locs cells slots) {a : Addr} {k : ClassId} {vs vs' : List Value} {j : Int32} {i : Nat} {x x' : Int32} (eT : T.heap = h) (F : AL Z h a k .boolean vs) (hj : ¬ j < 0) (hji : j.toNatClampNeg = i) (hi : i < vs.length) (hx : (nar .boolean x) = x') (hvs : vs.set i (.int x') = vs') (hd : decode bytes pc = .ok (.bastore, 1)) (hp : pc + 1 = pc')
    (K : ∀ T' h', Stand p l e R s m args below meth c T' (locs ++ [⟨a, i⟩]) cells slots → T'.heap = h' → Wr h h' a i (.int x') → AL Z h' a k .boolean vs' → Go p e below Fin' T' (mkF m pc' Ls S)) : Go p e below Fin' T (mkF m pc Ls (.int x :: .int j :: .ref a :: S)) := by
  subst hp
  subst hji hvs hx
  have F0 := F
  obtain ⟨cl, A, q1, q2⟩ := F
  obtain ⟨T', h', X', e', W', st⟩ := Jvm.RoadKit.stZ X C.1 C.2.1 eT A (j := j) (fun q => q.elim hj fun y => by rw [q2] at y; simp at y; omega) (g := mkF m pc Ls (.int x :: .int j :: .ref a :: S)) rfl rfl (hb C.2.2.2.1 hd)
  exact (K T' h' X' e' W' (F0.set W')).via st
theorem Go.stJ (C : Cx p s m meth c Z own nm bytes maxL ret) (X : Stand p l e R s m args below meth c T locs cells slots) {a : Addr} {k : ClassId} {vs vs' : List Value} {j : Int32} {i : Nat} {x x' : Int64} (eT : T.heap = h) (F : AL Z h a k .long vs) (hj : ¬ j < 0) (hji : j.toNatClampNeg = i) (hi : i < vs.length) (hx : x = x') (hvs : vs.set i (.long x') = vs') (hd : decode bytes pc = .ok (.lastore, 1)) (hp : pc + 1 = pc')
    (K : ∀ T' h', Stand p l e R s m args below meth c T' (locs ++ [⟨a, i⟩]) cells slots → T'.heap = h' → Wr h h' a i (.long x') → AL Z h' a k .long vs' → Go p e below Fin' T' (mkF m pc' Ls S)) : Go p e below Fin' T (mkF m pc Ls (.long x :: .int j :: .ref a :: S)) := by
  subst hp
  subst hji hvs hx
  have F0 := F
  obtain ⟨cl, A, q1, q2⟩ := F
  obtain ⟨T', h', X', e', W', st⟩ := Jvm.RoadKit.stJ X C.1 C.2.1 eT A (j := j) (fun q => q.elim hj fun y => by rw [q2] at y; simp at y; omega) (g := mkF m pc Ls (.long x :: .int j :: .ref a :: S)) rfl rfl (hb C.2.2.2.1 hd)
  exact (K T' h' X' e' W' (F0.set W')).via st
theorem Go.stR (C : Cx p s m meth c Z own nm bytes maxL ret) (X : Stand p l e R s m args below meth c T locs cells slots) {a : Addr} {k : ClassId} {ty : FieldType} {vs vs' : List Value} {j : Int32} {i : Nat} {v : Value} (eT : T.heap = h) (F : AL Z h a k ty vs) (hj : ¬ j < 0) (hji : j.toNatClampNeg = i) (hi : i < vs.length) (hty : ty.isReference = true) (Fs : Sto Z h a v) (hvs : vs.set i v = vs') (hd : decode bytes pc = .ok (.aastore, 1)) (hp : pc + 1 = pc')
    (K : ∀ T' h', Stand p l e R s m args below meth c T' (locs ++ [⟨a, i⟩]) cells slots → T'.heap = h' → Wr h h' a i v → AL Z h' a k ty vs' → Go p e below Fin' T' (mkF m pc' Ls S)) : Go p e below Fin' T (mkF m pc Ls (v :: .int j :: .ref a :: S)) := by
  subst hp
  subst hji hvs
  have F0 := F
  obtain ⟨cl, A, q1, q2⟩ := F
  obtain ⟨T', h', X', e', W', st⟩ := Jvm.RoadKit.stR X C.1 C.2.1 eT A (j := j) (fun q => q.elim hj fun y => by rw [q2] at y; simp at y; omega) hty Fs (g := mkF m pc Ls (v :: .int j :: .ref a :: S)) rfl rfl (hb C.2.2.2.1 hd)
  exact (K T' h' X' e' W' (F0.set W')).via st
theorem AL.sto {a y : Addr} {k : ClassId} {ty : FieldType} {vs : List Value} {K1 : String} (F : AL Z h a k ty vs) (O : Ovr Z k K1) (I : Ins Z h y K1 true) : Sto Z h a (.ref y) := by
  obtain ⟨c, A, r, -⟩ := F; exact Sto.ofV A r O I
theorem Go.ldI (C : Cx p s m meth c Z own nm bytes maxL ret) (X : Stand p l e R s m args below meth c T locs cells slots) {a : Addr} {k : ClassId} {vs : List Value} {j : Int32} {i : Nat} {v : Value} (eT : T.heap = h) (F : AL Z h a k .int vs) (hj : ¬ j < 0) (hji : j.toNatClampNeg = i) (hv : vs[i]? = some v) (hd : decode bytes pc = .ok (.iaload, 1)) (hp : pc + 1 = pc')
    (K : Go p e below Fin' T (mkF m pc' Ls (v :: S))) : Go p e below Fin' T (mkF m pc Ls (.int j :: .ref a :: S)) := by
  subst hp
  subst hji
  obtain ⟨cl, A, q1, q2⟩ := F
  have hlt : j.toNatClampNeg < vs.length := (List.getElem?_eq_some_iff.mp hv).1
  exact K.via fun t k => X.iaload C.1 (j := j) (v := v) (by rw [eT]; exact A.1) (State.isArrayOf_alike C.2.1.alike A.2.1) A.2.2 (fun q => q.elim hj fun y => by rw [q2] at y; simp at y; omega) (by rw [q2]; simpa using hv) (g := mkF m pc Ls (.int j :: .ref a :: S)) rfl rfl (hb C.2.2.2.1 hd) t k
theorem Go.ldC (C : Cx p s m meth c Z own nm bytes maxL ret) (X : Stand p l e R s m args below meth c T locs cells slots) {a : Addr} {k : ClassId} {vs : List Value} {j : Int32} {i : Nat} {v : Value} (eT : T.heap = h) (F : AL Z h a k .char vs) (hj : ¬ j < 0) (hji : j.toNatClampNeg = i) (hv : vs[i]? = some v) (hd : decode bytes pc = .ok (.caload, 1)) (hp : pc + 1 = pc')
    (K : Go p e below Fin' T (mkF m pc' Ls (v :: S))) : Go p e below Fin' T (mkF m pc Ls (.int j :: .ref a :: S)) := by
  subst hp
  subst hji
  obtain ⟨cl, A, q1, q2⟩ := F
  have hlt : j.toNatClampNeg < vs.length := (List.getElem?_eq_some_iff.mp hv).1
  exact K.via fun t k => X.caload C.1 (j := j) (v := v) (by rw [eT]; exact A.1) (State.isArrayOf_alike C.2.1.alike A.2.1) A.2.2 (fun q => q.elim hj fun y => by rw [q2] at y; simp at y; omega) (by rw [q2]; simpa using hv) (g := mkF m pc Ls (.int j :: .ref a :: S)) rfl rfl (hb C.2.2.2.1 hd) t k
theorem Go.ldB (C : Cx p s m meth c Z own nm bytes maxL ret) (X : Stand p l e R s m args below meth c T locs cells slots) {a : Addr} {k : ClassId} {vs : List Value} {j : Int32} {i : Nat} {v : Value} (eT : T.heap = h) (F : AL Z h a k .byte vs) (hj : ¬ j < 0) (hji : j.toNatClampNeg = i) (hv : vs[i]? = some v) (hd : decode bytes pc = .ok (.baload, 1)) (hp : pc + 1 = pc')
    (K : Go p e below Fin' T (mkF m pc' Ls (v :: S))) : Go p e below Fin' T (mkF m pc Ls (.int j :: .ref a :: S)) := by
  subst hp
  subst hji
  obtain ⟨cl, A, q1, q2⟩ := F
  have hlt : j.toNatClampNeg < vs.length := (List.getElem?_eq_some_iff.mp hv).1
  exact K.via fun t k => X.baloadBytes C.1 (j := j) (v := v) (by rw [eT]; exact A.1) (State.isArrayOf_alike C.2.1.alike A.2.1) A.2.2 (fun q => q.elim hj fun y => by rw [q2] at y; simp at y; omega) (by rw [q2]; simpa using hv) (g := mkF m pc Ls (.int j :: .ref a :: S)) rfl rfl (hb C.2.2.2.1 hd) t k
theorem Go.ldZ (C : Cx p s m meth c Z own nm bytes maxL ret) (X : Stand p l e R s m args below meth c T locs cells slots) {a : Addr} {k : ClassId} {vs : List Value} {j : Int32} {i : Nat} {v : Value} (eT : T.heap = h) (F : AL Z h a k .boolean vs) (hj : ¬ j < 0) (hji : j.toNatClampNeg = i) (hv : vs[i]? = some v) (hd : decode bytes pc = .ok (.baload, 1)) (hp : pc + 1 = pc')
    (K : Go p e below Fin' T (mkF m pc' Ls (v :: S))) : Go p e below Fin' T (mkF m pc Ls (.int j :: .ref a :: S)) := by
  subst hp
  subst hji
  obtain ⟨cl, A, q1, q2⟩ := F
  have hlt : j.toNatClampNeg < vs.length := (List.getElem?_eq_some_iff.mp hv).1
  exact K.via fun t k => X.baloadBooleans C.1 (j := j) (v := v) (by rw [eT]; exact A.1) (State.isArrayOf_alike C.2.1.alike A.2.1) A.2.2 (fun q => q.elim hj fun y => by rw [q2] at y; simp at y; omega) (by rw [q2]; simpa using hv) (g := mkF m pc Ls (.int j :: .ref a :: S)) rfl rfl (hb C.2.2.2.1 hd) t k
theorem Go.ldJ (C : Cx p s m meth c Z own nm bytes maxL ret) (X : Stand p l e R s m args below meth c T locs cells slots) {a : Addr} {k : ClassId} {vs : List Value} {j : Int32} {i : Nat} {v : Value} (eT : T.heap = h) (F : AL Z h a k .long vs) (hj : ¬ j < 0) (hji : j.toNatClampNeg = i) (hv : vs[i]? = some v) (hd : decode bytes pc = .ok (.laload, 1)) (hp : pc + 1 = pc')
    (K : Go p e below Fin' T (mkF m pc' Ls (v :: S))) : Go p e below Fin' T (mkF m pc Ls (.int j :: .ref a :: S)) := by
  subst hp
  subst hji
  obtain ⟨cl, A, q1, q2⟩ := F
  have hlt : j.toNatClampNeg < vs.length := (List.getElem?_eq_some_iff.mp hv).1
  exact K.via fun t k => X.laload C.1 (j := j) (v := v) (by rw [eT]; exact A.1) (State.isArrayOf_alike C.2.1.alike A.2.1) A.2.2 (fun q => q.elim hj fun y => by rw [q2] at y; simp at y; omega) (by rw [q2]; simpa using hv) (g := mkF m pc Ls (.int j :: .ref a :: S)) rfl rfl (hb C.2.2.2.1 hd) t k
theorem Go.ldR (C : Cx p s m meth c Z own nm bytes maxL ret) (X : Stand p l e R s m args below meth c T locs cells slots) {a : Addr} {k : ClassId} {vs : List Value} {j : Int32} {i : Nat} {v : Value} {ty : FieldType} (eT : T.heap = h) (F : AL Z h a k ty vs) (hj : ¬ j < 0) (hji : j.toNatClampNeg = i) (hv : vs[i]? = some v) (hty : ty.isReference = true) (hd : decode bytes pc = .ok (.aaload, 1)) (hp : pc + 1 = pc')
    (K : Go p e below Fin' T (mkF m pc' Ls (v :: S))) : Go p e below Fin' T (mkF m pc Ls (.int j :: .ref a :: S)) := by
  subst hp
  subst hji
  obtain ⟨cl, A, q1, q2⟩ := F
  have hlt : j.toNatClampNeg < vs.length := (List.getElem?_eq_some_iff.mp hv).1
  exact K.via fun t k => X.aaload C.1 (j := j) (v := v) (by rw [eT]; exact A.1) (State.isArrayOf_alike C.2.1.alike A.2.1) hty A.2.2 (fun q => q.elim hj fun y => by rw [q2] at y; simp at y; omega) (by rw [q2]; simpa using hv) (g := mkF m pc Ls (.int j :: .ref a :: S)) rfl rfl (hb C.2.2.2.1 hd) t k
theorem Go.alen (C : Cx p s m meth c Z own nm bytes maxL ret) (X : Stand p l e R s m args below meth c T locs cells slots) {a : Addr} {k : ClassId} {ty : FieldType} {vs : List Value} {z : Int32} (eT : T.heap = h) (F : AL Z h a k ty vs) (hz : vs.length.toInt32 = z) (hd : decode bytes pc = .ok (.arraylength, 1)) (hp : pc + 1 = pc')
    (K : Go p e below Fin' T (mkF m pc' Ls (.int z :: S))) : Go p e below Fin' T (mkF m pc Ls (.ref a :: S)) := by
  subst hp
  subst hz
  obtain ⟨cl, A, q1, q2⟩ := F
  have q3 : cl.slots.size = vs.length := by rw [q2]; simp
  refine K.via fun t k => X.arraylength C.1 (by rw [eT]; exact A.1) (State.isArrayOf_alike C.2.1.alike A.2.1) (g := mkF m pc Ls (.ref a :: S)) rfl rfl (hb C.2.2.2.1 hd) t ?_
  rw [q3]; exact k
theorem Go.ldcR (C : Cx p s m meth c Z own nm bytes maxL ret) (X : Stand p l e R s m args below meth c T locs cells slots) {idx : Nat} {text : String} {a : Addr} (w : (Cond.stringRef own idx text).before a0 Z = true) (L : Lit Z own idx a) (hd : decode bytes pc = .ok (.ldc idx, 2)) (hp : pc + 2 = pc')
    (K : Go p e below Fin' T (mkF m pc' Ls (.ref a :: S))) : Go p e below Fin' T (mkF m pc Ls S) := by
  subst hp
  exact K.via (Jvm.RoadKit.ldcR X C.1 C.2.1 C.2.2.1 w L (g := mkF m pc Ls S) rfl (hb C.2.2.2.1 hd))
/-! calls -/
theorem Go.initO (C : Cx p s m meth c Z own nm bytes maxL ret) (X : Stand p l e R s m args below meth c T locs cells slots) {idx : Nat} {a : Addr} (w1 : (Cond.methodLink own idx Lib.objectInit).before a0 Z = true) (w2 : (Cond.instanceMethod Lib.objectInit).before a0 Z = true) (w3 : (Cond.code Lib.objectInit ⟨#[0xb1]⟩ 1 none).before a0 Z = true) (eT : T.heap = h) (hls : Ls.size = maxL) (hf : 1 ≤ R.frames) {W : Nat} (hW : (S.map fun v => v.category).sum ≤ W) (hl : W + 12 ≤ R.locals) (hd : decode bytes pc = .ok (.invokespecial idx, 3)) (hp : pc + 3 = pc')
    (K : ∀ T', Stand p l e R s m args below meth c T' locs cells slots → T'.heap = h → Go p e below Fin' T' (mkF m pc' Ls S)) : Go p e below Fin' T (mkF m pc Ls (.ref a :: S)) := by
  subst hp
  obtain ⟨T', X', e', st⟩ := Jvm.RoadKit.initO X C.1 C.2.1 C.2.2.1 w1 w2 w3 eT (g := mkF m pc Ls (.ref a :: S)) rfl (by rw [C.2.2.2.2.1]; exact hls) rfl (hb C.2.2.2.1 hd) hf (W := W) (by show 2 * 0 + _ ≤ _; omega) hl
  exact (K T' X' e').via st
theorem Go.callS (C : Cx p s m meth c Z own nm bytes maxL ret) (X : Stand p l e R s m args below meth c T locs cells slots) {idx : Nat} {y : MethodName} {bytes' : ByteArray} {maxL' : Nat} {ret' : Option FieldType} {rm : Room} {as' : Array Value} {Q' : Option Value → Heap → List Loc → Prop} {argsL rest : List Value} {ps : List FieldType} {r : Option FieldType} {W : Nat} (w1 : (Cond.methodLink own idx y).before a0 Z = true) (w2 : (Cond.static y).before a0 Z = true) (hy : y.cls ≠ "java/lang/invoke/MethodHandle" ∧ y.cls ≠ "java/lang/invoke/VarHandle") (M : Met1 l Z y bytes' maxL' ret' rm as' h Q') (wc : (Cond.code y bytes' maxL' ret').before a0 Z = true) (wz : (Cond.initialized y.cls).before a0 Z = true) (eT : T.heap = h) (hS : S = argsL.reverse ++ rest) (has : (argsL).toArray = as') (pd : parseMethodDescriptor y.desc = some ⟨ps, r⟩) (hlen : argsL.length = ps.length) (hW : (rest.map fun v => v.category).sum ≤ W) (hls : Ls.size = maxL) (hf : rm.frames + 1 ≤ R.frames) (hlo : W + (maxL' + 11) + rm.locals ≤ R.locals) (hc : cells + rm.cells ≤ R.cells) (hs : slots + rm.slots ≤ R.slots) (hd : decode bytes pc = .ok (.invokestatic idx, 3)) (hp : pc + 3 = pc')
    (K : ∀ T' v L, Stand p l e R s m args below meth c T' (locs ++ L) (cells + rm.cells) (slots + rm.slots) → Q' v T'.heap L → Go p e below Fin' T' (mkF m pc' Ls (v.toList ++ rest))) : Go p e below Fin' T (mkF m pc Ls S) := by
  subst hp
  subst hS has
  obtain ⟨v, _, ⟨T', L', k', n'⟩, -, X', ⟨L, hQ, l', y', z'⟩, st⟩ := Jvm.LawKit.callS X C.1 (y := y) C.2.2.1 (mvT C.2.1 w1) (mvT C.2.1 w2) (mvT C.2.1 wz) (mvT C.2.1 wc) hy (backOf (W := W) (M []) C.2.1 wc wz hf hlo) (g := mkF m pc Ls (argsL.reverse ++ rest)) rfl (by show Ls.size = _; rw [C.2.2.2.2.1]; exact hls) (argsL := argsL) (rest := rest) (lenOf pd hlen) rfl (by show 2 * 0 + _ ≤ _; omega) (hb C.2.2.2.1 hd) (fun _ _ => ⟨rfl, eT, hc, hs⟩)
  dsimp only [Pt.U, Pt.locs, Pt.cells, Pt.slots] at X' l' y' z' st hQ
  subst l' y' z'
  exact (K T' v L X' hQ).via st
theorem Go.callI (C : Cx p s m meth c Z own nm bytes maxL ret) (X : Stand p l e R s m args below meth c T locs cells slots) {idx : Nat} {y : MethodName} {a : Addr} {bytes' : ByteArray} {maxL' : Nat} {ret' : Option FieldType} {rm : Room} {as' : Array Value} {Q' : Option Value → Heap → List Loc → Prop} {argsL rest : List Value} {ps : List FieldType} {r : Option FieldType} {W : Nat} (hini : y.name = "<init>") (w1 : (Cond.methodLink own idx y).before a0 Z = true) (w2 : (Cond.instanceMethod y).before a0 Z = true) (hy : y.cls ≠ "java/lang/invoke/MethodHandle" ∧ y.cls ≠ "java/lang/invoke/VarHandle") (M : Met1 l Z y bytes' maxL' ret' rm as' h Q') (wc : (Cond.code y bytes' maxL' ret').before a0 Z = true) (wz : (Cond.initialized y.cls).before a0 Z = true) (eT : T.heap = h) (hS : S = argsL.reverse ++ .ref a :: rest) (has : (.ref a :: argsL).toArray = as') (pd : parseMethodDescriptor y.desc = some ⟨ps, r⟩) (hlen : argsL.length = ps.length) (hW : (rest.map fun v => v.category).sum ≤ W) (hls : Ls.size = maxL) (hf : rm.frames + 1 ≤ R.frames) (hlo : W + (maxL' + 11) + rm.locals ≤ R.locals) (hc : cells + rm.cells ≤ R.cells) (hs : slots + rm.slots ≤ R.slots) (hr0 : ret' = none) (hd : decode bytes pc = .ok (.invokespecial idx, 3)) (hp : pc + 3 = pc')
    (K : ∀ T' v L, Stand p l e R s m args below meth c T' (locs ++ L) (cells + rm.cells) (slots + rm.slots) → Q' v T'.heap L → Go p e below Fin' T' (mkF m pc' Ls (v.toList ++ rest))) : Go p e below Fin' T (mkF m pc Ls S) := by
  subst hp
  subst hr0
  subst hS has
  obtain ⟨v, _, ⟨T', L', k', n'⟩, -, X', ⟨L, hQ, l', y', z'⟩, st⟩ := X.specialBack C.1 (y := y) hini C.2.2.1 (mvT C.2.1 w1) (mvT C.2.1 w2) (mvT C.2.1 wc) hy (backOf (W := W) (M []) C.2.1 wc wz hf hlo) (g := mkF m pc Ls (argsL.reverse ++ .ref a :: rest)) rfl (by show Ls.size = _; rw [C.2.2.2.2.1]; exact hls) (Steps.refl _) (a := a) (argsL := argsL) (rest := rest) (lenOf pd hlen) rfl (by show 2 * 0 + _ ≤ _; omega) (hb C.2.2.2.1 hd) (fun _ _ => ⟨rfl, eT, hc, hs⟩)
  dsimp only [Pt.U, Pt.locs, Pt.cells, Pt.slots] at X' l' y' z' st hQ
  subst l' y' z'
  exact (K T' v L X' hQ).via fun t k => st.trans k
theorem Go.callIN (C : Cx p s m meth c Z own nm bytes maxL ret) (X : Stand p l e R s m args below meth c T locs cells slots) {idx : Nat} {host : String} {y : MethodName} {a : Addr} {bytes' : ByteArray} {maxL' : Nat} {ret' : Option FieldType} {rm : Room} {as' : Array Value} {Q' : Option Value → Heap → List Loc → Prop} {argsL rest : List Value} {ps : List FieldType} {r : Option FieldType} {W : Nat} (hini : y.name = "<init>") (w1 : (Cond.methodLinkNest own idx y host).before a0 Z = true) (w2 : (Cond.instanceMethod y).before a0 Z = true) (hy : y.cls ≠ "java/lang/invoke/MethodHandle" ∧ y.cls ≠ "java/lang/invoke/VarHandle") (M : Met1 l Z y bytes' maxL' ret' rm as' h Q') (wc : (Cond.code y bytes' maxL' ret').before a0 Z = true) (wz : (Cond.initialized y.cls).before a0 Z = true) (eT : T.heap = h) (hS : S = argsL.reverse ++ .ref a :: rest) (has : (.ref a :: argsL).toArray = as') (pd : parseMethodDescriptor y.desc = some ⟨ps, r⟩) (hlen : argsL.length = ps.length) (hW : (rest.map fun v => v.category).sum ≤ W) (hls : Ls.size = maxL) (hf : rm.frames + 1 ≤ R.frames) (hlo : W + (maxL' + 11) + rm.locals ≤ R.locals) (hc : cells + rm.cells ≤ R.cells) (hs : slots + rm.slots ≤ R.slots) (hr0 : ret' = none) (hd : decode bytes pc = .ok (.invokespecial idx, 3)) (hp : pc + 3 = pc')
    (K : ∀ T' v L, Stand p l e R s m args below meth c T' (locs ++ L) (cells + rm.cells) (slots + rm.slots) → Q' v T'.heap L → Go p e below Fin' T' (mkF m pc' Ls (v.toList ++ rest))) : Go p e below Fin' T (mkF m pc Ls S) := by
  subst hp
  subst hr0
  have w1' : (Cond.methodLinkNest own idx y host).before args s = true := (Cond.methodLinkNest_wide C.2.1 w1 :)
  subst hS has
  obtain ⟨v, _, ⟨T', L', k', n'⟩, -, X', ⟨L, hQ, l', y', z'⟩, st⟩ := X.specialBackNest C.1 (y := y) hini C.2.2.1 w1' (mvT C.2.1 w2) (mvT C.2.1 wc) hy (backOf (W := W) (M []) C.2.1 wc wz hf hlo) (g := mkF m pc Ls (argsL.reverse ++ .ref a :: rest)) rfl (by show Ls.size = _; rw [C.2.2.2.2.1]; exact hls) (Steps.refl _) (a := a) (argsL := argsL) (rest := rest) (lenOf pd hlen) rfl (by show 2 * 0 + _ ≤ _; omega) (hb C.2.2.2.1 hd) (fun _ _ => ⟨rfl, eT, hc, hs⟩)
  dsimp only [Pt.U, Pt.locs, Pt.cells, Pt.slots] at X' l' y' z' st hQ
  subst l' y' z'
  exact (K T' v L X' hQ).via fun t k => st.trans k
theorem Go.callP (C : Cx p s m meth c Z own nm bytes maxL ret) (X : Stand p l e R s m args below meth c T locs cells slots) {idx : Nat} {y : MethodName} {a : Addr} {K1 : String} {bytes' : ByteArray} {maxL' : Nat} {ret' : Option FieldType} {rm : Room} {as' : Array Value} {Q' : Option Value → Heap → List Loc → Prop} {argsL rest : List Value} {ps : List FieldType} {r : Option FieldType} {W : Nat} (w1 : (Cond.methodLink own idx y).before a0 Z = true) (w2 : (Cond.instanceMethod y).before a0 Z = true) (w3 : (Cond.selects y.cls y y).before a0 Z = true) (w4 : (Cond.privateMethod y).before a0 Z = true) (E : Exa Z h a K1) (hy : y.cls ≠ "java/lang/invoke/MethodHandle" ∧ y.cls ≠ "java/lang/invoke/VarHandle") (M : Met1 l Z y bytes' maxL' ret' rm as' h Q') (wc : (Cond.code y bytes' maxL' ret').before a0 Z = true) (wz : (Cond.initialized y.cls).before a0 Z = true) (eT : T.heap = h) (hS : S = argsL.reverse ++ .ref a :: rest) (has : (.ref a :: argsL).toArray = as') (pd : parseMethodDescriptor y.desc = some ⟨ps, r⟩) (hlen : argsL.length = ps.length) (hW : (rest.map fun v => v.category).sum ≤ W) (hls : Ls.size = maxL) (hf : rm.frames + 1 ≤ R.frames) (hlo : W + (maxL' + 11) + rm.locals ≤ R.locals) (hc : cells + rm.cells ≤ R.cells) (hs : slots + rm.slots ≤ R.slots) (hd : decode bytes pc = .ok (.invokevirtual idx, 3)) (hp : pc + 3 = pc')
    (K : ∀ T' v L, Stand p l e R s m args below meth c T' (locs ++ L) (cells + rm.cells) (slots + rm.slots) → Q' v T'.heap L → Go p e below Fin' T' (mkF m pc' Ls (v.toList ++ rest))) : Go p e below Fin' T (mkF m pc Ls S) := by
  subst hp
  obtain ⟨cq, q1, q2⟩ := E.cell
  subst hS has
  obtain ⟨v, _, ⟨T', L', k', n'⟩, -, X', ⟨L, hQ, l', y', z'⟩, st⟩ := X.privateBack C.1 (y := y) C.2.2.1 (mvT C.2.1 w1) (mvT C.2.1 w2) (mvT C.2.1 w3) (Cond.privateMethod_at (mvP C.2.1 w4 (args := #[]))) (mvT C.2.1 wc) hy (backOf (W := W) (M []) C.2.1 wc wz hf hlo) (g := mkF m pc Ls (argsL.reverse ++ .ref a :: rest)) rfl (by show Ls.size = _; rw [C.2.2.2.2.1]; exact hls) (Steps.refl _) (a := a) (by rw [eT]; exact q1) q2 (argsL := argsL) (rest := rest) (lenOf pd hlen) rfl (by show 2 * 0 + _ ≤ _; omega) (hb C.2.2.2.1 hd) (fun _ _ => ⟨rfl, eT, hc, hs⟩)
  dsimp only [Pt.U, Pt.locs, Pt.cells, Pt.slots] at X' l' y' z' st hQ
  subst l' y' z'
  exact (K T' v L X' hQ).via fun t k => st.trans k
theorem Go.callV (C : Cx p s m meth c Z own nm bytes maxL ret) (X : Stand p l e R s m args below meth c T locs cells slots) {idx : Nat} {y z : MethodName} {a : Addr} {K1 : String} {bytes' : ByteArray} {maxL' : Nat} {ret' : Option FieldType} {rm : Room} {as' : Array Value} {Q' : Option Value → Heap → List Loc → Prop} {argsL rest : List Value} {ps : List FieldType} {r : Option FieldType} {W : Nat} (w1 : (Cond.methodLink own idx y).before a0 Z = true) (w2 : (Cond.declares y).before a0 Z = true) (hnf : NotFace s y) (w3 : (Cond.selects K1 y z).before a0 Z = true) (w4 : (Cond.instanceMethod z).before a0 Z = true) (E : Exa Z h a K1) (hy : y.cls ≠ "java/lang/invoke/MethodHandle" ∧ y.cls ≠ "java/lang/invoke/VarHandle") (M : Met1 l Z z bytes' maxL' ret' rm as' h Q') (wc : (Cond.code z bytes' maxL' ret').before a0 Z = true) (wz : (Cond.initialized z.cls).before a0 Z = true) (eT : T.heap = h) (hS : S = argsL.reverse ++ .ref a :: rest) (has : (.ref a :: argsL).toArray = as') (pd : parseMethodDescriptor y.desc = some ⟨ps, r⟩) (hlen : argsL.length = ps.length) (hW : (rest.map fun v => v.category).sum ≤ W) (hls : Ls.size = maxL) (hf : rm.frames + 1 ≤ R.frames) (hlo : W + (maxL' + 11) + rm.locals ≤ R.locals) (hc : cells + rm.cells ≤ R.cells) (hs : slots + rm.slots ≤ R.slots) (hd : decode bytes pc = .ok (.invokevirtual idx, 3)) (hp : pc + 3 = pc')
    (K : ∀ T' v L, Stand p l e R s m args below meth c T' (locs ++ L) (cells + rm.cells) (slots + rm.slots) → Q' v T'.heap L → Go p e below Fin' T' (mkF m pc' Ls (v.toList ++ rest))) : Go p e below Fin' T (mkF m pc Ls S) := by
  subst hp
  obtain ⟨cq, kq, qa, qb, qc⟩ := isOf C.2.1 eT E
  subst hS has
  obtain ⟨v, _, ⟨T', L', k', n'⟩, -, X', ⟨L, hQ, l', y', z'⟩, st⟩ := X.virtualBack C.1 (y := y) (z := z) C.2.2.1 (mvT C.2.1 w1) (mvT C.2.1 w2) hnf (mvT C.2.1 w3) (mvT C.2.1 w4) hy (backOf (W := W) (M []) C.2.1 wc wz hf hlo) qa qc (g := mkF m pc Ls (argsL.reverse ++ .ref a :: rest)) rfl (by show Ls.size = _; rw [C.2.2.2.2.1]; exact hls) (Steps.refl _) (argsL := argsL) (rest := rest) (lenOf pd hlen) rfl (by show 2 * 0 + _ ≤ _; omega) (hb C.2.2.2.1 hd) (fun _ _ => ⟨rfl, eT, hc, hs⟩)
  dsimp only [Pt.U, Pt.locs, Pt.cells, Pt.slots] at X' l' y' z' st hQ
  subst l' y' z'
  exact (K T' v L X' hQ).via fun t k => st.trans k
theorem Go.callF (C : Cx p s m meth c Z own nm bytes maxL ret) (X : Stand p l e R s m args below meth c T locs cells slots) {idx count : Nat} {y z : MethodName} {a : Addr} {K1 : String} {bytes' : ByteArray} {maxL' : Nat} {ret' : Option FieldType} {rm : Room} {as' : Array Value} {Q' : Option Value → Heap → List Loc → Prop} {argsL rest : List Value} {ps : List FieldType} {r : Option FieldType} {W : Nat} (w1 : (Cond.methodLink own idx y).before a0 Z = true) (w2 : (Cond.declares y).before a0 Z = true) (w3 : (Cond.interfaceMethod y.cls y.cls y.name y.desc).before a0 Z = true) (w4 : (Cond.selects K1 y z).before a0 Z = true) (w5 : (Cond.instanceMethod z).before a0 Z = true) (w6 : (Cond.publicMethod z).before a0 Z = true) (w7 : (Cond.unhidden K1 y.name y.desc).before a0 Z = true) (w8 : (Cond.castable K1 y.cls).before a0 Z = true) (hfa : ((Cond.interfaceMethod y.cls y.cls y.name y.desc).onTables && (Cond.interfaceMethod y.cls y.cls y.name y.desc).keepsFace) = true) (E : Exa Z h a K1) (hy : y.cls ≠ "java/lang/invoke/MethodHandle" ∧ y.cls ≠ "java/lang/invoke/VarHandle") (M : Met1 l Z z bytes' maxL' ret' rm as' h Q') (wc : (Cond.code z bytes' maxL' ret').before a0 Z = true) (wz : (Cond.initialized z.cls).before a0 Z = true) (eT : T.heap = h) (hS : S = argsL.reverse ++ .ref a :: rest) (has : (.ref a :: argsL).toArray = as') (pd : parseMethodDescriptor y.desc = some ⟨ps, r⟩) (hlen : argsL.length = ps.length) (hW : (rest.map fun v => v.category).sum ≤ W) (hls : Ls.size = maxL) (hf : rm.frames + 1 ≤ R.frames) (hlo : W + (maxL' + 11) + rm.locals ≤ R.locals) (hc : cells + rm.cells ≤ R.cells) (hs : slots + rm.slots ≤ R.slots) (hd : decode bytes pc = .ok (.invokeinterface idx count, 5)) (hp : pc + 5 = pc')
    (K : ∀ T' v L, Stand p l e R s m args below meth c T' (locs ++ L) (cells + rm.cells) (slots + rm.slots) → Q' v T'.heap L → Go p e below Fin' T' (mkF m pc' Ls (v.toList ++ rest))) : Go p e below Fin' T (mkF m pc Ls S) := by
  subst hp
  obtain ⟨cq, kq, qa, qb, qc⟩ := isOf C.2.1 eT E
  subst hS has
  obtain ⟨v, _, ⟨T', L', k', n'⟩, -, X', ⟨L, hQ, l', y', z'⟩, st⟩ := X.interfaceBack C.1 (xi := y) (y := z) C.2.2.1 (mvT C.2.1 w1) (mvT C.2.1 w2) (mvT C.2.1 w3 hfa) (mvT C.2.1 w4) (mvT C.2.1 w5) (mvT C.2.1 w6) (mvT C.2.1 w7) (mvT C.2.1 w8) hy (backOf (W := W) (M []) C.2.1 wc wz hf hlo) qa qb qc (g := mkF m pc Ls (argsL.reverse ++ .ref a :: rest)) rfl (by show Ls.size = _; rw [C.2.2.2.2.1]; exact hls) (Steps.refl _) (argsL := argsL) (rest := rest) (lenOf pd hlen) rfl (by show 2 * 0 + _ ≤ _; omega) (hb C.2.2.2.1 hd) (fun _ _ => ⟨rfl, eT, hc, hs⟩)
  dsimp only [Pt.U, Pt.locs, Pt.cells, Pt.slots] at X' l' y' z' st hQ
  subst l' y' z'
  exact (K T' v L X' hQ).via fun t k => st.trans k
theorem notFace_at {y : MethodName} {K1 : String} (hZ : Z.Warmed39 s.vm) (w : (Cond.selects K1 y y).before a0 Z = true) : NotFace s y := notFace_of_selects (args := #[]) (mvT hZ w)
end Own
end Jvm.RoadKit

namespace Jvm.RoadKit
open Sem ClassFile Op Lib Jvm.Stand Jvm.Free Jvm.LawKit
section OwnW
variable {p : Program} {l : Launch} {e : Env} {R : Room} {s : State} {m : MethodId} {args : Array Value} {below : List Frame} {meth : Method} {c : Code} {T : State} {locs : List Loc} {cells slots : Nat} {Z : State} {a0 : Array Value} {h : Heap}
variable {RC RS : Nat} {Q : Option Value → Heap → List Loc → Prop} {Fin' : Outcome → State → Prop} {own nm : String} {bytes : ByteArray} {maxL : Nat} {ret : Option FieldType} {pc pc' : Nat} {Ls Ls' : Array Slot} {S : List Value}
/-- sC is s but for its tables, which have grown as the run may let them; h: the heap now -/
def Sin (s sC : State) (h : Heap) : Prop := ∃ (vm : Vm) (k : Nat), sC = s.setVm vm ∧ s.Since vm k ∧ k ≤ h.size
theorem Sin.start (s : State) (h : Heap) : Sin s s h := ⟨s.vm, 0, rfl, (State.WarmedH.refl s).since 0, Nat.zero_le _⟩
theorem Sin.mono {sC : State} {h1 h2 : Heap} (Si : Sin s sC h1) (q : h1.size ≤ h2.size) : Sin s sC h2 := by obtain ⟨vm, k, a, b, c⟩ := Si; exact ⟨vm, k, a, b, Nat.le_trans c q⟩
theorem Cx.move {vm' : Vm} (C : Cx p s m meth c Z own nm bytes maxL ret) (hW : s.Warmed39 vm') : Cx p (s.setVm vm') m meth c Z own nm bytes maxL ret :=
  ⟨C.1, State.Warmed39.trans C.2.1 hW, by rw [show (s.setVm vm').vm = vm' from rfl, hW.alike.findClass]; exact C.2.2.1, C.2.2.2⟩
def FnW (s : State) (RC RS : Nat) (Q : Option Value → Heap → List Loc → Prop) (o : Outcome) (t : State) : Prop := ∃ v L, o = .returned v ∧ Q v t.heap L ∧ ReturnedEndW s o t L RC RS
def Met1W (l : Launch) (Z : State) (y : MethodName) (bytes : ByteArray) (maxL : Nat) (ret : Option FieldType) (rm : Room) (as' : Array Value) (h0 : Heap) (Q : Option Value → Heap → List Loc → Prop) : Prop :=
  ∀ ws : List Jvm.Cond, MetFree l y (head1 (Jvm.Cond.code y bytes maxL ret :: ws) rm) (fun a U => a = as' ∧ Z.Warmed39 U.vm ∧ U.heap = h0) (fun _ _ _ _ _ => True) (fun _ U o U' => ∃ v L, o = .returned v ∧ Q v U'.heap L ∧ ReturnedEndW U o U' L rm.cells rm.slots)
theorem Met1W.of_body {y : MethodName} {rm : Room} {as' : Array Value} {h0 : Heap} (hp : plainFor y = true) (ef : ∀ m, entryFrame m as' maxL = mkF m 0 Ls [])
    (body : ∀ {p : Program} {e : Env} {s : State} {m : MethodId} {below : List Frame} {meth : Method} {c : Code} {T : State}, Cx p s m meth c Z y.cls y.name bytes maxL ret → Stand p l e rm s m as' below meth c T [] 0 0 → T.heap = h0 → Go p e below (FnW s rm.cells rm.slots Q) T (mkF m 0 Ls [])) :
    Met1W l Z y bytes maxL ret rm as' h0 Q := by
  intro ws
  refine MetFree.of_bodySF hp hisR ?_
  intro p e s m args below meth c s₁ Bd hml0 hP hK
  obtain ⟨rfl, hZ, hh⟩ := hP
  have X0 : Stand p l e rm s m args below meth c s₁ [] 0 0 := Stand.of_body Bd
  have hlk : meth.locks = false := BodyLoose.notSynchronized Bd
  obtain ⟨s₂, o, st, r1, r2, r3⟩ := body (p := p) (e := e) (s := s) (m := m) (below := below) (meth := meth) (c := c) (T := s₁) ⟨Bd.exec, hZ, findClass_of_methodNamed Bd.named, Bd.bytes, hml0, Bd.returns, (name_of_methodNamed Bd.named Bd.method).1, hlk⟩ X0 (by rw [← hh, Bd.state]; rfl)
  exact ⟨s₂, o, castTop (ef m) st, r1, r2, r3⟩
theorem Go.ldcW {sC : State} (C : Cx p sC m meth c Z own nm bytes maxL ret) (X : Stand p l e R sC m args below meth c T locs cells slots) (Si : Sin s sC h) {idx n : Nat} {text : String} (w : (Cond.stringLink own idx text).before a0 Z = true) (wS : ∀ a ∈ Bundle.stringAtoms, a.before a0 Z = true) (eT : T.heap = h) (hn : 4 * text.toList.length ≤ n) (hbig : n ≤ 536870912) (hc : cells + 2 ≤ R.cells) (hl : slots + (n + 4) ≤ R.slots) (hd : decode bytes pc = .ok (.ldc idx, 2)) (hp : pc + 2 = pc')
    (K : ∀ T' h' a sC', Cx p sC' m meth c Z own nm bytes maxL ret → Stand p l e R sC' m args below meth c T' locs (cells + 2) (slots + (n + 4)) → T'.heap = h' → Sin s sC' h' → Ext h h' → Go p e below Fin' T' (mkF m pc' Ls (.ref a :: S))) : Go p e below Fin' T (mkF m pc Ls S) := by
  subst hp
  obtain ⟨vm0, k0, rfl, hS, hk⟩ := Si
  obtain ⟨a, T', h', k1, X', e', E', hS', hk', hW', hf', st⟩ := Jvm.RoadKit.ldcS X C.1 C.2.1 C.2.2.1 w wS eT hS hk (g := mkF m pc Ls S) rfl (hb C.2.2.2.1 hd) hn hbig hc hl
  exact (K T' h' a (s.setVm T'.vm) ⟨C.1, hW', hf', C.2.2.2⟩ X' e' ⟨T'.vm, k1, rfl, hS', hk'⟩ E').via st
theorem Go.callSW {sC : State} (C : Cx p sC m meth c Z own nm bytes maxL ret) (X : Stand p l e R sC m args below meth c T locs cells slots) (Si : Sin s sC h) {idx : Nat} {y : MethodName} {bytes' : ByteArray} {maxL' : Nat} {ret' : Option FieldType} {rm : Room} {as' : Array Value} {Q' : Option Value → Heap → List Loc → Prop} {argsL rest : List Value} {ps : List FieldType} {r : Option FieldType} {W : Nat} (w1 : (Cond.methodLink own idx y).before a0 Z = true) (w2 : (Cond.static y).before a0 Z = true) (hy : y.cls ≠ "java/lang/invoke/MethodHandle" ∧ y.cls ≠ "java/lang/invoke/VarHandle") (M : Met1W l Z y bytes' maxL' ret' rm as' h Q') (wc : (Cond.code y bytes' maxL' ret').before a0 Z = true) (wz : (Cond.initialized y.cls).before a0 Z = true) (eT : T.heap = h) (hS : S = argsL.reverse ++ rest) (has : (argsL).toArray = as') (pd : parseMethodDescriptor y.desc = some ⟨ps, r⟩) (hlen : argsL.length = ps.length) (hW : (rest.map fun v => v.category).sum ≤ W) (hls : Ls.size = maxL) (hf : rm.frames + 1 ≤ R.frames) (hlo : W + (maxL' + 11) + rm.locals ≤ R.locals) (hc : cells + rm.cells ≤ R.cells) (hs : slots + rm.slots ≤ R.slots) (hd : decode bytes pc = .ok (.invokestatic idx, 3)) (hp : pc + 3 = pc')
    (K : ∀ T' v L sC', Cx p sC' m meth c Z own nm bytes maxL ret → Stand p l e R sC' m args below meth c T' (locs ++ L) (cells + rm.cells) (slots + rm.slots) → Sin s sC' T'.heap → Q' v T'.heap L → Go p e below Fin' T' (mkF m pc' Ls (v.toList ++ rest))) : Go p e below Fin' T (mkF m pc Ls S) := by
  subst hp
  subst hS has
  obtain ⟨vm0, k0, rfl, hS0, hk0⟩ := Si
  obtain ⟨v, _, ⟨T', L', k', n'⟩, -, X', hS2, hg2, ⟨L, hQ, l', y', z'⟩, st⟩ := Jvm.RoadKit.callSS X C.1 (y := y) C.2.2.1 (mvT C.2.1 w1) (mvT C.2.1 w2) (mvT C.2.1 wz) (mvT C.2.1 wc) hy (backOfS (W := W) (M []) C.2.1 wc wz hf hlo) (g := mkF m pc Ls (argsL.reverse ++ rest)) rfl (by show Ls.size = _; rw [C.2.2.2.2.1]; exact hls) (argsL := argsL) (rest := rest) (lenOf pd hlen) rfl (by show 2 * 0 + _ ≤ _; omega) (hb C.2.2.2.1 hd) (fun _ _ => ⟨rfl, eT, hc, hs⟩)
  dsimp only [Pt.U, Pt.locs, Pt.cells, Pt.slots] at X' hS2 hg2 l' y' z' st hQ
  subst l' y' z'
  exact (K T' v L (s.setVm T'.vm) (C.move hS2.1) X' ⟨T'.vm, T'.heap.size, rfl, foldS hS0 (by rw [eT]; exact hk0) hS2 hg2, Nat.le_refl _⟩ hQ).via fun t k => st.trans k
theorem Go.callIW {sC : State} (C : Cx p sC m meth c Z own nm bytes maxL ret) (X : Stand p l e R sC m args below meth c T locs cells slots) (Si : Sin s sC h) {idx : Nat} {y : MethodName} {a : Addr} {bytes' : ByteArray} {maxL' : Nat} {ret' : Option FieldType} {rm : Room} {as' : Array Value} {Q' : Option Value → Heap → List Loc → Prop} {argsL rest : List Value} {ps : List FieldType} {r : Option FieldType} {W : Nat} (hini : y.name = "<init>") (w1 : (Cond.methodLink own idx y).before a0 Z = true) (w2 : (Cond.instanceMethod y).before a0 Z = true) (hy : y.cls ≠ "java/lang/invoke/MethodHandle" ∧ y.cls ≠ "java/lang/invoke/VarHandle") (M : Met1W l Z y bytes' maxL' ret' rm as' h Q') (wc : (Cond.code y bytes' maxL' ret').before a0 Z = true) (wz : (Cond.initialized y.cls).before a0 Z = true) (eT : T.heap = h) (hS : S = argsL.reverse ++ .ref a :: rest) (has : (.ref a :: argsL).toArray = as') (pd : parseMethodDescriptor y.desc = some ⟨ps, r⟩) (hlen : argsL.length = ps.length) (hW : (rest.map fun v => v.category).sum ≤ W) (hls : Ls.size = maxL) (hf : rm.frames + 1 ≤ R.frames) (hlo : W + (maxL' + 11) + rm.locals ≤ R.locals) (hc : cells + rm.cells ≤ R.cells) (hs : slots + rm.slots ≤ R.slots) (hr0 : ret' = none) (hd : decode bytes pc = .ok (.invokespecial idx, 3)) (hp : pc + 3 = pc')
    (K : ∀ T' v L sC', Cx p sC' m meth c Z own nm bytes maxL ret → Stand p l e R sC' m args below meth c T' (locs ++ L) (cells + rm.cells) (slots + rm.slots) → Sin s sC' T'.heap → Q' v T'.heap L → Go p e below Fin' T' (mkF m pc' Ls (v.toList ++ rest))) : Go p e below Fin' T (mkF m pc Ls S) := by
  subst hp
  subst hr0
  subst hS has
  obtain ⟨vm0, k0, rfl, hS0, hk0⟩ := Si
  obtain ⟨v, _, ⟨T', L', k', n'⟩, -, X', hS2, hg2, ⟨L, hQ, l', y', z'⟩, st⟩ := X.specialBackS C.1 (y := y) hini C.2.2.1 (mvT C.2.1 w1) (mvT C.2.1 w2) (mvT C.2.1 wc) hy (backOfS (W := W) (M []) C.2.1 wc wz hf hlo) (g := mkF m pc Ls (argsL.reverse ++ .ref a :: rest)) rfl (by show Ls.size = _; rw [C.2.2.2.2.1]; exact hls) (Steps.refl _) (a := a) (argsL := argsL) (rest := rest) (lenOf pd hlen) rfl (by show 2 * 0 + _ ≤ _; omega) (hb C.2.2.2.1 hd) (fun _ _ => ⟨rfl, eT, hc, hs⟩)
  dsimp only [Pt.U, Pt.locs, Pt.cells, Pt.slots] at X' hS2 hg2 l' y' z' st hQ
  subst l' y' z'
  exact (K T' v L (s.setVm T'.vm) (C.move hS2.1) X' ⟨T'.vm, T'.heap.size, rfl, foldS hS0 (by rw [eT]; exact hk0) hS2 hg2, Nat.le_refl _⟩ hQ).via fun t k => st.trans k
theorem Go.callPW {sC : State} (C : Cx p sC m meth c Z own nm bytes maxL ret) (X : Stand p l e R sC m args below meth c T locs cells slots) (Si : Sin s sC h) {idx : Nat} {y : MethodName} {a : Addr} {K1 : String} {bytes' : ByteArray} {maxL' : Nat} {ret' : Option FieldType} {rm : Room} {as' : Array Value} {Q' : Option Value → Heap → List Loc → Prop} {argsL rest : List Value} {ps : List FieldType} {r : Option FieldType} {W : Nat} (w1 : (Cond.methodLink own idx y).before a0 Z = true) (w2 : (Cond.instanceMethod y).before a0 Z = true) (w3 : (Cond.selects y.cls y y).before a0 Z = true) (w4 : (Cond.privateMethod y).before a0 Z = true) (E : Exa Z h a K1) (hy : y.cls ≠ "java/lang/invoke/MethodHandle" ∧ y.cls ≠ "java/lang/invoke/VarHandle") (M : Met1W l Z y bytes' maxL' ret' rm as' h Q') (wc : (Cond.code y bytes' maxL' ret').before a0 Z = true) (wz : (Cond.initialized y.cls).before a0 Z = true) (eT : T.heap = h) (hS : S = argsL.reverse ++ .ref a :: rest) (has : (.ref a :: argsL).toArray = as') (pd : parseMethodDescriptor y.desc = some ⟨ps, r⟩) (hlen : argsL.length = ps.length) (hW : (rest.map fun v => v.category).sum ≤ W) (hls : Ls.size = maxL) (hf : rm.frames + 1 ≤ R.frames) (hlo : W + (maxL' + 11) + rm.locals ≤ R.locals) (hc : cells + rm.cells ≤ R.cells) (hs : slots + rm.slots ≤ R.slots) (hd : decode bytes pc = .ok (.invokevirtual idx, 3)) (hp : pc + 3 = pc')
    (K : ∀ T' v L sC', Cx p sC' m meth c Z own nm bytes maxL ret → Stand p l e R sC' m args below meth c T' (locs ++ L) (cells + rm.cells) (slots + rm.slots) → Sin s sC' T'.heap → Q' v T'.heap L → Go p e below Fin' T' (mkF m pc' Ls (v.toList ++ rest))) : Go p e below Fin' T (mkF m pc Ls S) := by
  subst hp
  subst hS has
  obtain ⟨cq, q1, q2⟩ := E.cell
  obtain ⟨vm0, k0, rfl, hS0, hk0⟩ := Si
  obtain ⟨v, _, ⟨T', L', k', n'⟩, -, X', hS2, hg2, ⟨L, hQ, l', y', z'⟩, st⟩ := privateBackS X C.1 (y := y) C.2.2.1 (mvT C.2.1 w1) (mvT C.2.1 w2) (mvT C.2.1 w3) (Cond.privateMethod_at (mvP C.2.1 w4 (args := #[]))) (mvT C.2.1 wc) hy (backOfS (W := W) (M []) C.2.1 wc wz hf hlo) (g := mkF m pc Ls (argsL.reverse ++ .ref a :: rest)) rfl (by show Ls.size = _; rw [C.2.2.2.2.1]; exact hls) (Steps.refl _) (a := a) (by rw [eT]; exact q1) q2 (argsL := argsL) (rest := rest) (lenOf pd hlen) rfl (by show 2 * 0 + _ ≤ _; omega) (hb C.2.2.2.1 hd) (fun _ _ => ⟨rfl, eT, hc, hs⟩)
  dsimp only [Pt.U, Pt.locs, Pt.cells, Pt.slots] at X' hS2 hg2 l' y' z' st hQ
  subst l' y' z'
  exact (K T' v L (s.setVm T'.vm) (C.move hS2.1) X' ⟨T'.vm, T'.heap.size, rfl, foldS hS0 (by rw [eT]; exact hk0) hS2 hg2, Nat.le_refl _⟩ hQ).via fun t k => st.trans k
theorem Go.callVW {sC : State} (C : Cx p sC m meth c Z own nm bytes maxL ret) (X : Stand p l e R sC m args below meth c T locs cells slots) (Si : Sin s sC h) {idx : Nat} {y z : MethodName} {a : Addr} {K1 : String} {bytes' : ByteArray} {maxL' : Nat} {ret' : Option FieldType} {rm : Room} {as' : Array Value} {Q' : Option Value → Heap → List Loc → Prop} {argsL rest : List Value} {ps : List FieldType} {r : Option FieldType} {W : Nat} (w1 : (Cond.methodLink own idx y).before a0 Z = true) (w2 : (Cond.declares y).before a0 Z = true) (hnf : NotFace sC y) (w3 : (Cond.selects K1 y z).before a0 Z = true) (w4 : (Cond.instanceMethod z).before a0 Z = true) (E : Exa Z h a K1) (hy : y.cls ≠ "java/lang/invoke/MethodHandle" ∧ y.cls ≠ "java/lang/invoke/VarHandle") (M : Met1W l Z z bytes' maxL' ret' rm as' h Q') (wc : (Cond.code z bytes' maxL' ret').before a0 Z = true) (wz : (Cond.initialized z.cls).before a0 Z = true) (eT : T.heap = h) (hS : S = argsL.reverse ++ .ref a :: rest) (has : (.ref a :: argsL).toArray = as') (pd : parseMethodDescriptor y.desc = some ⟨ps, r⟩) (hlen : argsL.length = ps.length) (hW : (rest.map fun v => v.category).sum ≤ W) (hls : Ls.size = maxL) (hf : rm.frames + 1 ≤ R.frames) (hlo : W + (maxL' + 11) + rm.locals ≤ R.locals) (hc : cells + rm.cells ≤ R.cells) (hs : slots + rm.slots ≤ R.slots) (hd : decode bytes pc = .ok (.invokevirtual idx, 3)) (hp : pc + 3 = pc')
    (K : ∀ T' v L sC', Cx p sC' m meth c Z own nm bytes maxL ret → Stand p l e R sC' m args below meth c T' (locs ++ L) (cells + rm.cells) (slots + rm.slots) → Sin s sC' T'.heap → Q' v T'.heap L → Go p e below Fin' T' (mkF m pc' Ls (v.toList ++ rest))) : Go p e below Fin' T (mkF m pc Ls S) := by
  subst hp
  subst hS has
  obtain ⟨cq, kq, qa, qb, qc⟩ := isOf C.2.1 eT E
  obtain ⟨vm0, k0, rfl, hS0, hk0⟩ := Si
  obtain ⟨v, _, ⟨T', L', k', n'⟩, -, X', hS2, hg2, ⟨L, hQ, l', y', z'⟩, st⟩ := X.virtualBackS C.1 (y := y) (z := z) C.2.2.1 (mvT C.2.1 w1) (mvT C.2.1 w2) hnf (mvT C.2.1 w3) (mvT C.2.1 w4) hy (backOfS (W := W) (M []) C.2.1 wc wz hf hlo) qa qc (g := mkF m pc Ls (argsL.reverse ++ .ref a :: rest)) rfl (by show Ls.size = _; rw [C.2.2.2.2.1]; exact hls) (Steps.refl _) (argsL := argsL) (rest := rest) (lenOf pd hlen) rfl (by show 2 * 0 + _ ≤ _; omega) (hb C.2.2.2.1 hd) (fun _ _ => ⟨rfl, eT, hc, hs⟩)
  dsimp only [Pt.U, Pt.locs, Pt.cells, Pt.slots] at X' hS2 hg2 l' y' z' st hQ
  subst l' y' z'
  exact (K T' v L (s.setVm T'.vm) (C.move hS2.1) X' ⟨T'.vm, T'.heap.size, rfl, foldS hS0 (by rw [eT]; exact hk0) hS2 hg2, Nat.le_refl _⟩ hQ).via fun t k => st.trans k
theorem Go.retVW {sC : State} (C : Cx p sC m meth c Z own nm bytes maxL ret) (X : Stand p l e R sC m args below meth c T locs cells slots) (Si : Sin s sC T.heap)  (hr : ret = none) (hd : decode bytes pc = .ok (.return_, 1))  (hq : Q none T.heap locs) (hc : cells ≤ RC) (hs : slots ≤ RS) : Go p e below (FnW s RC RS Q) T (mkF m pc Ls []) := by
  have hret := C.2.2.2.2.2.1
  have hlk := C.2.2.2.2.2.2.2
  rw [hr] at hret
  obtain ⟨vm0, k0, rfl, hS0, hk0⟩ := Si
  obtain ⟨fs, hl, hrun, hended, hW⟩ := X.leaveW hS0 hk0 (v := none) (fun h => by first | rfl | (rw [hret] at h; cases h)) hlk
  exact ⟨_, _, X.returnOut C.1 hret (hb C.2.2.2.1 hd) hl, hrun, hended, _, _, rfl, hq, hW.1, hW.2.1, hW.2.2.1, hW.2.2.2.mono hc hs⟩
theorem Go.retNW {sC : State} (C : Cx p sC m meth c Z own nm bytes maxL ret) (X : Stand p l e R sC m args below meth c T locs cells slots) (Si : Sin s sC T.heap) {t : FieldType} {z : Int32} (hr : ret = some t) (hd : decode bytes pc = .ok (.ireturn, 1)) (ht : t = .boolean ∨ t = .byte ∨ t = .char ∨ t = .short) (hq : Q (some (.int (nar t z))) T.heap locs) (hc : cells ≤ RC) (hs : slots ≤ RS) : Go p e below (FnW s RC RS Q) T (mkF m pc Ls (.int z :: S)) := by
  have hret := C.2.2.2.2.2.1
  have hlk := C.2.2.2.2.2.2.2
  rw [hr] at hret
  obtain ⟨vm0, k0, rfl, hS0, hk0⟩ := Si
  obtain ⟨fs, hl, hrun, hended, hW⟩ := X.leaveW hS0 hk0 (v := (some (.int (nar t z)))) (fun h => by first | rfl | (rw [hret] at h; cases h)) hlk
  exact ⟨_, _, Jvm.RoadKit.retN X C.1 hret ht (hb C.2.2.2.1 hd) hl, hrun, hended, _, _, rfl, hq, hW.1, hW.2.1, hW.2.2.1, hW.2.2.2.mono hc hs⟩
theorem Go.retIW {sC : State} (C : Cx p sC m meth c Z own nm bytes maxL ret) (X : Stand p l e R sC m args below meth c T locs cells slots) (Si : Sin s sC T.heap) {z : Int32} (hr : ret = some .int) (hd : decode bytes pc = .ok (.ireturn, 1))  (hq : Q (some (.int z)) T.heap locs) (hc : cells ≤ RC) (hs : slots ≤ RS) : Go p e below (FnW s RC RS Q) T (mkF m pc Ls (.int z :: S)) := by
  have hret := C.2.2.2.2.2.1
  have hlk := C.2.2.2.2.2.2.2
  rw [hr] at hret
  obtain ⟨vm0, k0, rfl, hS0, hk0⟩ := Si
  obtain ⟨fs, hl, hrun, hended, hW⟩ := X.leaveW hS0 hk0 (v := (some (.int z))) (fun h => by first | rfl | (rw [hret] at h; cases h)) hlk
  exact ⟨_, _, retOut X C.1 hret rfl (Or.inl ⟨rfl, Or.inl rfl, z, rfl⟩) (hb C.2.2.2.1 hd) hl, hrun, hended, _, _, rfl, hq, hW.1, hW.2.1, hW.2.2.1, hW.2.2.2.mono hc hs⟩
theorem Go.retAW {sC : State} (C : Cx p sC m meth c Z own nm bytes maxL ret) (X : Stand p l e R sC m args below meth c T locs cells slots) (Si : Sin s sC T.heap) {t : FieldType} {v : Value} (hr : ret = some t) (hd : decode bytes pc = .ok (.areturn, 1)) (ht : t.isReference = true) (hv : v.isRef = true) (hn : narrow t v = v) (hq : Q (some v) T.heap locs) (hc : cells ≤ RC) (hs : slots ≤ RS) : Go p e below (FnW s RC RS Q) T (mkF m pc Ls (v :: S)) := by
  have hret := C.2.2.2.2.2.1
  have hlk := C.2.2.2.2.2.2.2
  rw [hr] at hret
  obtain ⟨vm0, k0, rfl, hS0, hk0⟩ := Si
  obtain ⟨fs, hl, hrun, hended, hW⟩ := X.leaveW hS0 hk0 (v := (some v)) (fun h => by first | rfl | (rw [hret] at h; cases h)) hlk
  exact ⟨_, _, retOut X C.1 hret hn (Or.inr (Or.inr (Or.inr (Or.inr ⟨rfl, ht, hv⟩)))) (hb C.2.2.2.1 hd) hl, hrun, hended, _, _, rfl, hq, hW.1, hW.2.1, hW.2.2.1, hW.2.2.2.mono hc hs⟩
end OwnW
end Jvm.RoadKit
namespace Jvm.RoadKit
open Sem ClassFile Op Lib Bundle Jvm.Stand Jvm.Free Jvm.LawKit
section OwnH
variable {p : Program} {l : Launch} {e : Env} {R : Room} {s : State} {m : MethodId} {args : Array Value} {below : List Frame} {meth : Method} {c : Code} {T : State} {locs : List Loc} {cells slots : Nat} {Z : State} {a0 : Array Value} {h : Heap}
variable {RC RS : Nat} {Q : Option Value → Heap → List Loc → Prop} {Fin' : Outcome → State → Prop} {own nm : String} {bytes : ByteArray} {maxL : Nat} {ret : Option FieldType} {pc pc' : Nat} {Ls Ls' : Array Slot} {S : List Value} {EL : List (String × Nat)} {sf : List Addr}
def FnH (Z : State) (EL : List (String × Nat)) (s : State) (h0 : Heap) (RC RS : Nat) (Q : Option Value → Heap → List Loc → Prop) (o : Outcome) (t : State) : Prop := ∃ v L, o = .returned v ∧ Q v t.heap L ∧ CHr Z EL s.vm h0 t.vm t.heap ∧ ReturnedEndW s o t L RC RS
def Met1H (EL : List (String × Nat)) (sf : List Addr) (l : Launch) (Z : State) (y : MethodName) (bytes : ByteArray) (maxL : Nat) (ret : Option FieldType) (rm : Room) (as' : Array Value) (h0 : Heap) (Q : Option Value → Heap → List Loc → Prop) : Prop :=
  ∀ ws : List Jvm.Cond, MetFree l y (head1 (Jvm.Cond.code y bytes maxL ret :: ws) rm) (fun a U => a = as' ∧ Z.Warmed39 U.vm ∧ U.heap = h0 ∧ CHv Z EL U.vm h0 ∧ ∀ x ∈ sf, Safe Z EL U.vm h0 x) (fun _ _ _ _ _ => True) (fun _ U o U' => ∃ v L, o = .returned v ∧ Q v U'.heap L ∧ CHr Z EL U.vm U.heap U'.vm U'.heap ∧ ReturnedEndW U o U' L rm.cells rm.slots)
theorem Met1H.of_body {y : MethodName} {rm : Room} {as' : Array Value} {h0 : Heap} (hp : plainFor y = true) (ef : ∀ m, entryFrame m as' maxL = mkF m 0 Ls [])
    (body : ∀ {p : Program} {e : Env} {s : State} {m : MethodId} {below : List Frame} {meth : Method} {c : Code} {T : State}, Cx p s m meth c Z y.cls y.name bytes maxL ret → Stand p l e rm s m as' below meth c T [] 0 0 → T.heap = h0 → CHv Z EL s.vm h0 → (∀ x ∈ sf, Safe Z EL s.vm h0 x) → Go p e below (FnH Z EL s h0 rm.cells rm.slots Q) T (mkF m 0 Ls [])) :
    Met1H EL sf l Z y bytes maxL ret rm as' h0 Q := by
  intro ws
  refine MetFree.of_bodySF hp hisR ?_
  intro p e s m args below meth c s₁ Bd hml0 hP hK
  obtain ⟨rfl, hZ, hh, hH, hS⟩ := hP
  have X0 : Stand p l e rm s m args below meth c s₁ [] 0 0 := Stand.of_body Bd
  have hlk : meth.locks = false := BodyLoose.notSynchronized Bd
  obtain ⟨s₂, o, st, r1, r2, v, L, r3, r4, r5, r6⟩ := body (p := p) (e := e) (s := s) (m := m) (below := below) (meth := meth) (c := c) (T := s₁) ⟨Bd.exec, hZ, findClass_of_methodNamed Bd.named, Bd.bytes, hml0, Bd.returns, (name_of_methodNamed Bd.named Bd.method).1, hlk⟩ X0 (by rw [← hh, Bd.state]; rfl) hH hS
  exact ⟨s₂, o, castTop (ef m) st, r1, r2, v, L, r3, r4, by rw [hh]; exact r5, r6⟩
theorem Safe.al {x : Addr} {k : ClassId} {ty : FieldType} {vs : List Value} {vm : Vm} (hal : Z.vm.Alike vm) (A : AL Z h x k ty vs) (ht : ty ≠ .byte) : Safe Z EL vm h x := by obtain ⟨c, A, -⟩ := A; exact Safe.arr hal A ht
theorem backOfH {y : MethodName} {rm : Room} {len W : Nat} {as' : Array Value} {vm0 : Vm} (hM : Met1H EL sf l Z y bytes maxL ret rm as' h Q)
    (hZ : Z.Warmed39 vm0) (wc : (Cond.code y bytes maxL ret).before a0 Z = true) (wz : (Cond.initialized y.cls).before a0 Z = true) (hf : rm.frames + 1 ≤ R.frames) (hl : W + (maxL + 11) + rm.locals ≤ R.locals) (hEL : EW Z a0 EL) (H : CHv Z EL vm0 h) (hsf : ∀ x ∈ sf, x < h.size ∧ Safe Z EL vm0 h x) :
    BackS l R p e below (s.setVm vm0) args y len W (fun A a => a = as' ∧ A.U.heap = h ∧ A.cells + rm.cells ≤ R.cells ∧ A.slots + rm.slots ≤ R.slots)
      (fun A _ v B => ∃ L, Q v B.U.heap L ∧ B.locs = A.locs ++ L ∧ B.cells = A.cells + rm.cells ∧ B.slots = A.slots + rm.slots ∧ CHr Z EL vm0 h B.U.vm B.U.heap) :=
  BackS.of_freeW (bytes := bytes) (maxL := maxL) (ret := ret) (E := fun _ first o t L k n => k = rm.cells ∧ n = rm.slots ∧ (∃ v, o = .returned v ∧ Q v t.heap L) ∧ CHr Z EL first.vm first.heap t.vm t.heap) (hM []) hf hl
    (fun m meth c A a Y hp => have hU : Z.Warmed39 A.U.vm := wtrans (s := s.setVm vm0) hZ Y.warmed
      ⟨by show (Cond.and _ .tt).before a A.U = true; rw [Cond.before_and, mv hU wc]; rfl, mv hU wc, mv hU wz, hp.2.2.1, hp.2.2.2⟩)
    (fun m meth c A a g mk Y hp => ⟨hp.1, wtrans (s := s.setVm vm0) hZ Y.warmed, hp.2.1, (CHv.at Y hZ hEL H).1, fun x hx => (CHv.at Y hZ hEL H).safe (hsf x hx).1 (hsf x hx).2⟩) (fun _ _ _ _ _ _ _ _ _ => trivial)
    (fun _ _ _ _ ⟨v, L, h1, h2, h3, h4⟩ => ⟨L, _, _, h4, rfl, rfl, ⟨v, h1, h2⟩, h3⟩)
    (fun m meth c A a g mk v t L k n Y hp _ _ ⟨e1, e2, ⟨v', e3, e4⟩, e5⟩ => by
      cases e3; subst e1 e2
      refine ⟨L, e4, rfl, rfl, rfl, (CHv.at Y hZ hEL H).trans ?_⟩
      rw [← hp.2.1]; exact e5)
theorem Go.ldcO {sC : State} (C : Cx p sC m meth c Z own nm bytes maxL ret) (X : Stand p l e R sC m args below meth c T locs cells slots) (Si : Sin s sC h) (hEL : EW Z a0 EL) (H : CHv Z EL sC.vm h) {idx n : Nat} {text : String} (w : (Cond.stringLink own idx text).before a0 Z = true) (wS : ∀ a ∈ Bundle.stringAtoms, a.before a0 Z = true) (eT : T.heap = h)  (hn : 4 * text.toList.length ≤ n) (hbig : n ≤ 536870912) (hc : cells + 2 ≤ R.cells) (hl : slots + (n + 4) ≤ R.slots) (hd : decode bytes pc = .ok (.ldc idx, 2)) (hp : pc + 2 = pc')
    (K : ∀ T' h' a sC', Cx p sC' m meth c Z own nm bytes maxL ret → Stand p l e R sC' m args below meth c T' locs (cells + 2) (slots + (n + 4)) → T'.heap = h' → Sin s sC' h' → Ext h h' → CHr Z EL sC.vm h sC'.vm h' → Go p e below Fin' T' (mkF m pc' Ls (.ref a :: S))) : Go p e below Fin' T (mkF m pc Ls S) := by
  subst hp
  obtain ⟨vm0, k0, rfl, hS, hk⟩ := Si
  obtain ⟨a, T', h', k1, X', e', E', hS', hk', hW', hf', hR, -, st⟩ := Jvm.RoadKit.ldcOH X C.1 C.2.1 C.2.2.1 w wS eT hS hk hEL H (g := mkF m pc Ls S) rfl (hb C.2.2.2.1 hd) hn hbig hc hl
  exact (K T' h' a (s.setVm T'.vm) ⟨C.1, hW', hf', C.2.2.2⟩ X' e' ⟨T'.vm, k1, rfl, hS', hk'⟩ E' hR).via st
theorem Go.ldcH {sC : State} (C : Cx p sC m meth c Z own nm bytes maxL ret) (X : Stand p l e R sC m args below meth c T locs cells slots) (Si : Sin s sC h) (hEL : EW Z a0 EL) (H : CHv Z EL sC.vm h) {idx n : Nat} {text : String} {vs : List Value} {z : Int32} (w : (Cond.stringLink own idx text).before a0 Z = true) (wS : ∀ a ∈ Bundle.stringAtoms, a.before a0 Z = true) (eT : T.heap = h) (hmem : (own, idx) ∈ EL) (ht : (∀ c ∈ text.toList, c.toNat < 256) ∧ text.toList.map (fun c => Value.int (Jvm.Lit.byteI c.toNat.toUInt16)) = vs) (hz : ¬ z < 0) (hzl : z.toNatClampNeg = vs.length) (hn : 4 * text.toList.length ≤ n) (hbig : n ≤ 536870912) (hc : cells + 2 ≤ R.cells) (hl : slots + (n + 4) ≤ R.slots) (hd : decode bytes pc = .ok (.ldc idx, 2)) (hp : pc + 2 = pc')
    (K : ∀ T' h' a sC' b k, Cx p sC' m meth c Z own nm bytes maxL ret → Stand p l e R sC' m args below meth c T' locs (cells + 2) (slots + (n + 4)) → T'.heap = h' → Sin s sC' h' → Ext h h' → CHr Z EL sC.vm h sC'.vm h' → Exa Z h' a "java/lang/String" → Fld Z h' a "java/lang/String" "coder" "B" (.int 0) → Fld Z h' a "java/lang/String" "value" "[B" (.ref b) → AL Z h' b k .byte vs → (∀ x, Safe Z EL sC'.vm h' x → x ≠ a ∧ x ≠ b) → Go p e below Fin' T' (mkF m pc' Ls (.ref a :: S))) : Go p e below Fin' T (mkF m pc Ls S) := by
  subst hp
  obtain ⟨vm0, k0, rfl, hS, hk⟩ := Si
  obtain ⟨a, T', h', k1, b, k, X', e', E', hS', hk', hW', hf', p1, p2, p3, p4, -, -, hR, -, hne, st⟩ := Jvm.RoadKit.ldcCH X C.1 C.2.1 C.2.2.1 w wS eT hS hk hEL hmem H ht hz hzl (g := mkF m pc Ls S) rfl (hb C.2.2.2.1 hd) hn hbig hc hl
  exact (K T' h' a (s.setVm T'.vm) b k ⟨C.1, hW', hf', C.2.2.2⟩ X' e' ⟨T'.vm, k1, rfl, hS', hk'⟩ E' hR p1 p2 p3 (AL.of_arv p4 hzl) hne).via st
theorem Go.callSH {sC : State} (C : Cx p sC m meth c Z own nm bytes maxL ret) (X : Stand p l e R sC m args below meth c T locs cells slots) (Si : Sin s sC h) (hEL : EW Z a0 EL) (H : CHv Z EL sC.vm h) {idx : Nat} {y : MethodName} {bytes' : ByteArray} {maxL' : Nat} {ret' : Option FieldType} {rm : Room} {as' : Array Value} {Q' : Option Value → Heap → List Loc → Prop} {argsL rest : List Value} {ps : List FieldType} {r : Option FieldType} {W : Nat} (w1 : (Cond.methodLink own idx y).before a0 Z = true) (w2 : (Cond.static y).before a0 Z = true) (hy : y.cls ≠ "java/lang/invoke/MethodHandle" ∧ y.cls ≠ "java/lang/invoke/VarHandle") (hsf : ∀ x ∈ sf, x < h.size ∧ Safe Z EL sC.vm h x) (M : Met1H EL sf l Z y bytes' maxL' ret' rm as' h Q') (wc : (Cond.code y bytes' maxL' ret').before a0 Z = true) (wz : (Cond.initialized y.cls).before a0 Z = true) (eT : T.heap = h) (hS : S = argsL.reverse ++ rest) (has : (argsL).toArray = as') (pd : parseMethodDescriptor y.desc = some ⟨ps, r⟩) (hlen : argsL.length = ps.length) (hW : (rest.map fun v => v.category).sum ≤ W) (hls : Ls.size = maxL) (hf : rm.frames + 1 ≤ R.frames) (hlo : W + (maxL' + 11) + rm.locals ≤ R.locals) (hc : cells + rm.cells ≤ R.cells) (hs : slots + rm.slots ≤ R.slots) (hd : decode bytes pc = .ok (.invokestatic idx, 3)) (hp : pc + 3 = pc')
    (K : ∀ T' v L sC', Cx p sC' m meth c Z own nm bytes maxL ret → Stand p l e R sC' m args below meth c T' (locs ++ L) (cells + rm.cells) (slots + rm.slots) → Sin s sC' T'.heap → CHr Z EL sC.vm h sC'.vm T'.heap → Q' v T'.heap L → Go p e below Fin' T' (mkF m pc' Ls (v.toList ++ rest))) : Go p e below Fin' T (mkF m pc Ls S) := by
  subst hp
  subst hS has
  obtain ⟨vm0, k0, rfl, hS0, hk0⟩ := Si
  obtain ⟨v, _, ⟨T', L', k', n'⟩, -, X', hS2, hg2, ⟨L, hQ, l', y', z', hR⟩, st⟩ := Jvm.RoadKit.callSS X C.1 (y := y) C.2.2.1 (mvT C.2.1 w1) (mvT C.2.1 w2) (mvT C.2.1 wz) (mvT C.2.1 wc) hy (backOfH (s := s) (vm0 := vm0) (W := W) M C.2.1 wc wz hf hlo hEL H hsf) (g := mkF m pc Ls (argsL.reverse ++ rest)) rfl (by show Ls.size = _; rw [C.2.2.2.2.1]; exact hls) (argsL := argsL) (rest := rest) (lenOf pd hlen) rfl (by show 2 * 0 + _ ≤ _; omega) (hb C.2.2.2.1 hd) (fun _ _ => ⟨rfl, eT, hc, hs⟩)
  dsimp only [Pt.U, Pt.locs, Pt.cells, Pt.slots] at X' hS2 hg2 l' y' z' st hQ hR
  subst l' y' z'
  exact (K T' v L (s.setVm T'.vm) (C.move hS2.1) X' ⟨T'.vm, T'.heap.size, rfl, foldS hS0 (by rw [eT]; exact hk0) hS2 hg2, Nat.le_refl _⟩ hR hQ).via fun t k => st.trans k
theorem Go.callIH {sC : State} (C : Cx p sC m meth c Z own nm bytes maxL ret) (X : Stand p l e R sC m args below meth c T locs cells slots) (Si : Sin s sC h) (hEL : EW Z a0 EL) (H : CHv Z EL sC.vm h) {idx : Nat} {y : MethodName} {a : Addr} {bytes' : ByteArray} {maxL' : Nat} {ret' : Option FieldType} {rm : Room} {as' : Array Value} {Q' : Option Value → Heap → List Loc → Prop} {argsL rest : List Value} {ps : List FieldType} {r : Option FieldType} {W : Nat} (hini : y.name = "<init>") (w1 : (Cond.methodLink own idx y).before a0 Z = true) (w2 : (Cond.instanceMethod y).before a0 Z = true) (hy : y.cls ≠ "java/lang/invoke/MethodHandle" ∧ y.cls ≠ "java/lang/invoke/VarHandle") (hsf : ∀ x ∈ sf, x < h.size ∧ Safe Z EL sC.vm h x) (M : Met1H EL sf l Z y bytes' maxL' ret' rm as' h Q') (wc : (Cond.code y bytes' maxL' ret').before a0 Z = true) (wz : (Cond.initialized y.cls).before a0 Z = true) (eT : T.heap = h) (hS : S = argsL.reverse ++ .ref a :: rest) (has : (.ref a :: argsL).toArray = as') (pd : parseMethodDescriptor y.desc = some ⟨ps, r⟩) (hlen : argsL.length = ps.length) (hW : (rest.map fun v => v.category).sum ≤ W) (hls : Ls.size = maxL) (hf : rm.frames + 1 ≤ R.frames) (hlo : W + (maxL' + 11) + rm.locals ≤ R.locals) (hc : cells + rm.cells ≤ R.cells) (hs : slots + rm.slots ≤ R.slots) (hr0 : ret' = none) (hd : decode bytes pc = .ok (.invokespecial idx, 3)) (hp : pc + 3 = pc')
    (K : ∀ T' v L sC', Cx p sC' m meth c Z own nm bytes maxL ret → Stand p l e R sC' m args below meth c T' (locs ++ L) (cells + rm.cells) (slots + rm.slots) → Sin s sC' T'.heap → CHr Z EL sC.vm h sC'.vm T'.heap → Q' v T'.heap L → Go p e below Fin' T' (mkF m pc' Ls (v.toList ++ rest))) : Go p e below Fin' T (mkF m pc Ls S) := by
  subst hp
  subst hr0
  subst hS has
  obtain ⟨vm0, k0, rfl, hS0, hk0⟩ := Si
  obtain ⟨v, _, ⟨T', L', k', n'⟩, -, X', hS2, hg2, ⟨L, hQ, l', y', z', hR⟩, st⟩ := X.specialBackS C.1 (y := y) hini C.2.2.1 (mvT C.2.1 w1) (mvT C.2.1 w2) (mvT C.2.1 wc) hy (backOfH (s := s) (vm0 := vm0) (W := W) M C.2.1 wc wz hf hlo hEL H hsf) (g := mkF m pc Ls (argsL.reverse ++ .ref a :: rest)) rfl (by show Ls.size = _; rw [C.2.2.2.2.1]; exact hls) (Steps.refl _) (a := a) (argsL := argsL) (rest := rest) (lenOf pd hlen) rfl (by show 2 * 0 + _ ≤ _; omega) (hb C.2.2.2.1 hd) (fun _ _ => ⟨rfl, eT, hc, hs⟩)
  dsimp only [Pt.U, Pt.locs, Pt.cells, Pt.slots] at X' hS2 hg2 l' y' z' st hQ hR
  subst l' y' z'
  exact (K T' v L (s.setVm T'.vm) (C.move hS2.1) X' ⟨T'.vm, T'.heap.size, rfl, foldS hS0 (by rw [eT]; exact hk0) hS2 hg2, Nat.le_refl _⟩ hR hQ).via fun t k => st.trans k
theorem Go.callVH {sC : State} (C : Cx p sC m meth c Z own nm bytes maxL ret) (X : Stand p l e R sC m args below meth c T locs cells slots) (Si : Sin s sC h) (hEL : EW Z a0 EL) (H : CHv Z EL sC.vm h) {idx : Nat} {y z : MethodName} {a : Addr} {K1 : String} {bytes' : ByteArray} {maxL' : Nat} {ret' : Option FieldType} {rm : Room} {as' : Array Value} {Q' : Option Value → Heap → List Loc → Prop} {argsL rest : List Value} {ps : List FieldType} {r : Option FieldType} {W : Nat} (w1 : (Cond.methodLink own idx y).before a0 Z = true) (w2 : (Cond.declares y).before a0 Z = true) (hnf : NotFace sC y) (w3 : (Cond.selects K1 y z).before a0 Z = true) (w4 : (Cond.instanceMethod z).before a0 Z = true) (E : Exa Z h a K1) (hy : y.cls ≠ "java/lang/invoke/MethodHandle" ∧ y.cls ≠ "java/lang/invoke/VarHandle") (hsf : ∀ x ∈ sf, x < h.size ∧ Safe Z EL sC.vm h x) (M : Met1H EL sf l Z z bytes' maxL' ret' rm as' h Q') (wc : (Cond.code z bytes' maxL' ret').before a0 Z = true) (wz : (Cond.initialized z.cls).before a0 Z = true) (eT : T.heap = h) (hS : S = argsL.reverse ++ .ref a :: rest) (has : (.ref a :: argsL).toArray = as') (pd : parseMethodDescriptor y.desc = some ⟨ps, r⟩) (hlen : argsL.length = ps.length) (hW : (rest.map fun v => v.category).sum ≤ W) (hls : Ls.size = maxL) (hf : rm.frames + 1 ≤ R.frames) (hlo : W + (maxL' + 11) + rm.locals ≤ R.locals) (hc : cells + rm.cells ≤ R.cells) (hs : slots + rm.slots ≤ R.slots) (hd : decode bytes pc = .ok (.invokevirtual idx, 3)) (hp : pc + 3 = pc')
    (K : ∀ T' v L sC', Cx p sC' m meth c Z own nm bytes maxL ret → Stand p l e R sC' m args below meth c T' (locs ++ L) (cells + rm.cells) (slots + rm.slots) → Sin s sC' T'.heap → CHr Z EL sC.vm h sC'.vm T'.heap → Q' v T'.heap L → Go p e below Fin' T' (mkF m pc' Ls (v.toList ++ rest))) : Go p e below Fin' T (mkF m pc Ls S) := by
  subst hp
  subst hS has
  obtain ⟨cq, kq, qa, qb, qc⟩ := isOf C.2.1 eT E
  obtain ⟨vm0, k0, rfl, hS0, hk0⟩ := Si
  obtain ⟨v, _, ⟨T', L', k', n'⟩, -, X', hS2, hg2, ⟨L, hQ, l', y', z', hR⟩, st⟩ := X.virtualBackS C.1 (y := y) (z := z) C.2.2.1 (mvT C.2.1 w1) (mvT C.2.1 w2) hnf (mvT C.2.1 w3) (mvT C.2.1 w4) hy (backOfH (s := s) (vm0 := vm0) (W := W) M C.2.1 wc wz hf hlo hEL H hsf) qa qc (g := mkF m pc Ls (argsL.reverse ++ .ref a :: rest)) rfl (by show Ls.size = _; rw [C.2.2.2.2.1]; exact hls) (Steps.refl _) (argsL := argsL) (rest := rest) (lenOf pd hlen) rfl (by show 2 * 0 + _ ≤ _; omega) (hb C.2.2.2.1 hd) (fun _ _ => ⟨rfl, eT, hc, hs⟩)
  dsimp only [Pt.U, Pt.locs, Pt.cells, Pt.slots] at X' hS2 hg2 l' y' z' st hQ hR
  subst l' y' z'
  exact (K T' v L (s.setVm T'.vm) (C.move hS2.1) X' ⟨T'.vm, T'.heap.size, rfl, foldS hS0 (by rw [eT]; exact hk0) hS2 hg2, Nat.le_refl _⟩ hR hQ).via fun t k => st.trans k
theorem Go.retVH {sC : State} (C : Cx p sC m meth c Z own nm bytes maxL ret) (X : Stand p l e R sC m args below meth c T locs cells slots) {h0 : Heap} (Si : Sin s sC T.heap) (hEL : EW Z a0 EL) (H : CHr Z EL s.vm h0 sC.vm T.heap)  (hr : ret = none) (hd : decode bytes pc = .ok (.return_, 1))  (hq : Q none T.heap locs) (hc : cells ≤ RC) (hs : slots ≤ RS) : Go p e below (FnH Z EL s h0 RC RS Q) T (mkF m pc Ls []) := by
  have hret := C.2.2.2.2.2.1
  have hlk := C.2.2.2.2.2.2.2
  rw [hr] at hret
  obtain ⟨vm0, k0, rfl, hS0, hk0⟩ := Si
  have hR := H.trans (CHv.at X C.2.1 hEL H.1)
  obtain ⟨fs, hl, hrun, hended, hW⟩ := X.leaveW hS0 hk0 (v := none) (fun h => by first | rfl | (rw [hret] at h; cases h)) hlk
  exact ⟨_, _, X.returnOut C.1 hret (hb C.2.2.2.1 hd) hl, hrun, hended, _, _, rfl, hq, hR, hW.1, hW.2.1, hW.2.2.1, hW.2.2.2.mono hc hs⟩
theorem Go.retNH {sC : State} (C : Cx p sC m meth c Z own nm bytes maxL ret) (X : Stand p l e R sC m args below meth c T locs cells slots) {h0 : Heap} (Si : Sin s sC T.heap) (hEL : EW Z a0 EL) (H : CHr Z EL s.vm h0 sC.vm T.heap) {t : FieldType} {z : Int32} (hr : ret = some t) (hd : decode bytes pc = .ok (.ireturn, 1)) (ht : t = .boolean ∨ t = .byte ∨ t = .char ∨ t = .short) (hq : Q (some (.int (nar t z))) T.heap locs) (hc : cells ≤ RC) (hs : slots ≤ RS) : Go p e below (FnH Z EL s h0 RC RS Q) T (mkF m pc Ls (.int z :: S)) := by
  have hret := C.2.2.2.2.2.1
  have hlk := C.2.2.2.2.2.2.2
  rw [hr] at hret
  obtain ⟨vm0, k0, rfl, hS0, hk0⟩ := Si
  have hR := H.trans (CHv.at X C.2.1 hEL H.1)
  obtain ⟨fs, hl, hrun, hended, hW⟩ := X.leaveW hS0 hk0 (v := (some (.int (nar t z)))) (fun h => by first | rfl | (rw [hret] at h; cases h)) hlk
  exact ⟨_, _, Jvm.RoadKit.retN X C.1 hret ht (hb C.2.2.2.1 hd) hl, hrun, hended, _, _, rfl, hq, hR, hW.1, hW.2.1, hW.2.2.1, hW.2.2.2.mono hc hs⟩
theorem Go.retIH {sC : State} (C : Cx p sC m meth c Z own nm bytes maxL ret) (X : Stand p l e R sC m args below meth c T locs cells slots) {h0 : Heap} (Si : Sin s sC T.heap) (hEL : EW Z a0 EL) (H : CHr Z EL s.vm h0 sC.vm T.heap) {z : Int32} (hr : ret = some .int) (hd : decode bytes pc = .ok (.ireturn, 1))  (hq : Q (some (.int z)) T.heap locs) (hc : cells ≤ RC) (hs : slots ≤ RS) : Go p e below (FnH Z EL s h0 RC RS Q) T (mkF m pc Ls (.int z :: S)) := by
  have hret := C.2.2.2.2.2.1
  have hlk := C.2.2.2.2.2.2.2
  rw [hr] at hret
  obtain ⟨vm0, k0, rfl, hS0, hk0⟩ := Si
  have hR := H.trans (CHv.at X C.2.1 hEL H.1)
  obtain ⟨fs, hl, hrun, hended, hW⟩ := X.leaveW hS0 hk0 (v := (some (.int z))) (fun h => by first | rfl | (rw [hret] at h; cases h)) hlk
  exact ⟨_, _, retOut X C.1 hret rfl (Or.inl ⟨rfl, Or.inl rfl, z, rfl⟩) (hb C.2.2.2.1 hd) hl, hrun, hended, _, _, rfl, hq, hR, hW.1, hW.2.1, hW.2.2.1, hW.2.2.2.mono hc hs⟩
theorem Go.retAH {sC : State} (C : Cx p sC m meth c Z own nm bytes maxL ret) (X : Stand p l e R sC m args below meth c T locs cells slots) {h0 : Heap} (Si : Sin s sC T.heap) (hEL : EW Z a0 EL) (H : CHr Z EL s.vm h0 sC.vm T.heap) {t : FieldType} {v : Value} (hr : ret = some t) (hd : decode bytes pc = .ok (.areturn, 1)) (ht : t.isReference = true) (hv : v.isRef = true) (hn : narrow t v = v) (hq : Q (some v) T.heap locs) (hc : cells ≤ RC) (hs : slots ≤ RS) : Go p e below (FnH Z EL s h0 RC RS Q) T (mkF m pc Ls (v :: S)) := by
  have hret := C.2.2.2.2.2.1
  have hlk := C.2.2.2.2.2.2.2
  rw [hr] at hret
  obtain ⟨vm0, k0, rfl, hS0, hk0⟩ := Si
  have hR := H.trans (CHv.at X C.2.1 hEL H.1)
  obtain ⟨fs, hl, hrun, hended, hW⟩ := X.leaveW hS0 hk0 (v := (some v)) (fun h => by first | rfl | (rw [hret] at h; cases h)) hlk
  exact ⟨_, _, retOut X C.1 hret hn (Or.inr (Or.inr (Or.inr (Or.inr ⟨rfl, ht, hv⟩)))) (hb C.2.2.2.1 hd) hl, hrun, hended, _, _, rfl, hq, hR, hW.1, hW.2.1, hW.2.2.1, hW.2.2.2.mono hc hs⟩
end OwnH
end Jvm.RoadKit
namespace Jvm.Pilot.@@N@@
open Jvm Jvm.ClassFile Sem Op Lib Jvm.Free Jvm.Stand Jvm.LawKit Jvm.RoadKit Bundle Jvm.Pilot.@@N@@.Jvm.D
theorem tw {a0 : Array Value} {Z : State} (hw : ∀ d ∈ tables_1, d.before a0 Z = true) (i : Nat) {d : Cond} (h : tables_1[i]? = some d) : d.before a0 Z = true := hw d (List.mem_of_getElem? h)
theorem n32_int {n : Nat} (h : n < 2 ^ 31) : n.toInt32.toInt = n := len_toInt h
theorem n32_nat {n : Nat} (h : n < 2 ^ 31) : n.toInt32.toNatClampNeg = n := by simp only [Int32.toNatClampNeg, len_toInt h]; omega
theorem n32_neg {n : Nat} (h : n < 2 ^ 31) : ¬ n.toInt32 < 0 := by simp only [Int32.lt_iff_toInt_lt, len_toInt h, Int32.reduceToInt]; omega
theorem n32_lt {n k : Nat} (hn : n < 2 ^ 31) (hk : k < 2 ^ 31) : n.toInt32 < k.toInt32 ↔ n < k := by rw [Int32.lt_iff_toInt_lt, len_toInt hn, len_toInt hk]; omega
theorem n32_succ (n : Nat) : n.toInt32 + (1 : Int32) = (n + 1).toInt32 := (Int32.ofNat_add n 1).symm
theorem n32_eq {n k : Nat} (hn : n < 2 ^ 31) (hk : k < 2 ^ 31) : n.toInt32 = k.toInt32 ↔ n = k := by rw [← Int32.toInt_inj, len_toInt hn, len_toInt hk]; omega
theorem nar_byte8 (x : Int32) : nar .byte x.toInt8.toInt32 = x.toInt8.toInt32 := by simp [nar]
def by8 (cs : List Int32) : List Value := cs.map fun c => Value.int c.toInt8.toInt32
def ch16 (cs : List Int32) : List Value := cs.map Value.int
theorem by8_len (cs : List Int32) : (by8 cs).length = cs.length := by simp [by8]
theorem ch16_len (cs : List Int32) : (ch16 cs).length = cs.length := by simp [ch16]

theorem d6_0 : decode jdk_52_method_21_code 0 = .ok (.iconst 0, 1) := by decide +kernel
theorem d6_1 : decode jdk_52_method_21_code 1 = .ok (.istore 5, 2) := by decide +kernel
theorem d6_3 : decode jdk_52_method_21_code 3 = .ok (.iload 5, 2) := by decide +kernel
theorem d6_5 : decode jdk_52_method_21_code 5 = .ok (.iload 4, 2) := by decide +kernel
theorem d6_7 : decode jdk_52_method_21_code 7 = .ok (.if_icmp .ge 37, 3) := by decide +kernel
theorem d6_10 : decode jdk_52_method_21_code 10 = .ok (.aload_n 0, 1) := by decide +kernel
theorem d6_11 : decode jdk_52_method_21_code 11 = .ok (.iload_n 1, 1) := by decide +kernel
theorem d6_12 : decode jdk_52_method_21_code 12 = .ok (.caload, 1) := by decide +kernel
theorem d6_13 : decode jdk_52_method_21_code 13 = .ok (.istore 6, 2) := by decide +kernel
theorem d6_15 : decode jdk_52_method_21_code 15 = .ok (.iload 6, 2) := by decide +kernel
theorem d6_17 : decode jdk_52_method_21_code 17 = .ok (.sipush 255, 3) := by decide +kernel
theorem d6_20 : decode jdk_52_method_21_code 20 = .ok (.if_icmp .le 6, 3) := by decide +kernel
theorem d6_23 : decode jdk_52_method_21_code 23 = .ok (.iload 5, 2) := by decide +kernel
theorem d6_25 : decode jdk_52_method_21_code 25 = .ok (.ireturn, 1) := by decide +kernel
theorem d6_26 : decode jdk_52_method_21_code 26 = .ok (.aload_n 2, 1) := by decide +kernel
theorem d6_27 : decode jdk_52_method_21_code 27 = .ok (.iload_n 3, 1) := by decide +kernel
theorem d6_28 : decode jdk_52_method_21_code 28 = .ok (.iload 6, 2) := by decide +kernel
theorem d6_30 : decode jdk_52_method_21_code 30 = .ok (.i2b, 1) := by decide +kernel
theorem d6_31 : decode jdk_52_method_21_code 31 = .ok (.bastore, 1) := by decide +kernel
theorem d6_32 : decode jdk_52_method_21_code 32 = .ok (.iinc 1 1, 3) := by decide +kernel
theorem d6_35 : decode jdk_52_method_21_code 35 = .ok (.iinc 3 1, 3) := by decide +kernel
theorem d6_38 : decode jdk_52_method_21_code 38 = .ok (.iinc 5 1, 3) := by decide +kernel
theorem d6_41 : decode jdk_52_method_21_code 41 = .ok (.goto (-38), 3) := by decide +kernel
theorem d6_44 : decode jdk_52_method_21_code 44 = .ok (.iload 4, 2) := by decide +kernel
theorem d6_46 : decode jdk_52_method_21_code 46 = .ok (.ireturn, 1) := by decide +kernel
set_option maxRecDepth 65536 in
set_option maxHeartbeats 40000000 in
theorem lp_compress {p : Program} {l : Launch} {e : Env} {R : Room} {s : State} {m : MethodId} {args : Array Value} {below : List Frame} {meth : Method} {c : Code} {Z : State} {Fin' : Outcome → State → Prop} {a b : Addr} {ka kb : ClassId} {cs : List Int32} (C : Cx p s m meth c Z "java/lang/StringUTF16" "compress" jdk_52_method_21_code 7 (some .int)) (hcs : ∀ x ∈ cs, 0 ≤ x.toInt ∧ x.toInt ≤ 255) (hl : cs.length < 2 ^ 31) (hne : a ≠ b) (hnb : Z.heap.size ≤ b) :
    ∀ (k n : Nat) (T : State) (locs : List Loc) (cells slots : Nat) (h : Heap) (s6 : Slot), n + k = cs.length → One s6 → Stand p l e R s m args below meth c T locs cells slots → T.heap = h → AL Z h a ka .char (ch16 cs) → AL Z h b kb .byte (by8 (cs.take n) ++ List.replicate k (.int 0)) → Fr Z.heap.size locs →
      (∀ (T' : State) (locs' : List Loc) (h' : Heap) (s6' : Slot), Stand p l e R s m args below meth c T' locs' cells slots → T'.heap = h' → Keep h h' [b] → AL Z h' b kb .byte (by8 cs) → Fr Z.heap.size locs' → Go p e below Fin' T' (mkF m 44 #[.val (.ref a), .val (.int cs.length.toInt32), .val (.ref b), .val (.int cs.length.toInt32), .val (.int cs.length.toInt32), .val (.int cs.length.toInt32), s6'] [])) →
      Go p e below Fin' T (mkF m 3 #[.val (.ref a), .val (.int n.toInt32), .val (.ref b), .val (.int n.toInt32), .val (.int cs.length.toInt32), .val (.int n.toInt32), s6] []) := by
  intro k
  induction k with
  | zero =>
    intro n T locs cells slots h s6 hn h6 X e0 A B N K
    have hn' : n = cs.length := by omega
    subst hn'
    refine Go.iload (pc' := 5) C X d6_3 rfl rfl ?_
    refine Go.iload (pc' := 7) C X d6_5 rfl rfl ?_
    refine Go.icmpYes (pc' := 44) C X d6_7 (flt (x := cs.length.toInt32) (y := cs.length.toInt32) (fun q => absurd ((n32_lt hl hl).mp q) (Nat.lt_irrefl _))).2.1 (by decide) (by decide) ?_
    exact K T locs h s6 X e0 (Keep.refl _ _) (by simpa using B) N
  | succ k ih =>
    intro n T locs cells slots h s6 hn h6 X e0 A B N K
    have hlt : n < cs.length := by omega
    have hn31 : n < 2 ^ 31 := by omega
    obtain ⟨x, hx⟩ : ∃ x, x = cs[n] := ⟨_, rfl⟩
    have hxm : x ∈ cs := hx ▸ List.getElem_mem hlt
    have hb := hcs x hxm
    have hget : (ch16 cs)[n]? = some (.int x) := by simp [ch16, hx, hlt]
    refine Go.iload (pc' := 5) C X d6_3 rfl rfl ?_
    refine Go.iload (pc' := 7) C X d6_5 rfl rfl ?_
    refine Go.icmpNo (pc' := 10) C X d6_7 (tlt (x := n.toInt32) (y := cs.length.toInt32) ((n32_lt hn31 hl).mpr hlt)).2.1 rfl ?_
    refine Go.aloadN (pc' := 11) C X d6_10 rfl rfl rfl ?_
    refine Go.iloadN (pc' := 12) C X d6_11 rfl rfl ?_
    refine Go.ldC (i := n) (v := .int x) (pc' := 13) C X e0 A (n32_neg hn31) (n32_nat hn31) hget d6_12 rfl ?_
    refine Go.istore (Ls' := #[.val (.ref a), .val (.int n.toInt32), .val (.ref b), .val (.int n.toInt32), .val (.int cs.length.toInt32), .val (.int n.toInt32), .val (.int x)]) (pc' := 15) C X d6_13 (XS.store1 (o := s6) rfl h6 rfl) rfl ?_
    refine Go.iload (pc' := 17) C X d6_15 rfl rfl ?_
    refine Go.sipush (z := (255 : Int32)) (pc' := 20) C X d6_17 rfl rfl ?_
    refine Go.icmpYes (pc' := 26) C X d6_20 (flt (x := (255 : Int32)) (y := x) (fun q => absurd (Int32.lt_iff_toInt_lt.mp q) (by simp only [Int32.reduceToInt]; omega))).2.2.2 (by decide) (by decide) ?_
    refine Go.aloadN (pc' := 27) C X d6_26 rfl rfl rfl ?_
    refine Go.iloadN (pc' := 28) C X d6_27 rfl rfl ?_
    refine Go.iload (pc' := 30) C X d6_28 rfl rfl ?_
    refine Go.i2b (pc' := 31) C X d6_30 rfl ?_
    refine Go.stB (i := n) (x' := x.toInt8.toInt32) (vs' := by8 (cs.take (n + 1)) ++ List.replicate k (.int 0)) (pc' := 32) C X e0 B (n32_neg hn31) (n32_nat hn31) (by simp [by8]; omega) (nar_byte8 x) ?_ d6_31 rfl ?_
    · rw [List.take_add_one, List.getElem?_eq_getElem hlt, ← hx]
      simp only [by8, List.map_append, Option.toList, List.map_cons, List.map_nil, List.replicate_succ, List.append_assoc, List.cons_append, List.nil_append]
      rw [List.set_append_right _ _ (by simp; omega)]
      simp [Nat.min_eq_left (Nat.le_of_lt hlt)]
    · intro T1 h1 X1 e1 W1 B1
      have N1 := Fr.snoc X1 N hnb
      refine Go.iinc (Ls' := #[.val (.ref a), .val (.int (n + 1).toInt32), .val (.ref b), .val (.int n.toInt32), .val (.int cs.length.toInt32), .val (.int n.toInt32), .val (.int x)]) (z := (1 : Int32)) (pc' := 35) C X1 d6_32 rfl rfl (by rw [n32_succ]; rfl) rfl ?_
      refine Go.iinc (Ls' := #[.val (.ref a), .val (.int (n + 1).toInt32), .val (.ref b), .val (.int (n + 1).toInt32), .val (.int cs.length.toInt32), .val (.int n.toInt32), .val (.int x)]) (z := (1 : Int32)) (pc' := 38) C X1 d6_35 rfl rfl (by rw [n32_succ]; rfl) rfl ?_
      refine Go.iinc (Ls' := #[.val (.ref a), .val (.int (n + 1).toInt32), .val (.ref b), .val (.int (n + 1).toInt32), .val (.int cs.length.toInt32), .val (.int (n + 1).toInt32), .val (.int x)]) (z := (1 : Int32)) (pc' := 41) C X1 d6_38 rfl rfl (by rw [n32_succ]; rfl) rfl ?_
      refine Go.goto (pc' := 3) C X1 d6_41 (by decide) (by decide) ?_
      refine ih (n + 1) T1 _ cells slots h1 (.val (.int x)) (by omega) (One.val rfl) X1 e1 (AL.other W1 A hne) B1 N1 ?_
      intro T' locs' h' s6' X' e' K' B' N'
      exact K T' locs' h' s6' X' e' (((Keep.refl h [b]).wr W1 (Or.inl (by simp))).trans K' (allS (Or.inl (by simp)) all0)) B' N'
theorem pf_6 : plainFor (⟨"java/lang/StringUTF16", "compress", "([CI[BII)I"⟩ : MethodName) = true := plainFor_of_name (by first | (simp [plainName, overriddenIn]; done) | decide +kernel)
def Q_cmpI (Z : State) (a : Addr) (b : Addr) (ka : ClassId) (kb : ClassId) (cs : List Int32) (h0 : Heap) (rv : Option Value) (h : Heap) (L : List Loc) : Prop := rv = some (.int cs.length.toInt32) ∧ Fr Z.heap.size L ∧ Keep h0 h [b] ∧ AL Z h b kb .byte (by8 cs)
set_option maxRecDepth 65536 in
set_option maxHeartbeats 40000000 in
theorem rm_cmpI (l : Launch) (Z : State) (a0 : Array Value) (hw : ∀ d ∈ tables_1, d.before a0 Z = true) (a : Addr) (b : Addr) (ka : ClassId) (kb : ClassId) (cs : List Int32) (h0 : Heap) (O0 : Ext Z.heap h0) (A0 : AL Z h0 a ka .char (ch16 cs)) (B0 : AL Z h0 b kb .byte (List.replicate cs.length (.int 0))) (hcs : ∀ x ∈ cs, 0 ≤ x.toInt ∧ x.toInt ≤ 255) (hl : cs.length < 2 ^ 31) (hne : a ≠ b) (hnb : Z.heap.size ≤ b) :
    Met1 l Z (⟨"java/lang/StringUTF16", "compress", "([CI[BII)I"⟩ : MethodName) jdk_52_method_21_code 7 (some .int) ({ frames := 0, cells := 0, slots := 0, locals := 0 } : Room) #[(.ref a), (.int (0 : Int32)), (.ref b), (.int (0 : Int32)), (.int cs.length.toInt32)] h0 (Q_cmpI Z a b ka kb cs h0) := by
  refine Met1.of_body (Ls := #[.val (.ref a), .val (.int (0 : Int32)), .val (.ref b), .val (.int (0 : Int32)), .val (.int cs.length.toInt32), .unset, .unset]) pf_6 (fun m => by first | (simp [entryFrame, mkF, argsToLocals, Value.category]; done) | rfl) ?_
  intro p e s m below meth c T0 C X0 e0
  have N0 : Fr Z.heap.size [] := Fr.nil _
  refine Go.iconst (z := (0 : Int32)) (pc' := 1) C X0 d6_0 rfl rfl ?_
  refine Go.istore (Ls' := #[.val (.ref a), .val (.int (0 : Int32)), .val (.ref b), .val (.int (0 : Int32)), .val (.int cs.length.toInt32), .val (.int (0 : Int32)), .unset]) (pc' := 3) C X0 d6_1 rfl rfl ?_
  refine lp_compress C hcs hl hne hnb cs.length 0 T0 [] 0 0 h0 .unset (by omega) One.u X0 e0 A0 (by simpa [by8] using B0) N0 ?_
  intro T' locs' h' s6' X' e' K' B' N'
  refine Go.iload (pc' := 46) C X' d6_44 rfl rfl ?_
  exact Go.retI C X' rfl d6_46 (by rw [e']; exact ⟨rfl, N', K', B'⟩) (by decide) (by decide)
theorem pd_0 : parseMethodDescriptor "([CI[BII)I" = some ⟨[(.array .char), .int, (.array .byte), .int, .int], some .int⟩ := by decide +kernel
theorem pf_5 : plainFor (⟨"java/lang/StringUTF16", "compress", "([CII)[B"⟩ : MethodName) = true := plainFor_of_name (by first | (simp [plainName, overriddenIn]; done) | decide +kernel)
theorem d5_0 : decode jdk_52_method_16_code 0 = .ok (.iload_n 2, 1) := by decide +kernel
theorem d5_1 : decode jdk_52_method_16_code 1 = .ok (.newarray .byte, 2) := by decide +kernel
theorem d5_3 : decode jdk_52_method_16_code 3 = .ok (.astore_n 3, 1) := by decide +kernel
theorem d5_4 : decode jdk_52_method_16_code 4 = .ok (.aload_n 0, 1) := by decide +kernel
theorem d5_5 : decode jdk_52_method_16_code 5 = .ok (.iload_n 1, 1) := by decide +kernel
theorem d5_6 : decode jdk_52_method_16_code 6 = .ok (.aload_n 3, 1) := by decide +kernel
theorem d5_7 : decode jdk_52_method_16_code 7 = .ok (.iconst 0, 1) := by decide +kernel
theorem d5_8 : decode jdk_52_method_16_code 8 = .ok (.iload_n 2, 1) := by decide +kernel
theorem d5_9 : decode jdk_52_method_16_code 9 = .ok (.invokestatic 115, 3) := by decide +kernel
theorem d5_12 : decode jdk_52_method_16_code 12 = .ok (.istore 4, 2) := by decide +kernel
theorem d5_14 : decode jdk_52_method_16_code 14 = .ok (.iload 4, 2) := by decide +kernel
theorem d5_16 : decode jdk_52_method_16_code 16 = .ok (.iload_n 2, 1) := by decide +kernel
theorem d5_17 : decode jdk_52_method_16_code 17 = .ok (.if_icmp .eq 40, 3) := by decide +kernel
theorem d5_57 : decode jdk_52_method_16_code 57 = .ok (.aload_n 3, 1) := by decide +kernel
theorem d5_58 : decode jdk_52_method_16_code 58 = .ok (.areturn, 1) := by decide +kernel
def Q_cmpO (Z : State) (a : Addr) (ka : ClassId) (cs : List Int32) (h0 : Heap) (rv : Option Value) (h : Heap) (L : List Loc) : Prop := ∃ b : Addr, ∃ kb : ClassId, rv = some (.ref b) ∧ Fr Z.heap.size L ∧ Keep h0 h [] ∧ h0.size ≤ b ∧ AL Z h b kb .byte (by8 cs)
set_option maxRecDepth 65536 in
set_option maxHeartbeats 40000000 in
theorem rm_cmpO (l : Launch) (Z : State) (a0 : Array Value) (hw : ∀ d ∈ tables_1, d.before a0 Z = true) (a : Addr) (ka : ClassId) (cs : List Int32) (h0 : Heap) (O0 : Ext Z.heap h0) (A0 : AL Z h0 a ka .char (ch16 cs)) (hcs : ∀ x ∈ cs, 0 ≤ x.toInt ∧ x.toInt ≤ 255) (hl : cs.length < 2 ^ 31) (hN : cs.length ≤ 4) :
    Met1 l Z (⟨"java/lang/StringUTF16", "compress", "([CII)[B"⟩ : MethodName) jdk_52_method_16_code 6 (some (.array .byte)) ({ frames := 1, cells := 1, slots := 4, locals := 18 } : Room) #[(.ref a), (.int (0 : Int32)), (.int cs.length.toInt32)] h0 (Q_cmpO Z a ka cs h0) := by
  refine Met1.of_body (Ls := #[.val (.ref a), .val (.int (0 : Int32)), .val (.int cs.length.toInt32), .unset, .unset, .unset]) pf_5 (fun m => by first | (simp [entryFrame, mkF, argsToLocals, Value.category]; done) | rfl) ?_
  intro p e s m below meth c T0 C X0 e0
  have N0 : Fr Z.heap.size [] := Fr.nil _
  refine Go.iloadN (pc' := 1) C X0 d5_0 rfl rfl ?_
  refine Go.newP (aty := .byte) (cap := 4) (vs := (List.replicate cs.length (.int 0))) (ad := "[B") (pc' := 3) C X0 (by decide) (tw hw 20 rfl) e0 (n32_neg hl) (by rw [n32_nat hl]; exact hN) (by decide) (by decide) (by decide) (by rw [n32_nat hl]; rfl) d5_1 rfl ?_
  intro T101 h101 b101 k101 X101 e101 g101 E101 A101 Ea101
  have n_b101 : Z.heap.size ≤ b101 := Nat.le_trans O0.1 (Nat.le_of_eq g101.symm)
  have z_b101 : h0.size ≤ b101 := Nat.le_trans (Nat.le_refl _) (Nat.le_of_eq g101.symm)
  have A101 : AL Z h101 b101 k101 .byte (List.replicate cs.length (.int 0)) := A101
  refine Go.astoreN (Ls' := #[.val (.ref a), .val (.int (0 : Int32)), .val (.int cs.length.toInt32), .val (.ref b101), .unset, .unset]) (pc' := 4) C X101 d5_3 rfl rfl rfl ?_
  refine Go.aloadN (pc' := 5) C X101 d5_4 rfl rfl rfl ?_
  refine Go.iloadN (pc' := 6) C X101 d5_5 rfl rfl ?_
  refine Go.aloadN (pc' := 7) C X101 d5_6 rfl rfl rfl ?_
  refine Go.iconst (z := (0 : Int32)) (pc' := 8) C X101 d5_7 rfl rfl ?_
  refine Go.iloadN (pc' := 9) C X101 d5_8 rfl rfl ?_
  have c103 : AL Z h101 a ka .char (ch16 cs) := (AL.ext E101 A0)
  have ne104 : a ≠ b101 := Nat.ne_of_lt (Nat.lt_of_lt_of_le A0.lt (Nat.le_trans (Nat.le_refl _) (Nat.le_of_eq g101.symm)))
  have O105 : Ext Z.heap h101 := (Ext.trans O0 E101)
  refine Go.callS (y := (⟨"java/lang/StringUTF16", "compress", "([CI[BII)I"⟩ : MethodName)) (pc' := 12) C X101 (tw hw 32 rfl) (tw hw 33 rfl) (by decide) (rm_cmpI l Z a0 hw a b101 ka k101 cs h101 O105 c103 A101 hcs hl ne104 n_b101) (tw hw 34 rfl) (tw hw 30 rfl) e101 (argsL := [(.ref a), (.int (0 : Int32)), (.ref b101), (.int (0 : Int32)), (.int cs.length.toInt32)]) (rest := []) (W := 0) rfl rfl pd_0 rfl (Nat.le_of_eq rfl) rfl (by decide) (by decide) (by decide) (by decide) d5_9 rfl ?_
  intro T102 v102 L102 X102 q102
  obtain ⟨rfl, N102q, K102, P102_0⟩ := q102
  have N102 := Fr.app N0 N102q
  refine Go.istore (Ls' := #[.val (.ref a), .val (.int (0 : Int32)), .val (.int cs.length.toInt32), .val (.ref b101), .val (.int cs.length.toInt32), .unset]) (pc' := 14) C X102 d5_12 rfl rfl ?_
  refine Go.iload (pc' := 16) C X102 d5_14 rfl rfl ?_
  refine Go.iloadN (pc' := 17) C X102 d5_16 rfl rfl ?_
  refine Go.icmpYes (pc' := 57) C X102 d5_17 (teq (x := cs.length.toInt32) (y := cs.length.toInt32) rfl).1 (by decide) (by decide) ?_
  refine Go.aloadN (pc' := 58) C X102 d5_57 rfl rfl rfl ?_
  have K107 : Keep h0 T102.heap [] := (((Keep.refl h0 []).ext E101).trans K102 (allS (Or.inr z_b101) all0))
  exact Go.retA C X102 rfl d5_58 rfl rfl rfl ⟨b101, k101, rfl, N102, K107, z_b101, P102_0⟩ (by decide) (by decide)
theorem pf_7 : plainFor (⟨"java/lang/StringUTF16", "coderFromArrayLen", "([BI)B"⟩ : MethodName) = true := plainFor_of_name (by first | (simp [plainName, overriddenIn]; done) | decide +kernel)
theorem d7_0 : decode jdk_52_method_15_code 0 = .ok (.iload_n 1, 1) := by decide +kernel
theorem d7_1 : decode jdk_52_method_15_code 1 = .ok (.aload_n 0, 1) := by decide +kernel
theorem d7_2 : decode jdk_52_method_15_code 2 = .ok (.arraylength, 1) := by decide +kernel
theorem d7_3 : decode jdk_52_method_15_code 3 = .ok (.isub, 1) := by decide +kernel
theorem d7_4 : decode jdk_52_method_15_code 4 = .ok (.bipush 31, 2) := by decide +kernel
theorem d7_6 : decode jdk_52_method_15_code 6 = .ok (.iushr, 1) := by decide +kernel
theorem d7_7 : decode jdk_52_method_15_code 7 = .ok (.i2b, 1) := by decide +kernel
theorem d7_8 : decode jdk_52_method_15_code 8 = .ok (.ireturn, 1) := by decide +kernel
def Q_cfl (Z : State) (b : Addr) (kb : ClassId) (cs : List Int32) (h0 : Heap) (rv : Option Value) (h : Heap) (L : List Loc) : Prop := rv = some (.int (0 : Int32)) ∧ L = [] ∧ h = h0
set_option maxRecDepth 65536 in
set_option maxHeartbeats 40000000 in
theorem rm_cfl (l : Launch) (Z : State) (a0 : Array Value) (hw : ∀ d ∈ tables_1, d.before a0 Z = true) (b : Addr) (kb : ClassId) (cs : List Int32) (h0 : Heap) (O0 : Ext Z.heap h0) (B0 : AL Z h0 b kb .byte (by8 cs)) :
    Met1 l Z (⟨"java/lang/StringUTF16", "coderFromArrayLen", "([BI)B"⟩ : MethodName) jdk_52_method_15_code 2 (some .byte) ({ frames := 0, cells := 0, slots := 0, locals := 0 } : Room) #[(.ref b), (.int cs.length.toInt32)] h0 (Q_cfl Z b kb cs h0) := by
  refine Met1.of_body (Ls := #[.val (.ref b), .val (.int cs.length.toInt32)]) pf_7 (fun m => by first | (simp [entryFrame, mkF, argsToLocals, Value.category]; done) | rfl) ?_
  intro p e s m below meth c T0 C X0 e0
  have N0 : Fr Z.heap.size [] := Fr.nil _
  refine Go.iloadN (pc' := 1) C X0 d7_0 rfl rfl ?_
  refine Go.aloadN (pc' := 2) C X0 d7_1 rfl rfl rfl ?_
  refine Go.alen (z := cs.length.toInt32) (pc' := 3) C X0 e0 B0 (by rw [by8_len]) d7_2 rfl ?_
  refine Go.isub (pc' := 4) C X0 d7_3 rfl ?_
  refine Go.bipush (z := (31 : Int32)) (pc' := 6) C X0 d7_4 rfl rfl ?_
  refine Go.iushr (pc' := 7) C X0 d7_6 rfl ?_
  refine Go.i2b (pc' := 8) C X0 d7_7 rfl ?_
  exact Go.retN C X0 rfl d7_8 (by simp) (by rw [e0]; exact ⟨(by rw [Int32.sub_self]; rfl), rfl, rfl⟩) (by decide) (by decide)
theorem pd_1 : parseMethodDescriptor "([CII)[B" = some ⟨[(.array .char), .int, .int], some (.array .byte)⟩ := by decide +kernel
theorem pd_2 : parseMethodDescriptor "([BI)B" = some ⟨[(.array .byte), .int], some .byte⟩ := by decide +kernel
theorem pf_3 : plainFor (⟨"java/lang/String", "<init>", "([CIILjava/lang/Void;)V"⟩ : MethodName) = true := plainFor_of_name (by first | (simp [plainName, overriddenIn]; done) | decide +kernel)
theorem d3_0 : decode jdk_42_method_149_code 0 = .ok (.aload_n 0, 1) := by decide +kernel
theorem d3_1 : decode jdk_42_method_149_code 1 = .ok (.invokespecial 1, 3) := by decide +kernel
theorem d3_4 : decode jdk_42_method_149_code 4 = .ok (.iload_n 3, 1) := by decide +kernel
theorem d3_5 : decode jdk_42_method_149_code 5 = .ok (.ifCond .ne 22, 3) := by decide +kernel
theorem d3_27 : decode jdk_42_method_149_code 27 = .ok (.getstatic 38, 3) := by decide +kernel
theorem d3_30 : decode jdk_42_method_149_code 30 = .ok (.ifCond .eq 28, 3) := by decide +kernel
theorem d3_33 : decode jdk_42_method_149_code 33 = .ok (.aload_n 1, 1) := by decide +kernel
theorem d3_34 : decode jdk_42_method_149_code 34 = .ok (.iload_n 2, 1) := by decide +kernel
theorem d3_35 : decode jdk_42_method_149_code 35 = .ok (.iload_n 3, 1) := by decide +kernel
theorem d3_36 : decode jdk_42_method_149_code 36 = .ok (.invokestatic 177, 3) := by decide +kernel
theorem d3_39 : decode jdk_42_method_149_code 39 = .ok (.astore 5, 2) := by decide +kernel
theorem d3_41 : decode jdk_42_method_149_code 41 = .ok (.aload_n 0, 1) := by decide +kernel
theorem d3_42 : decode jdk_42_method_149_code 42 = .ok (.aload 5, 2) := by decide +kernel
theorem d3_44 : decode jdk_42_method_149_code 44 = .ok (.iload_n 3, 1) := by decide +kernel
theorem d3_45 : decode jdk_42_method_149_code 45 = .ok (.invokestatic 47, 3) := by decide +kernel
theorem d3_48 : decode jdk_42_method_149_code 48 = .ok (.putfield 15, 3) := by decide +kernel
theorem d3_51 : decode jdk_42_method_149_code 51 = .ok (.aload_n 0, 1) := by decide +kernel
theorem d3_52 : decode jdk_42_method_149_code 52 = .ok (.aload 5, 2) := by decide +kernel
theorem d3_54 : decode jdk_42_method_149_code 54 = .ok (.putfield 9, 3) := by decide +kernel
theorem d3_57 : decode jdk_42_method_149_code 57 = .ok (.return_, 1) := by decide +kernel
def Q_sI4 (Z : State) (s1 : Addr) (a : Addr) (ka : ClassId) (cs : List Int32) (cP : Int32) (h0 : Heap) (rv : Option Value) (h : Heap) (L : List Loc) : Prop := ∃ v : Addr, ∃ kv : ClassId, rv = none ∧ Fr Z.heap.size L ∧ Keep h0 h [s1] ∧ h0.size ≤ v ∧ Fld Z h s1 "java/lang/String" "value" "[B" (.ref v) ∧ Fld Z h s1 "java/lang/String" "coder" "B" (.int (0 : Int32)) ∧ AL Z h v kv .byte (by8 cs)
set_option maxRecDepth 65536 in
set_option maxHeartbeats 40000000 in
theorem rm_sI4 (l : Launch) (Z : State) (a0 : Array Value) (hw : ∀ d ∈ tables_1, d.before a0 Z = true) (s1 : Addr) (a : Addr) (ka : ClassId) (cs : List Int32) (cP : Int32) (h0 : Heap) (O0 : Ext Z.heap h0) (E0 : Exa Z h0 s1 "java/lang/String") (Fv : Fld Z h0 s1 "java/lang/String" "value" "[B" .null) (Fc : Fld Z h0 s1 "java/lang/String" "coder" "B" (.int (0 : Int32))) (A0 : AL Z h0 a ka .char (ch16 cs)) (SC : Sta Z Z.heap "java/lang/String" "COMPACT_STRINGS" "Z" (.int cP)) (hcs : ∀ x ∈ cs, 0 ≤ x.toInt ∧ x.toInt ≤ 255) (hl : cs.length < 2 ^ 31) (hN : cs.length ≤ 4) (hpos : ¬ cs.length.toInt32 = (0 : Int32)) (hP : ¬ cP = (0 : Int32)) (hns : Z.heap.size ≤ s1) :
    Met1 l Z (⟨"java/lang/String", "<init>", "([CIILjava/lang/Void;)V"⟩ : MethodName) jdk_42_method_149_code 6 none ({ frames := 2, cells := 1, slots := 4, locals := 35 } : Room) #[(.ref s1), (.ref a), (.int (0 : Int32)), (.int cs.length.toInt32), .null] h0 (Q_sI4 Z s1 a ka cs cP h0) := by
  refine Met1.of_body (Ls := #[.val (.ref s1), .val (.ref a), .val (.int (0 : Int32)), .val (.int cs.length.toInt32), .val .null, .unset]) pf_3 (fun m => by first | (simp [entryFrame, mkF, argsToLocals, Value.category]; done) | rfl) ?_
  intro p e s m below meth c T0 C X0 e0
  have N0 : Fr Z.heap.size [] := Fr.nil _
  refine Go.aloadN (pc' := 1) C X0 d3_0 rfl rfl rfl ?_
  refine Go.initO (pc' := 4) (W := 0) C X0 (tw hw 16 rfl) (tw hw 17 rfl) (tw hw 18 rfl) e0 rfl (by decide) (Nat.le_of_eq rfl) (by decide) d3_1 rfl ?_
  intro T101 X101 e101
  refine Go.iloadN (pc' := 5) C X101 d3_4 rfl rfl ?_
  refine Go.ifYes (pc' := 27) C X101 d3_5 ((if0 _ _).trans (feq (x := cs.length.toInt32) (y := (0 : Int32)) hpos).2) (by decide) (by decide) ?_
  refine Go.getS (pc' := 30) (host := "") C X101 (Or.inl (tw hw 27 rfl)) Via.refl e101 (SC.ext O0) d3_27 rfl ?_
  intro T103 X103 e103
  refine Go.ifNo (pc' := 33) C X103 d3_30 ((if0 _ _).trans (feq (x := cP) (y := (0 : Int32)) hP).1) rfl ?_
  refine Go.aloadN (pc' := 34) C X103 d3_33 rfl rfl rfl ?_
  refine Go.iloadN (pc' := 35) C X103 d3_34 rfl rfl ?_
  refine Go.iloadN (pc' := 36) C X103 d3_35 rfl rfl ?_
  refine Go.callS (y := (⟨"java/lang/StringUTF16", "compress", "([CII)[B"⟩ : MethodName)) (pc' := 39) C X103 (tw hw 28 rfl) (tw hw 29 rfl) (by decide) (rm_cmpO l Z a0 hw a ka cs h0 O0 A0 hcs hl hN) (tw hw 31 rfl) (tw hw 30 rfl) e103 (argsL := [(.ref a), (.int (0 : Int32)), (.int cs.length.toInt32)]) (rest := []) (W := 0) rfl rfl pd_1 rfl (Nat.le_of_eq rfl) rfl (by decide) (by decide) (by decide) (by decide) d3_36 rfl ?_
  intro T105 v105 L105 X105 q105
  obtain ⟨b_105, kb_105, rfl, N105q, K105, B105_0, P105_0⟩ := q105
  have N105 := Fr.app N0 N105q
  have n_b_105 : Z.heap.size ≤ b_105 := Nat.le_trans O0.1 B105_0
  have z_b_105 : h0.size ≤ b_105 := Nat.le_trans (Nat.le_refl _) B105_0
  refine Go.astore (Ls' := #[.val (.ref s1), .val (.ref a), .val (.int (0 : Int32)), .val (.int cs.length.toInt32), .val .null, .val (.ref b_105)]) (pc' := 41) C X105 d3_39 rfl rfl rfl ?_
  refine Go.aloadN (pc' := 42) C X105 d3_41 rfl rfl rfl ?_
  refine Go.aload (pc' := 44) C X105 d3_42 rfl rfl rfl ?_
  refine Go.iloadN (pc' := 45) C X105 d3_44 rfl rfl ?_
  have O107 : Ext Z.heap T105.heap := (Ext.keep O0 K105 all0)
  refine Go.callS (y := (⟨"java/lang/StringUTF16", "coderFromArrayLen", "([BI)B"⟩ : MethodName)) (pc' := 48) C X105 (tw hw 35 rfl) (tw hw 36 rfl) (by decide) (rm_cfl l Z a0 hw b_105 kb_105 cs T105.heap O107 P105_0) (tw hw 37 rfl) (tw hw 30 rfl) rfl (argsL := [(.ref b_105), (.int cs.length.toInt32)]) (rest := [(.ref s1)]) (W := 1) rfl rfl pd_2 rfl (Nat.le_of_eq rfl) rfl (by decide) (by decide) (by decide) (by decide) d3_45 rfl ?_
  intro T106 v106 L106 X106 q106
  obtain ⟨rfl, rfl, e106⟩ := q106
  have N106 := Fr.app N105 (Fr.nil _)
  have c109 : Fld Z T105.heap s1 "java/lang/String" "coder" "B" (.int (0 : Int32)) := (Fld.keep Fc K105 nin0)
  have c110 : Exa Z T105.heap s1 "java/lang/String" := (Exa.keep E0 K105)
  refine Go.putFN (pc' := 51) (ty := .byte) (v' := .int (0 : Int32)) C X106 (tw hw 26 rfl) Via.refl e106 c109 c110 (Or.inr ⟨(tw hw 22 rfl), rfl, rfl⟩) (tw hw 6 rfl) (by decide) rfl (by decide) d3_48 rfl ?_
  intro T108 h108 X108 e108 W108 F108
  have N108 := Fr.snoc X108 N106 hns
  refine Go.aloadN (pc' := 52) C X108 d3_51 rfl rfl rfl ?_
  refine Go.aload (pc' := 54) C X108 d3_52 rfl rfl rfl ?_
  have c112 : Fld Z h108 s1 "java/lang/String" "value" "[B" .null := (Fld.other W108 (Fld.keep Fv K105 nin0) (Or.inr (slot_ne (Or.inr (tw hw 21 rfl)) (Or.inr (tw hw 22 rfl)) (by decide) (t := (.array .byte)) (t' := .byte) (by decide) (by decide))))
  have c113 : Exa Z h108 s1 "java/lang/String" := (Exa.wr W108 c110)
  refine Go.putF (pc' := 57) (host := "") (ty := (.array .byte)) C X108 (Or.inl (tw hw 25 rfl)) Via.refl e108 c112 c113 (Or.inr ⟨(tw hw 21 rfl), rfl, rfl⟩) (tw hw 6 rfl) (by decide) rfl rfl d3_54 rfl ?_
  intro T111 h111 X111 e111 W111 F111
  have N111 := Fr.snoc X111 N108 hns
  have K114 : Keep h0 h111 [s1] := ((((Keep.refl h0 [s1]).trans K105 all0).wr W108 (Or.inl (by simp))).wr W111 (Or.inl (by simp)))
  have c115 : Fld Z h111 s1 "java/lang/String" "coder" "B" (.int (0 : Int32)) := (Fld.other W111 F108 (Or.inr (slot_ne (Or.inr (tw hw 22 rfl)) (Or.inr (tw hw 21 rfl)) (by decide) (t := .byte) (t' := (.array .byte)) (by decide) (by decide))))
  have ne116 : b_105 ≠ s1 := (Nat.ne_of_gt (Nat.lt_of_lt_of_le E0.lt (Nat.le_trans (Nat.le_refl _) B105_0)))
  have c117 : AL Z h111 b_105 kb_105 .byte (by8 cs) := (AL.other W111 (AL.other W108 P105_0 ne116) ne116)
  exact Go.retV C X111 rfl d3_57 (by rw [e111]; exact ⟨b_105, kb_105, rfl, N111, K114, z_b_105, F111, c115, c117⟩) (by decide) (by decide)
theorem pd_3 : parseMethodDescriptor "([CIILjava/lang/Void;)V" = some ⟨[(.array .char), .int, .int, (.object "java/lang/Void")], none⟩ := by decide +kernel
theorem pf_2 : plainFor (⟨"java/lang/String", "<init>", "([C)V"⟩ : MethodName) = true := plainFor_of_name (by first | (simp [plainName, overriddenIn]; done) | decide +kernel)
theorem d2_0 : decode jdk_42_method_3_code 0 = .ok (.aload_n 0, 1) := by decide +kernel
theorem d2_1 : decode jdk_42_method_3_code 1 = .ok (.aload_n 1, 1) := by decide +kernel
theorem d2_2 : decode jdk_42_method_3_code 2 = .ok (.iconst 0, 1) := by decide +kernel
theorem d2_3 : decode jdk_42_method_3_code 3 = .ok (.aload_n 1, 1) := by decide +kernel
theorem d2_4 : decode jdk_42_method_3_code 4 = .ok (.arraylength, 1) := by decide +kernel
theorem d2_5 : decode jdk_42_method_3_code 5 = .ok (.aconst_null, 1) := by decide +kernel
theorem d2_6 : decode jdk_42_method_3_code 6 = .ok (.invokespecial 27, 3) := by decide +kernel
theorem d2_9 : decode jdk_42_method_3_code 9 = .ok (.return_, 1) := by decide +kernel
def Q_sI1 (Z : State) (s1 : Addr) (a : Addr) (ka : ClassId) (cs : List Int32) (cP : Int32) (h0 : Heap) (rv : Option Value) (h : Heap) (L : List Loc) : Prop := ∃ v : Addr, ∃ kv : ClassId, rv = none ∧ Fr Z.heap.size L ∧ Keep h0 h [s1] ∧ h0.size ≤ v ∧ Fld Z h s1 "java/lang/String" "value" "[B" (.ref v) ∧ Fld Z h s1 "java/lang/String" "coder" "B" (.int (0 : Int32)) ∧ AL Z h v kv .byte (by8 cs)
set_option maxRecDepth 65536 in
set_option maxHeartbeats 40000000 in
theorem rm_sI1 (l : Launch) (Z : State) (a0 : Array Value) (hw : ∀ d ∈ tables_1, d.before a0 Z = true) (s1 : Addr) (a : Addr) (ka : ClassId) (cs : List Int32) (cP : Int32) (h0 : Heap) (O0 : Ext Z.heap h0) (E0 : Exa Z h0 s1 "java/lang/String") (Fv : Fld Z h0 s1 "java/lang/String" "value" "[B" .null) (Fc : Fld Z h0 s1 "java/lang/String" "coder" "B" (.int (0 : Int32))) (A0 : AL Z h0 a ka .char (ch16 cs)) (SC : Sta Z Z.heap "java/lang/String" "COMPACT_STRINGS" "Z" (.int cP)) (hcs : ∀ x ∈ cs, 0 ≤ x.toInt ∧ x.toInt ≤ 255) (hl : cs.length < 2 ^ 31) (hN : cs.length ≤ 4) (hpos : ¬ cs.length.toInt32 = (0 : Int32)) (hP : ¬ cP = (0 : Int32)) (hns : Z.heap.size ≤ s1) :
    Met1 l Z (⟨"java/lang/String", "<init>", "([C)V"⟩ : MethodName) jdk_42_method_3_code 2 none ({ frames := 3, cells := 1, slots := 4, locals := 52 } : Room) #[(.ref s1), (.ref a)] h0 (Q_sI1 Z s1 a ka cs cP h0) := by
  refine Met1.of_body (Ls := #[.val (.ref s1), .val (.ref a)]) pf_2 (fun m => by first | (simp [entryFrame, mkF, argsToLocals, Value.category]; done) | rfl) ?_
  intro p e s m below meth c T0 C X0 e0
  have N0 : Fr Z.heap.size [] := Fr.nil _
  refine Go.aloadN (pc' := 1) C X0 d2_0 rfl rfl rfl ?_
  refine Go.aloadN (pc' := 2) C X0 d2_1 rfl rfl rfl ?_
  refine Go.iconst (z := (0 : Int32)) (pc' := 3) C X0 d2_2 rfl rfl ?_
  refine Go.aloadN (pc' := 4) C X0 d2_3 rfl rfl rfl ?_
  refine Go.alen (z := cs.length.toInt32) (pc' := 5) C X0 e0 A0 (by rw [ch16_len]) d2_4 rfl ?_
  refine Go.aconstNull (pc' := 6) C X0 d2_5 rfl ?_
  refine Go.callI (y := (⟨"java/lang/String", "<init>", "([CIILjava/lang/Void;)V"⟩ : MethodName)) (a := s1) (pc' := 9) C X0 rfl (tw hw 12 rfl) (tw hw 13 rfl) (by decide) (rm_sI4 l Z a0 hw s1 a ka cs cP h0 O0 E0 Fv Fc A0 SC hcs hl hN hpos hP hns) (tw hw 15 rfl) (tw hw 7 rfl) e0 (argsL := [(.ref a), (.int (0 : Int32)), (.int cs.length.toInt32), .null]) (rest := []) (W := 0) rfl rfl pd_3 rfl (Nat.le_of_eq rfl) rfl (by decide) (by decide) (by decide) (by decide) rfl d2_6 rfl ?_
  intro T101 v101 L101 X101 q101
  obtain ⟨v_101, kv_101, rfl, N101q, K101, B101_0, P101_0, P101_1, P101_2⟩ := q101
  have N101 := Fr.app N0 N101q
  have n_v_101 : Z.heap.size ≤ v_101 := Nat.le_trans O0.1 B101_0
  have z_v_101 : h0.size ≤ v_101 := Nat.le_trans (Nat.le_refl _) B101_0
  have K102 : Keep h0 T101.heap [s1] := ((Keep.refl h0 [s1]).trans K101 (allS (Or.inl (by simp)) all0))
  exact Go.retV C X101 rfl d2_9 ⟨v_101, kv_101, rfl, N101, K102, z_v_101, P101_0, P101_1, P101_2⟩ (by decide) (by decide)
theorem EWc {a0 : Array Value} {Z : State} (hw : ∀ d ∈ tables_1, d.before a0 Z = true) : EW Z a0 consts_1 := by
  intro p hp
  simp only [consts_1, List.mem_cons, List.not_mem_nil, or_false] at hp
  rcases hp with rfl | rfl
  · exact ⟨"key", (tw hw 41 rfl), by decide⟩
  · exact ⟨"", (tw hw 19 rfl), by decide⟩
theorem wS {a0 : Array Value} {Z : State} (hw : ∀ d ∈ tables_1, d.before a0 Z = true) : ∀ a ∈ Bundle.stringAtoms, a.before a0 Z = true := by
  intro a ha
  simp only [Bundle.stringAtoms, List.mem_cons, List.not_mem_nil, or_false] at ha
  rcases ha with rfl | rfl | rfl | rfl | rfl | rfl | rfl
  · exact (tw hw 7 rfl)
  · exact (tw hw 6 rfl)
  · exact (tw hw 20 rfl)
  · exact (tw hw 21 rfl)
  · exact (tw hw 22 rfl)
  · exact (tw hw 23 rfl)
  · exact (tw hw 24 rfl)
theorem d3_8 : decode jdk_42_method_149_code 8 = .ok (.aload_n 0, 1) := by decide +kernel
theorem d3_9 : decode jdk_42_method_149_code 9 = .ok (.ldc 7, 2) := by decide +kernel
theorem d3_11 : decode jdk_42_method_149_code 11 = .ok (.getfield 9, 3) := by decide +kernel
theorem d3_14 : decode jdk_42_method_149_code 14 = .ok (.putfield 9, 3) := by decide +kernel
theorem d3_17 : decode jdk_42_method_149_code 17 = .ok (.aload_n 0, 1) := by decide +kernel
theorem d3_18 : decode jdk_42_method_149_code 18 = .ok (.ldc 7, 2) := by decide +kernel
theorem d3_20 : decode jdk_42_method_149_code 20 = .ok (.getfield 15, 3) := by decide +kernel
theorem d3_23 : decode jdk_42_method_149_code 23 = .ok (.putfield 15, 3) := by decide +kernel
theorem d3_26 : decode jdk_42_method_149_code 26 = .ok (.return_, 1) := by decide +kernel
def Q_sI4z (Z : State) (s1 : Addr) (a : Addr) (h0 : Heap) (rv : Option Value) (h : Heap) (L : List Loc) : Prop := ∃ v : Addr, ∃ kv : ClassId, rv = none ∧ Fr Z.heap.size L ∧ Keep h0 h [s1] ∧ Fld Z h s1 "java/lang/String" "value" "[B" (.ref v) ∧ Fld Z h s1 "java/lang/String" "coder" "B" (.int (0 : Int32)) ∧ AL Z h v kv .byte (by8 [])
set_option maxRecDepth 65536 in
set_option maxHeartbeats 40000000 in
theorem rm_sI4z (l : Launch) (Z : State) (a0 : Array Value) (hw : ∀ d ∈ tables_1, d.before a0 Z = true) (s1 : Addr) (a : Addr) (h0 : Heap) (O0 : Ext Z.heap h0) (E0 : Exa Z h0 s1 "java/lang/String") (Fv : Fld Z h0 s1 "java/lang/String" "value" "[B" .null) (Fc : Fld Z h0 s1 "java/lang/String" "coder" "B" (.int (0 : Int32))) (hns : Z.heap.size ≤ s1) :
    Met1H consts_1 [s1] l Z (⟨"java/lang/String", "<init>", "([CIILjava/lang/Void;)V"⟩ : MethodName) jdk_42_method_149_code 6 none ({ frames := 1, cells := 4, slots := 8, locals := 12 } : Room) #[(.ref s1), (.ref a), (.int (0 : Int32)), (.int (0 : Int32)), .null] h0 (Q_sI4z Z s1 a h0) := by
  refine Met1H.of_body (Ls := #[.val (.ref s1), .val (.ref a), .val (.int (0 : Int32)), .val (.int (0 : Int32)), .val .null, .unset]) pf_3 (fun m => by first | (simp [entryFrame, mkF, argsToLocals, Value.category]; done) | rfl) ?_
  intro p e s m below meth c T0 C X0 e0 hH0 hsf0
  have Hr0 := CHr.refl hH0
  have N0 : Fr Z.heap.size [] := Fr.nil _
  have Si0 : Sin s s h0 := Sin.start s h0
  refine Go.aloadN (pc' := 1) C X0 d3_0 rfl rfl rfl ?_
  refine Go.initO (pc' := 4) (W := 0) C X0 (tw hw 16 rfl) (tw hw 17 rfl) (tw hw 18 rfl) e0 rfl (by decide) (Nat.le_of_eq rfl) (by decide) d3_1 rfl ?_
  intro T101 X101 e101
  refine Go.iloadN (pc' := 5) C X101 d3_4 rfl rfl ?_
  refine Go.ifNo (pc' := 8) C X101 d3_5 ((if0 _ _).trans (teq (x := (0 : Int32)) (y := (0 : Int32)) (by decide)).2) rfl ?_
  refine Go.aloadN (pc' := 9) C X101 d3_8 rfl rfl rfl ?_
  refine Go.ldcH (pc' := 11) (n := 0) (vs := []) (z := (0 : Int32)) C X101 Si0 (EWc hw) Hr0.1 (tw hw 19 rfl) (wS hw) e101 (by decide) (by decide) (by decide) (by decide) (by decide) (by decide) (by decide) (by decide) d3_9 rfl ?_
  intro T103 h103 b103 sC103 v103 k103 C103 X103 e103 Si103 E103 hR103 A103 F103c F103v B103 hne103
  have Hr104 := CHr.trans Hr0 hR103
  have hx103_s1 := hne103 s1 (CHr.safe Hr104 E0.lt (hsf0 s1 (by simp)))
  refine Go.getF (pc' := 14) (host := "") C103 X103 (Or.inl (tw hw 25 rfl)) Via.refl e103 F103v d3_11 rfl ?_
  intro T105 X105 e105
  have c107 : Fld Z h103 s1 "java/lang/String" "value" "[B" .null := (Fld.ext E103 Fv)
  have c108 : Exa Z h103 s1 "java/lang/String" := (Exa.ext E103 E0)
  refine Go.putF (pc' := 17) (host := "") (ty := (.array .byte)) C103 X105 (Or.inl (tw hw 25 rfl)) Via.refl e105 c107 c108 (Or.inr ⟨(tw hw 21 rfl), rfl, rfl⟩) (tw hw 6 rfl) (by decide) rfl rfl d3_14 rfl ?_
  intro T106 h106 X106 e106 W106 F106
  have Hr109 := CHr.trans Hr104 (CHr.wr W106 (CHr.safe Hr104 E0.lt (hsf0 s1 (by simp))) Hr104.1)
  have N106 := Fr.snoc X106 N0 hns
  refine Go.aloadN (pc' := 18) C103 X106 d3_17 rfl rfl rfl ?_
  have O111 : Ext Z.heap h106 := (Ext.wr (Ext.trans O0 E103) W106 hns)
  have Si112 : Sin s sC103 h106 := Sin.mono Si103 (Nat.le_trans (Nat.le_refl _) (Nat.le_of_eq W106.size.symm))
  refine Go.ldcH (pc' := 20) (n := 0) (vs := []) (z := (0 : Int32)) C103 X106 Si112 (EWc hw) Hr109.1 (tw hw 19 rfl) (wS hw) e106 (by decide) (by decide) (by decide) (by decide) (by decide) (by decide) (by decide) (by decide) d3_18 rfl ?_
  intro T110 h110 b110 sC110 v110 k110 C110 X110 e110 Si110 E110 hR110 A110 F110c F110v B110 hne110
  have Hr113 := CHr.trans Hr109 hR110
  have hx110_s1 := hne110 s1 (CHr.safe Hr113 E0.lt (hsf0 s1 (by simp)))
  refine Go.getF (pc' := 23) (host := "") C110 X110 (Or.inl (tw hw 26 rfl)) Via.refl e110 F110c d3_20 rfl ?_
  intro T114 X114 e114
  have c116 : Fld Z h110 s1 "java/lang/String" "coder" "B" (.int (0 : Int32)) := (Fld.ext E110 (Fld.other W106 (Fld.ext E103 Fc) (Or.inr (slot_ne (Or.inr (tw hw 22 rfl)) (Or.inr (tw hw 21 rfl)) (by decide) (t := .byte) (t' := (.array .byte)) (by decide) (by decide)))))
  have c117 : Exa Z h110 s1 "java/lang/String" := (Exa.ext E110 (Exa.wr W106 c108))
  refine Go.putFN (pc' := 26) (ty := .byte) (v' := .int (0 : Int32)) C110 X114 (tw hw 26 rfl) Via.refl e114 c116 c117 (Or.inr ⟨(tw hw 22 rfl), rfl, rfl⟩) (tw hw 6 rfl) (by decide) rfl (by decide) d3_23 rfl ?_
  intro T115 h115 X115 e115 W115 F115
  have Hr118 := CHr.trans Hr113 (CHr.wr W115 (CHr.safe Hr113 E0.lt (hsf0 s1 (by simp))) Hr113.1)
  have N115 := Fr.snoc X115 N106 hns
  have K119 : Keep h0 h115 [s1] := (((((Keep.refl h0 [s1]).ext E103).wr W106 (Or.inl (by simp))).ext E110).wr W115 (Or.inl (by simp)))
  have c120 : Fld Z h115 s1 "java/lang/String" "value" "[B" (.ref v103) := (Fld.other W115 (Fld.ext E110 F106) (Or.inr (slot_ne (Or.inr (tw hw 21 rfl)) (Or.inr (tw hw 22 rfl)) (by decide) (t := (.array .byte)) (t' := .byte) (by decide) (by decide))))
  have c121 : AL Z h115 v103 k103 .byte [] := (AL.other W115 (AL.ext E110 (AL.other W106 B103 (Ne.symm hx103_s1.2))) (Ne.symm hx103_s1.2))
  have Si122 : Sin s sC110 h115 := Sin.mono Si110 (Nat.le_trans (Nat.le_refl _) (Nat.le_of_eq W115.size.symm))
  exact Go.retVH C110 X115 (by rw [e115]; exact Si122) (EWc hw) (by rw [e115]; exact Hr118) rfl d3_26 (by rw [e115]; exact ⟨v103, k103, rfl, N115, K119, c120, F115, c121⟩) (by decide) (by decide)
def Q_sI1z (Z : State) (s1 : Addr) (a : Addr) (ka : ClassId) (h0 : Heap) (rv : Option Value) (h : Heap) (L : List Loc) : Prop := ∃ v : Addr, ∃ kv : ClassId, rv = none ∧ Fr Z.heap.size L ∧ Keep h0 h [s1] ∧ Fld Z h s1 "java/lang/String" "value" "[B" (.ref v) ∧ Fld Z h s1 "java/lang/String" "coder" "B" (.int (0 : Int32)) ∧ AL Z h v kv .byte (by8 [])
set_option maxRecDepth 65536 in
set_option maxHeartbeats 40000000 in
theorem rm_sI1z (l : Launch) (Z : State) (a0 : Array Value) (hw : ∀ d ∈ tables_1, d.before a0 Z = true) (s1 : Addr) (a : Addr) (ka : ClassId) (h0 : Heap) (O0 : Ext Z.heap h0) (E0 : Exa Z h0 s1 "java/lang/String") (Fv : Fld Z h0 s1 "java/lang/String" "value" "[B" .null) (Fc : Fld Z h0 s1 "java/lang/String" "coder" "B" (.int (0 : Int32))) (A0 : AL Z h0 a ka .char []) (hns : Z.heap.size ≤ s1) :
    Met1H consts_1 [s1] l Z (⟨"java/lang/String", "<init>", "([C)V"⟩ : MethodName) jdk_42_method_3_code 2 none ({ frames := 2, cells := 4, slots := 8, locals := 29 } : Room) #[(.ref s1), (.ref a)] h0 (Q_sI1z Z s1 a ka h0) := by
  refine Met1H.of_body (Ls := #[.val (.ref s1), .val (.ref a)]) pf_2 (fun m => by first | (simp [entryFrame, mkF, argsToLocals, Value.category]; done) | rfl) ?_
  intro p e s m below meth c T0 C X0 e0 hH0 hsf0
  have Hr0 := CHr.refl hH0
  have N0 : Fr Z.heap.size [] := Fr.nil _
  have Si0 : Sin s s h0 := Sin.start s h0
  refine Go.aloadN (pc' := 1) C X0 d2_0 rfl rfl rfl ?_
  refine Go.aloadN (pc' := 2) C X0 d2_1 rfl rfl rfl ?_
  refine Go.iconst (z := (0 : Int32)) (pc' := 3) C X0 d2_2 rfl rfl ?_
  refine Go.aloadN (pc' := 4) C X0 d2_3 rfl rfl rfl ?_
  refine Go.alen (z := (0 : Int32)) (pc' := 5) C X0 e0 A0 rfl d2_4 rfl ?_
  refine Go.aconstNull (pc' := 6) C X0 d2_5 rfl ?_
  refine Go.callIH (y := (⟨"java/lang/String", "<init>", "([CIILjava/lang/Void;)V"⟩ : MethodName)) (a := s1) (pc' := 9) C X0 Si0 (EWc hw) Hr0.1 rfl (tw hw 12 rfl) (tw hw 13 rfl) (by decide) (allS ⟨Nat.lt_of_lt_of_le E0.lt (Nat.le_refl _), (CHr.safe Hr0 E0.lt (hsf0 s1 (by simp)))⟩ all0) (rm_sI4z l Z a0 hw s1 a h0 O0 E0 Fv Fc hns) (tw hw 15 rfl) (tw hw 7 rfl) e0 (argsL := [(.ref a), (.int (0 : Int32)), (.int (0 : Int32)), .null]) (rest := []) (W := 0) rfl rfl pd_3 rfl (Nat.le_of_eq rfl) rfl (by decide) (by decide) (by decide) (by decide) rfl d2_6 rfl ?_
  intro T101 v101 L101 sC101 C101 X101 Si101 hR101 q101
  obtain ⟨v_101, kv_101, rfl, N101q, K101, P101_0, P101_1, P101_2⟩ := q101
  have N101 := Fr.app N0 N101q
  have Hr102 := CHr.trans Hr0 hR101
  have K103 : Keep h0 T101.heap [s1] := ((Keep.refl h0 [s1]).trans K101 (allS (Or.inl (by simp)) all0))
  exact Go.retVH C101 X101 Si101 (EWc hw) Hr102 rfl d2_9 ⟨v_101, kv_101, rfl, N101, K103, P101_0, P101_1, P101_2⟩ (by decide) (by decide)
theorem by8_get {xs : List Int32} {i : Nat} {x : Int32} (h : xs[i]? = some x) : (by8 xs)[i]? = some (.int x.toInt8.toInt32) := by simp [by8, h]
theorem sh0 (x : Int32) : (x >>> ((0 : Int32) &&& 31)) = x := by
  have q := c_ishr x (0 : Int32) 0 (by decide)
  apply Int32.toInt_inj.mp
  rw [q]; simp
theorem r255 (y : Int32) : 0 ≤ (y &&& (255 : Int32)).toInt ∧ (y &&& (255 : Int32)).toInt ≤ 255 := by
  have h := c_and y (255 : Int32) (by decide)
  simpa using h
theorem u255 {x : Int32} (h : 0 ≤ x.toInt ∧ x.toInt ≤ 255) : (x.toInt8.toInt32 &&& (255 : Int32)) = x := by
  have h1 := c_i2b x
  have h2 := c_mask x.toInt8.toInt32 (255 : Int32) 8 (by decide) (by decide)
  exact Int32.toInt_inj.mp (by omega)
theorem i2cr {y : Int32} (h : 0 ≤ y.toInt ∧ y.toInt ≤ 255) : y.toUInt32.toUInt16.toUInt32.toInt32 = y := by
  have q := c_i2c y
  exact Int32.toInt_inj.mp (by omega)
theorem narcr {y : Int32} (h : 0 ≤ y.toInt ∧ y.toInt ≤ 255) : nar .char y = y := i2cr h
theorem cch {x : Int32} (h : 0 ≤ x.toInt ∧ x.toInt ≤ 255) : some (Value.int (nar .char ((x.toInt8.toInt32 &&& (255 : Int32)).toUInt32.toUInt16.toUInt32.toInt32))) = some (Value.int x) := by
  rw [u255 h, i2cr h, narcr h]
theorem pf_12 : plainFor (⟨"java/lang/String", "isLatin1", "()Z"⟩ : MethodName) = true := plainFor_of_name (by first | (simp [plainName, overriddenIn]; done) | decide +kernel)
theorem d12_0 : decode jdk_42_method_154_code 0 = .ok (.getstatic 38, 3) := by decide +kernel
theorem d12_3 : decode jdk_42_method_154_code 3 = .ok (.ifCond .eq 14, 3) := by decide +kernel
theorem d12_6 : decode jdk_42_method_154_code 6 = .ok (.aload_n 0, 1) := by decide +kernel
theorem d12_7 : decode jdk_42_method_154_code 7 = .ok (.getfield 15, 3) := by decide +kernel
theorem d12_10 : decode jdk_42_method_154_code 10 = .ok (.ifCond .ne 7, 3) := by decide +kernel
theorem d12_13 : decode jdk_42_method_154_code 13 = .ok (.iconst 1, 1) := by decide +kernel
theorem d12_14 : decode jdk_42_method_154_code 14 = .ok (.goto 4, 3) := by decide +kernel
theorem d12_18 : decode jdk_42_method_154_code 18 = .ok (.ireturn, 1) := by decide +kernel
def Q_isL (Z : State) (s1 : Addr) (cP : Int32) (h0 : Heap) (rv : Option Value) (h : Heap) (L : List Loc) : Prop := rv = some (.int (1 : Int32)) ∧ L = [] ∧ h = h0
set_option maxRecDepth 65536 in
set_option maxHeartbeats 40000000 in
theorem rm_isL (l : Launch) (Z : State) (a0 : Array Value) (hw : ∀ d ∈ tables_1, d.before a0 Z = true) (s1 : Addr) (cP : Int32) (h0 : Heap) (O0 : Ext Z.heap h0) (Fc : Fld Z h0 s1 "java/lang/String" "coder" "B" (.int (0 : Int32))) (SC : Sta Z Z.heap "java/lang/String" "COMPACT_STRINGS" "Z" (.int cP)) (hP : ¬ cP = (0 : Int32)) :
    Met1 l Z (⟨"java/lang/String", "isLatin1", "()Z"⟩ : MethodName) jdk_42_method_154_code 1 (some .boolean) ({ frames := 0, cells := 0, slots := 0, locals := 0 } : Room) #[(.ref s1)] h0 (Q_isL Z s1 cP h0) := by
  refine Met1.of_body (Ls := #[.val (.ref s1)]) pf_12 (fun m => by first | (simp [entryFrame, mkF, argsToLocals, Value.category]; done) | rfl) ?_
  intro p e s m below meth c T0 C X0 e0
  have N0 : Fr Z.heap.size [] := Fr.nil _
  refine Go.getS (pc' := 3) (host := "") C X0 (Or.inl (tw hw 27 rfl)) Via.refl e0 (SC.ext O0) d12_0 rfl ?_
  intro T101 X101 e101
  refine Go.ifNo (pc' := 6) C X101 d12_3 ((if0 _ _).trans (feq (x := cP) (y := (0 : Int32)) hP).1) rfl ?_
  refine Go.aloadN (pc' := 7) C X101 d12_6 rfl rfl rfl ?_
  refine Go.getF (pc' := 10) (host := "") C X101 (Or.inl (tw hw 26 rfl)) Via.refl e101 Fc d12_7 rfl ?_
  intro T103 X103 e103
  refine Go.ifNo (pc' := 13) C X103 d12_10 ((if0 _ _).trans (teq (x := (0 : Int32)) (y := (0 : Int32)) (by decide)).2) rfl ?_
  refine Go.iconst (z := (1 : Int32)) (pc' := 14) C X103 d12_13 rfl rfl ?_
  refine Go.goto (pc' := 18) C X103 d12_14 (by decide) (by decide) ?_
  exact Go.retN C X103 rfl d12_18 (by simp) (by rw [e103]; exact ⟨rfl, rfl, rfl⟩) (by decide) (by decide)
theorem pf_18 : plainFor (⟨"java/lang/String", "coder", "()B"⟩ : MethodName) = true := plainFor_of_name (by first | (simp [plainName, overriddenIn]; done) | decide +kernel)
theorem d18_0 : decode jdk_42_method_152_code 0 = .ok (.getstatic 38, 3) := by decide +kernel
theorem d18_3 : decode jdk_42_method_152_code 3 = .ok (.ifCond .eq 10, 3) := by decide +kernel
theorem d18_6 : decode jdk_42_method_152_code 6 = .ok (.aload_n 0, 1) := by decide +kernel
theorem d18_7 : decode jdk_42_method_152_code 7 = .ok (.getfield 15, 3) := by decide +kernel
theorem d18_10 : decode jdk_42_method_152_code 10 = .ok (.goto 4, 3) := by decide +kernel
theorem d18_14 : decode jdk_42_method_152_code 14 = .ok (.ireturn, 1) := by decide +kernel
def Q_cod (Z : State) (s1 : Addr) (cP : Int32) (h0 : Heap) (rv : Option Value) (h : Heap) (L : List Loc) : Prop := rv = some (.int (0 : Int32)) ∧ L = [] ∧ h = h0
set_option maxRecDepth 65536 in
set_option maxHeartbeats 40000000 in
theorem rm_cod (l : Launch) (Z : State) (a0 : Array Value) (hw : ∀ d ∈ tables_1, d.before a0 Z = true) (s1 : Addr) (cP : Int32) (h0 : Heap) (O0 : Ext Z.heap h0) (Fc : Fld Z h0 s1 "java/lang/String" "coder" "B" (.int (0 : Int32))) (SC : Sta Z Z.heap "java/lang/String" "COMPACT_STRINGS" "Z" (.int cP)) (hP : ¬ cP = (0 : Int32)) :
    Met1 l Z (⟨"java/lang/String", "coder", "()B"⟩ : MethodName) jdk_42_method_152_code 1 (some .byte) ({ frames := 0, cells := 0, slots := 0, locals := 0 } : Room) #[(.ref s1)] h0 (Q_cod Z s1 cP h0) := by
  refine Met1.of_body (Ls := #[.val (.ref s1)]) pf_18 (fun m => by first | (simp [entryFrame, mkF, argsToLocals, Value.category]; done) | rfl) ?_
  intro p e s m below meth c T0 C X0 e0
  have N0 : Fr Z.heap.size [] := Fr.nil _
  refine Go.getS (pc' := 3) (host := "") C X0 (Or.inl (tw hw 27 rfl)) Via.refl e0 (SC.ext O0) d18_0 rfl ?_
  intro T101 X101 e101
  refine Go.ifNo (pc' := 6) C X101 d18_3 ((if0 _ _).trans (feq (x := cP) (y := (0 : Int32)) hP).1) rfl ?_
  refine Go.aloadN (pc' := 7) C X101 d18_6 rfl rfl rfl ?_
  refine Go.getF (pc' := 10) (host := "") C X101 (Or.inl (tw hw 26 rfl)) Via.refl e101 Fc d18_7 rfl ?_
  intro T103 X103 e103
  refine Go.goto (pc' := 14) C X103 d18_10 (by decide) (by decide) ?_
  exact Go.retN C X103 rfl d18_14 (by simp) (by rw [e103]; exact ⟨rfl, rfl, rfl⟩) (by decide) (by decide)
theorem pd_4 : parseMethodDescriptor "()B" = some ⟨[], some .byte⟩ := by decide +kernel
theorem pf_17 : plainFor (⟨"java/lang/String", "length", "()I"⟩ : MethodName) = true := plainFor_of_name (by first | (simp [plainName, overriddenIn]; done) | decide +kernel)
theorem d17_0 : decode jdk_42_method_54_code 0 = .ok (.aload_n 0, 1) := by decide +kernel
theorem d17_1 : decode jdk_42_method_54_code 1 = .ok (.getfield 9, 3) := by decide +kernel
theorem d17_4 : decode jdk_42_method_54_code 4 = .ok (.arraylength, 1) := by decide +kernel
theorem d17_5 : decode jdk_42_method_54_code 5 = .ok (.aload_n 0, 1) := by decide +kernel
theorem d17_6 : decode jdk_42_method_54_code 6 = .ok (.invokevirtual 335, 3) := by decide +kernel
theorem d17_9 : decode jdk_42_method_54_code 9 = .ok (.ishr, 1) := by decide +kernel
theorem d17_10 : decode jdk_42_method_54_code 10 = .ok (.ireturn, 1) := by decide +kernel
def Q_len (Z : State) (s1 : Addr) (v : Addr) (k : ClassId) (xs : List Int32) (cP : Int32) (n0 : Int32) (h0 : Heap) (rv : Option Value) (h : Heap) (L : List Loc) : Prop := rv = some (.int n0) ∧ L = [] ∧ h = h0
set_option maxRecDepth 65536 in
set_option maxHeartbeats 40000000 in
theorem rm_len (l : Launch) (Z : State) (a0 : Array Value) (hw : ∀ d ∈ tables_1, d.before a0 Z = true) (s1 : Addr) (v : Addr) (k : ClassId) (xs : List Int32) (cP : Int32) (n0 : Int32) (h0 : Heap) (O0 : Ext Z.heap h0) (E0 : Exa Z h0 s1 "java/lang/String") (Fv : Fld Z h0 s1 "java/lang/String" "value" "[B" (.ref v)) (Fc : Fld Z h0 s1 "java/lang/String" "coder" "B" (.int (0 : Int32))) (Bx : AL Z h0 v k .byte (by8 xs)) (SC : Sta Z Z.heap "java/lang/String" "COMPACT_STRINGS" "Z" (.int cP)) (hP : ¬ cP = (0 : Int32)) (hl : xs.length.toInt32 = n0) :
    Met1 l Z (⟨"java/lang/String", "length", "()I"⟩ : MethodName) jdk_42_method_54_code 1 (some .int) ({ frames := 1, cells := 0, slots := 0, locals := 13 } : Room) #[(.ref s1)] h0 (Q_len Z s1 v k xs cP n0 h0) := by
  refine Met1.of_body (Ls := #[.val (.ref s1)]) pf_17 (fun m => by first | (simp [entryFrame, mkF, argsToLocals, Value.category]; done) | rfl) ?_
  intro p e s m below meth c T0 C X0 e0
  have N0 : Fr Z.heap.size [] := Fr.nil _
  refine Go.aloadN (pc' := 1) C X0 d17_0 rfl rfl rfl ?_
  refine Go.getF (pc' := 4) (host := "") C X0 (Or.inl (tw hw 25 rfl)) Via.refl e0 Fv d17_1 rfl ?_
  intro T101 X101 e101
  refine Go.alen (z := n0) (pc' := 5) C X101 e101 Bx (by rw [by8_len]; exact hl) d17_4 rfl ?_
  refine Go.aloadN (pc' := 6) C X101 d17_5 rfl rfl rfl ?_
  refine Go.callV (y := (⟨"java/lang/String", "coder", "()B"⟩ : MethodName)) (z := (⟨"java/lang/String", "coder", "()B"⟩ : MethodName)) (a := s1) (pc' := 9) C X101 (tw hw 86 rfl) (tw hw 87 rfl) (notFace_at C.2.1 (tw hw 89 rfl)) (tw hw 89 rfl) (tw hw 88 rfl) E0 (by decide) (rm_cod l Z a0 hw s1 cP h0 O0 Fc SC hP) (tw hw 90 rfl) (tw hw 7 rfl) e101 (argsL := []) (rest := [(.int n0)]) (W := 1) rfl rfl pd_4 rfl (Nat.le_of_eq rfl) rfl (by decide) (by decide) (by decide) (by decide) d17_6 rfl ?_
  intro T102 v102 L102 X102 q102
  obtain ⟨rfl, rfl, e102⟩ := q102
  have N102 := Fr.app N0 (Fr.nil _)
  refine Go.ishr (pc' := 10) C X102 d17_9 rfl ?_
  exact Go.retI C X102 rfl d17_10 (by rw [e102]; exact ⟨(congrArg (fun z => some (Value.int z)) (sh0 n0)), (by simp), rfl⟩) (by decide) (by decide)
theorem pf_14 : plainFor (⟨"java/lang/StringLatin1", "getChar", "([BI)C"⟩ : MethodName) = true := plainFor_of_name (by first | (simp [plainName, overriddenIn]; done) | decide +kernel)
theorem d14_0 : decode jdk_43_method_44_code 0 = .ok (.aload_n 0, 1) := by decide +kernel
theorem d14_1 : decode jdk_43_method_44_code 1 = .ok (.iload_n 1, 1) := by decide +kernel
theorem d14_2 : decode jdk_43_method_44_code 2 = .ok (.baload, 1) := by decide +kernel
theorem d14_3 : decode jdk_43_method_44_code 3 = .ok (.sipush 255, 3) := by decide +kernel
theorem d14_6 : decode jdk_43_method_44_code 6 = .ok (.iand, 1) := by decide +kernel
theorem d14_7 : decode jdk_43_method_44_code 7 = .ok (.i2c, 1) := by decide +kernel
theorem d14_8 : decode jdk_43_method_44_code 8 = .ok (.ireturn, 1) := by decide +kernel
def Q_gch (Z : State) (v : Addr) (k : ClassId) (xs : List Int32) (j : Int32) (i : Nat) (x : Int32) (h0 : Heap) (rv : Option Value) (h : Heap) (L : List Loc) : Prop := rv = some (.int x) ∧ L = [] ∧ h = h0
set_option maxRecDepth 65536 in
set_option maxHeartbeats 40000000 in
theorem rm_gch (l : Launch) (Z : State) (a0 : Array Value) (hw : ∀ d ∈ tables_1, d.before a0 Z = true) (v : Addr) (k : ClassId) (xs : List Int32) (j : Int32) (i : Nat) (x : Int32) (h0 : Heap) (O0 : Ext Z.heap h0) (Bx : AL Z h0 v k .byte (by8 xs)) (h1 : ¬ j < (0 : Int32)) (hji : j.toNatClampNeg = i) (hx : xs[i]? = some x) (hr : 0 ≤ x.toInt ∧ x.toInt ≤ 255) :
    Met1 l Z (⟨"java/lang/StringLatin1", "getChar", "([BI)C"⟩ : MethodName) jdk_43_method_44_code 2 (some .char) ({ frames := 0, cells := 0, slots := 0, locals := 0 } : Room) #[(.ref v), (.int j)] h0 (Q_gch Z v k xs j i x h0) := by
  refine Met1.of_body (Ls := #[.val (.ref v), .val (.int j)]) pf_14 (fun m => by first | (simp [entryFrame, mkF, argsToLocals, Value.category]; done) | rfl) ?_
  intro p e s m below meth c T0 C X0 e0
  have N0 : Fr Z.heap.size [] := Fr.nil _
  refine Go.aloadN (pc' := 1) C X0 d14_0 rfl rfl rfl ?_
  refine Go.iloadN (pc' := 2) C X0 d14_1 rfl rfl ?_
  refine Go.ldB (i := i) (v := (.int x.toInt8.toInt32)) (pc' := 3) C X0 e0 Bx h1 hji (by8_get hx) d14_2 rfl ?_
  refine Go.sipush (z := (255 : Int32)) (pc' := 6) C X0 d14_3 rfl rfl ?_
  refine Go.iand (pc' := 7) C X0 d14_6 rfl ?_
  refine Go.i2c (pc' := 8) C X0 d14_7 rfl ?_
  exact Go.retN C X0 rfl d14_8 (by simp) (by rw [e0]; exact ⟨(cch hr), rfl, rfl⟩) (by decide) (by decide)
theorem pf_23 : plainFor (⟨"jdk/internal/util/Preconditions", "checkIndex", "(IILjava/util/function/BiFunction;)I"⟩ : MethodName) = true := plainFor_of_name (by first | (simp [plainName, overriddenIn]; done) | decide +kernel)
theorem d23_0 : decode jdk_41_method_11_code 0 = .ok (.iload_n 0, 1) := by decide +kernel
theorem d23_1 : decode jdk_41_method_11_code 1 = .ok (.ifCond .lt 8, 3) := by decide +kernel
theorem d23_4 : decode jdk_41_method_11_code 4 = .ok (.iload_n 0, 1) := by decide +kernel
theorem d23_5 : decode jdk_41_method_11_code 5 = .ok (.iload_n 1, 1) := by decide +kernel
theorem d23_6 : decode jdk_41_method_11_code 6 = .ok (.if_icmp .lt 10, 3) := by decide +kernel
theorem d23_16 : decode jdk_41_method_11_code 16 = .ok (.iload_n 0, 1) := by decide +kernel
theorem d23_17 : decode jdk_41_method_11_code 17 = .ok (.ireturn, 1) := by decide +kernel
def Q_pci (Z : State) (j : Int32) (n0 : Int32) (fm : Value) (h0 : Heap) (rv : Option Value) (h : Heap) (L : List Loc) : Prop := rv = some (.int j) ∧ L = [] ∧ h = h0
set_option maxRecDepth 65536 in
set_option maxHeartbeats 40000000 in
theorem rm_pci (l : Launch) (Z : State) (a0 : Array Value) (hw : ∀ d ∈ tables_1, d.before a0 Z = true) (j : Int32) (n0 : Int32) (fm : Value) (h0 : Heap) (O0 : Ext Z.heap h0) (h1 : ¬ j < (0 : Int32)) (h2 : j < n0) (hfm : fm.category = 1) :
    Met1 l Z (⟨"jdk/internal/util/Preconditions", "checkIndex", "(IILjava/util/function/BiFunction;)I"⟩ : MethodName) jdk_41_method_11_code 3 (some .int) ({ frames := 0, cells := 0, slots := 0, locals := 0 } : Room) #[(.int j), (.int n0), fm] h0 (Q_pci Z j n0 fm h0) := by
  refine Met1.of_body (Ls := #[.val (.int j), .val (.int n0), .val fm]) pf_23 (fun m => by first | (simp [entryFrame, mkF, argsToLocals, Value.category]; done) | rfl | (cases fm <;> first | (simp [Value.category] at hfm; done) | rfl)) ?_
  intro p e s m below meth c T0 C X0 e0
  have N0 : Fr Z.heap.size [] := Fr.nil _
  refine Go.iloadN (pc' := 1) C X0 d23_0 rfl rfl ?_
  refine Go.ifNo (pc' := 4) C X0 d23_1 ((if0 _ _).trans (flt (x := j) (y := (0 : Int32)) h1).1) rfl ?_
  refine Go.iloadN (pc' := 5) C X0 d23_4 rfl rfl ?_
  refine Go.iloadN (pc' := 6) C X0 d23_5 rfl rfl ?_
  refine Go.icmpYes (pc' := 16) C X0 d23_6 (tlt (x := j) (y := n0) h2).1 (by decide) (by decide) ?_
  refine Go.iloadN (pc' := 17) C X0 d23_16 rfl rfl ?_
  exact Go.retI C X0 rfl d23_17 (by rw [e0]; exact ⟨rfl, rfl, rfl⟩) (by decide) (by decide)
theorem pd_5 : parseMethodDescriptor "(IILjava/util/function/BiFunction;)I" = some ⟨[.int, .int, (.object "java/util/function/BiFunction")], some .int⟩ := by decide +kernel
theorem pf_22 : plainFor (⟨"java/lang/String", "checkIndex", "(II)V"⟩ : MethodName) = true := plainFor_of_name (by first | (simp [plainName, overriddenIn]; done) | decide +kernel)
theorem d22_0 : decode jdk_42_method_155_code 0 = .ok (.iload_n 0, 1) := by decide +kernel
theorem d22_1 : decode jdk_42_method_155_code 1 = .ok (.iload_n 1, 1) := by decide +kernel
theorem d22_2 : decode jdk_42_method_155_code 2 = .ok (.getstatic 1053, 3) := by decide +kernel
theorem d22_5 : decode jdk_42_method_155_code 5 = .ok (.invokestatic 1059, 3) := by decide +kernel
theorem d22_8 : decode jdk_42_method_155_code 8 = .ok (.pop, 1) := by decide +kernel
theorem d22_9 : decode jdk_42_method_155_code 9 = .ok (.return_, 1) := by decide +kernel
def Q_cki (Z : State) (j : Int32) (n0 : Int32) (fm : Value) (h0 : Heap) (rv : Option Value) (h : Heap) (L : List Loc) : Prop := rv = none ∧ L = [] ∧ h = h0
set_option maxRecDepth 65536 in
set_option maxHeartbeats 40000000 in
theorem rm_cki (l : Launch) (Z : State) (a0 : Array Value) (hw : ∀ d ∈ tables_1, d.before a0 Z = true) (j : Int32) (n0 : Int32) (fm : Value) (h0 : Heap) (O0 : Ext Z.heap h0) (SF : Sta Z Z.heap "jdk/internal/util/Preconditions" "SIOOBE_FORMATTER" "Ljava/util/function/BiFunction;" fm) (h1 : ¬ j < (0 : Int32)) (h2 : j < n0) (hfm : fm.category = 1) :
    Met1 l Z (⟨"java/lang/String", "checkIndex", "(II)V"⟩ : MethodName) jdk_42_method_155_code 2 none ({ frames := 1, cells := 0, slots := 0, locals := 14 } : Room) #[(.int j), (.int n0)] h0 (Q_cki Z j n0 fm h0) := by
  refine Met1.of_body (Ls := #[.val (.int j), .val (.int n0)]) pf_22 (fun m => by first | (simp [entryFrame, mkF, argsToLocals, Value.category]; done) | rfl) ?_
  intro p e s m below meth c T0 C X0 e0
  have N0 : Fr Z.heap.size [] := Fr.nil _
  refine Go.iloadN (pc' := 1) C X0 d22_0 rfl rfl ?_
  refine Go.iloadN (pc' := 2) C X0 d22_1 rfl rfl ?_
  refine Go.getS (pc' := 5) (host := "") C X0 (Or.inl (tw hw 106 rfl)) Via.refl e0 (SF.ext O0) d22_2 rfl ?_
  intro T101 X101 e101
  refine Go.callS (y := (⟨"jdk/internal/util/Preconditions", "checkIndex", "(IILjava/util/function/BiFunction;)I"⟩ : MethodName)) (pc' := 8) C X101 (tw hw 108 rfl) (tw hw 109 rfl) (by decide) (rm_pci l Z a0 hw j n0 fm h0 O0 h1 h2 hfm) (tw hw 110 rfl) (tw hw 107 rfl) e101 (argsL := [(.int j), (.int n0), fm]) (rest := []) (W := 0) rfl rfl pd_5 rfl (Nat.le_of_eq rfl) rfl (by decide) (by decide) (by decide) (by decide) d22_5 rfl ?_
  intro T102 v102 L102 X102 q102
  obtain ⟨rfl, rfl, e102⟩ := q102
  have N102 := Fr.app N0 (Fr.nil _)
  refine Go.pop (pc' := 9) C X102 d22_8 rfl rfl ?_
  exact Go.retV C X102 rfl d22_9 (by rw [e102]; exact ⟨rfl, (by simp), rfl⟩) (by decide) (by decide)
theorem pd_6 : parseMethodDescriptor "(II)V" = some ⟨[.int, .int], none⟩ := by decide +kernel
theorem pf_21 : plainFor (⟨"java/lang/StringLatin1", "charAt", "([BI)C"⟩ : MethodName) = true := plainFor_of_name (by first | (simp [plainName, overriddenIn]; done) | decide +kernel)
theorem d21_0 : decode jdk_43_method_2_code 0 = .ok (.iload_n 1, 1) := by decide +kernel
theorem d21_1 : decode jdk_43_method_2_code 1 = .ok (.aload_n 0, 1) := by decide +kernel
theorem d21_2 : decode jdk_43_method_2_code 2 = .ok (.arraylength, 1) := by decide +kernel
theorem d21_3 : decode jdk_43_method_2_code 3 = .ok (.invokestatic 9, 3) := by decide +kernel
theorem d21_6 : decode jdk_43_method_2_code 6 = .ok (.aload_n 0, 1) := by decide +kernel
theorem d21_7 : decode jdk_43_method_2_code 7 = .ok (.iload_n 1, 1) := by decide +kernel
theorem d21_8 : decode jdk_43_method_2_code 8 = .ok (.baload, 1) := by decide +kernel
theorem d21_9 : decode jdk_43_method_2_code 9 = .ok (.sipush 255, 3) := by decide +kernel
theorem d21_12 : decode jdk_43_method_2_code 12 = .ok (.iand, 1) := by decide +kernel
theorem d21_13 : decode jdk_43_method_2_code 13 = .ok (.i2c, 1) := by decide +kernel
theorem d21_14 : decode jdk_43_method_2_code 14 = .ok (.ireturn, 1) := by decide +kernel
def Q_sca (Z : State) (v : Addr) (k : ClassId) (xs : List Int32) (j : Int32) (i : Nat) (x : Int32) (fm : Value) (n0 : Int32) (h0 : Heap) (rv : Option Value) (h : Heap) (L : List Loc) : Prop := rv = some (.int x) ∧ L = [] ∧ h = h0
set_option maxRecDepth 65536 in
set_option maxHeartbeats 40000000 in
theorem rm_sca (l : Launch) (Z : State) (a0 : Array Value) (hw : ∀ d ∈ tables_1, d.before a0 Z = true) (v : Addr) (k : ClassId) (xs : List Int32) (j : Int32) (i : Nat) (x : Int32) (fm : Value) (n0 : Int32) (h0 : Heap) (O0 : Ext Z.heap h0) (Bx : AL Z h0 v k .byte (by8 xs)) (SF : Sta Z Z.heap "jdk/internal/util/Preconditions" "SIOOBE_FORMATTER" "Ljava/util/function/BiFunction;" fm) (h1 : ¬ j < (0 : Int32)) (hji : j.toNatClampNeg = i) (hx : xs[i]? = some x) (hr : 0 ≤ x.toInt ∧ x.toInt ≤ 255) (h2 : j < n0) (hl : xs.length.toInt32 = n0) (hfm : fm.category = 1) :
    Met1 l Z (⟨"java/lang/StringLatin1", "charAt", "([BI)C"⟩ : MethodName) jdk_43_method_2_code 2 (some .char) ({ frames := 2, cells := 0, slots := 0, locals := 27 } : Room) #[(.ref v), (.int j)] h0 (Q_sca Z v k xs j i x fm n0 h0) := by
  refine Met1.of_body (Ls := #[.val (.ref v), .val (.int j)]) pf_21 (fun m => by first | (simp [entryFrame, mkF, argsToLocals, Value.category]; done) | rfl) ?_
  intro p e s m below meth c T0 C X0 e0
  have N0 : Fr Z.heap.size [] := Fr.nil _
  refine Go.iloadN (pc' := 1) C X0 d21_0 rfl rfl ?_
  refine Go.aloadN (pc' := 2) C X0 d21_1 rfl rfl rfl ?_
  refine Go.alen (z := n0) (pc' := 3) C X0 e0 Bx (by rw [by8_len]; exact hl) d21_2 rfl ?_
  refine Go.callS (y := (⟨"java/lang/String", "checkIndex", "(II)V"⟩ : MethodName)) (pc' := 6) C X0 (tw hw 103 rfl) (tw hw 104 rfl) (by decide) (rm_cki l Z a0 hw j n0 fm h0 O0 SF h1 h2 hfm) (tw hw 105 rfl) (tw hw 7 rfl) e0 (argsL := [(.int j), (.int n0)]) (rest := []) (W := 0) rfl rfl pd_6 rfl (Nat.le_of_eq rfl) rfl (by decide) (by decide) (by decide) (by decide) d21_3 rfl ?_
  intro T101 v101 L101 X101 q101
  obtain ⟨rfl, rfl, e101⟩ := q101
  have N101 := Fr.app N0 (Fr.nil _)
  refine Go.aloadN (pc' := 7) C X101 d21_6 rfl rfl rfl ?_
  refine Go.iloadN (pc' := 8) C X101 d21_7 rfl rfl ?_
  refine Go.ldB (i := i) (v := (.int x.toInt8.toInt32)) (pc' := 9) C X101 e101 Bx h1 hji (by8_get hx) d21_8 rfl ?_
  refine Go.sipush (z := (255 : Int32)) (pc' := 12) C X101 d21_9 rfl rfl ?_
  refine Go.iand (pc' := 13) C X101 d21_12 rfl ?_
  refine Go.i2c (pc' := 14) C X101 d21_13 rfl ?_
  exact Go.retN C X101 rfl d21_14 (by simp) (by rw [e101]; exact ⟨(cch hr), (by simp), rfl⟩) (by decide) (by decide)
theorem pd_7 : parseMethodDescriptor "()Z" = some ⟨[], some .boolean⟩ := by decide +kernel
theorem pd_8 : parseMethodDescriptor "([BI)C" = some ⟨[(.array .byte), .int], some .char⟩ := by decide +kernel
theorem pf_20 : plainFor (⟨"java/lang/String", "charAt", "(I)C"⟩ : MethodName) = true := plainFor_of_name (by first | (simp [plainName, overriddenIn]; done) | decide +kernel)
theorem d20_0 : decode jdk_42_method_56_code 0 = .ok (.aload_n 0, 1) := by decide +kernel
theorem d20_1 : decode jdk_42_method_56_code 1 = .ok (.invokevirtual 492, 3) := by decide +kernel
theorem d20_4 : decode jdk_42_method_56_code 4 = .ok (.ifCond .eq 12, 3) := by decide +kernel
theorem d20_7 : decode jdk_42_method_56_code 7 = .ok (.aload_n 0, 1) := by decide +kernel
theorem d20_8 : decode jdk_42_method_56_code 8 = .ok (.getfield 9, 3) := by decide +kernel
theorem d20_11 : decode jdk_42_method_56_code 11 = .ok (.iload_n 1, 1) := by decide +kernel
theorem d20_12 : decode jdk_42_method_56_code 12 = .ok (.invokestatic 495, 3) := by decide +kernel
theorem d20_15 : decode jdk_42_method_56_code 15 = .ok (.ireturn, 1) := by decide +kernel
def Q_chA (Z : State) (s1 : Addr) (cP : Int32) (v : Addr) (k : ClassId) (xs : List Int32) (j : Int32) (i : Nat) (x : Int32) (fm : Value) (n0 : Int32) (h0 : Heap) (rv : Option Value) (h : Heap) (L : List Loc) : Prop := rv = some (.int x) ∧ L = [] ∧ h = h0
set_option maxRecDepth 65536 in
set_option maxHeartbeats 40000000 in
theorem rm_chA (l : Launch) (Z : State) (a0 : Array Value) (hw : ∀ d ∈ tables_1, d.before a0 Z = true) (s1 : Addr) (cP : Int32) (v : Addr) (k : ClassId) (xs : List Int32) (j : Int32) (i : Nat) (x : Int32) (fm : Value) (n0 : Int32) (h0 : Heap) (O0 : Ext Z.heap h0) (E0 : Exa Z h0 s1 "java/lang/String") (Fv : Fld Z h0 s1 "java/lang/String" "value" "[B" (.ref v)) (Fc : Fld Z h0 s1 "java/lang/String" "coder" "B" (.int (0 : Int32))) (Bx : AL Z h0 v k .byte (by8 xs)) (SC : Sta Z Z.heap "java/lang/String" "COMPACT_STRINGS" "Z" (.int cP)) (SF : Sta Z Z.heap "jdk/internal/util/Preconditions" "SIOOBE_FORMATTER" "Ljava/util/function/BiFunction;" fm) (hP : ¬ cP = (0 : Int32)) (h1 : ¬ j < (0 : Int32)) (hji : j.toNatClampNeg = i) (hx : xs[i]? = some x) (hr : 0 ≤ x.toInt ∧ x.toInt ≤ 255) (h2 : j < n0) (hl : xs.length.toInt32 = n0) (hfm : fm.category = 1) :
    Met1 l Z (⟨"java/lang/String", "charAt", "(I)C"⟩ : MethodName) jdk_42_method_56_code 2 (some .char) ({ frames := 3, cells := 0, slots := 0, locals := 40 } : Room) #[(.ref s1), (.int j)] h0 (Q_chA Z s1 cP v k xs j i x fm n0 h0) := by
  refine Met1.of_body (Ls := #[.val (.ref s1), .val (.int j)]) pf_20 (fun m => by first | (simp [entryFrame, mkF, argsToLocals, Value.category]; done) | rfl) ?_
  intro p e s m below meth c T0 C X0 e0
  have N0 : Fr Z.heap.size [] := Fr.nil _
  refine Go.aloadN (pc' := 1) C X0 d20_0 rfl rfl rfl ?_
  refine Go.callV (y := (⟨"java/lang/String", "isLatin1", "()Z"⟩ : MethodName)) (z := (⟨"java/lang/String", "isLatin1", "()Z"⟩ : MethodName)) (a := s1) (pc' := 4) C X0 (tw hw 56 rfl) (tw hw 57 rfl) (notFace_at C.2.1 (tw hw 59 rfl)) (tw hw 59 rfl) (tw hw 58 rfl) E0 (by decide) (rm_isL l Z a0 hw s1 cP h0 O0 Fc SC hP) (tw hw 60 rfl) (tw hw 7 rfl) e0 (argsL := []) (rest := []) (W := 0) rfl rfl pd_7 rfl (Nat.le_of_eq rfl) rfl (by decide) (by decide) (by decide) (by decide) d20_1 rfl ?_
  intro T101 v101 L101 X101 q101
  obtain ⟨rfl, rfl, e101⟩ := q101
  have N101 := Fr.app N0 (Fr.nil _)
  refine Go.ifNo (pc' := 7) C X101 d20_4 ((if0 _ _).trans (feq (x := (1 : Int32)) (y := (0 : Int32)) (by decide)).1) rfl ?_
  refine Go.aloadN (pc' := 8) C X101 d20_7 rfl rfl rfl ?_
  refine Go.getF (pc' := 11) (host := "") C X101 (Or.inl (tw hw 25 rfl)) Via.refl e101 Fv d20_8 rfl ?_
  intro T103 X103 e103
  refine Go.iloadN (pc' := 12) C X103 d20_11 rfl rfl ?_
  refine Go.callS (y := (⟨"java/lang/StringLatin1", "charAt", "([BI)C"⟩ : MethodName)) (pc' := 15) C X103 (tw hw 100 rfl) (tw hw 101 rfl) (by decide) (rm_sca l Z a0 hw v k xs j i x fm n0 h0 O0 Bx SF h1 hji hx hr h2 hl hfm) (tw hw 102 rfl) (tw hw 63 rfl) e103 (argsL := [(.ref v), (.int j)]) (rest := []) (W := 0) rfl rfl pd_8 rfl (Nat.le_of_eq rfl) rfl (by decide) (by decide) (by decide) (by decide) d20_12 rfl ?_
  intro T104 v104 L104 X104 q104
  obtain ⟨rfl, rfl, e104⟩ := q104
  have N104 := Fr.app N101 (Fr.nil _)
  exact Go.retN C X104 rfl d20_15 (by simp) (by rw [e104]; exact ⟨(congrArg (fun z => some (Value.int z)) (narcr hr)), (by simp), rfl⟩) (by decide) (by decide)
theorem own_m5 (x : Int32) : ((x &&& (2147483647 : Int32)) % (5 : Int32)) = (0 : Int32) ∨ ((x &&& (2147483647 : Int32)) % (5 : Int32)) = (1 : Int32) ∨ ((x &&& (2147483647 : Int32)) % (5 : Int32)) = (2 : Int32) ∨ ((x &&& (2147483647 : Int32)) % (5 : Int32)) = (3 : Int32) ∨ ((x &&& (2147483647 : Int32)) % (5 : Int32)) = (4 : Int32) := by
  have h := c_mask x (2147483647 : Int32) 31 (by decide) (by decide)
  have q := (c_irem (x &&& (2147483647 : Int32)) (5 : Int32) 5 (by decide)).1 (by omega)
  simp only [← Int32.toInt_inj, Int32.reduceToInt]; omega
theorem all1 {P : Int32 → Prop} {a : Int32} (ha : P a) : ∀ x ∈ [a], P x := by
  intro y hy; simp only [List.mem_cons, List.not_mem_nil, or_false] at hy; rcases hy with rfl; assumption
theorem all2 {P : Int32 → Prop} {a b : Int32} (ha : P a) (hb : P b) : ∀ x ∈ [a, b], P x := by
  intro y hy; simp only [List.mem_cons, List.not_mem_nil, or_false] at hy; rcases hy with rfl | rfl <;> assumption
theorem all3 {P : Int32 → Prop} {a b c : Int32} (ha : P a) (hb : P b) (hc : P c) : ∀ x ∈ [a, b, c], P x := by
  intro y hy; simp only [List.mem_cons, List.not_mem_nil, or_false] at hy; rcases hy with rfl | rfl | rfl <;> assumption
theorem all4 {P : Int32 → Prop} {a b c d : Int32} (ha : P a) (hb : P b) (hc : P c) (hd : P d) : ∀ x ∈ [a, b, c, d], P x := by
  intro y hy; simp only [List.mem_cons, List.not_mem_nil, or_false] at hy; rcases hy with rfl | rfl | rfl | rfl <;> assumption
def Pr (x : Int32) : Prop := 32 ≤ x.toInt ∧ x.toInt ≤ 255 ∧ x.toInt ≠ 127
theorem Pr.lt {x : Int32} (h : Pr x) : ¬ x < (32 : Int32) := by rw [Int32.lt_iff_toInt_lt]; simp only [Int32.reduceToInt]; have := h.1; omega
theorem Pr.ne {x : Int32} (h : Pr x) : ¬ x = (127 : Int32) := fun e => h.2.2 (by rw [e]; rfl)
theorem Pr.n9 {x : Int32} (h : Pr x) : ¬ x = (9 : Int32) := fun e => by have := h.1; rw [e] at this; exact absurd this (by decide)
theorem Pr.r {x : Int32} (h : Pr x) : 0 ≤ x.toInt ∧ x.toInt ≤ 255 := ⟨by have := h.1; omega, h.2.1⟩
theorem Pr.g {x : Int32} (h : Pr x) (n : ¬ x = (32 : Int32)) : 33 ≤ x.toInt ∧ x.toInt ≤ 255 := by
  refine ⟨?_, h.2.1⟩
  have q : x.toInt ≠ 32 := fun e => n (Int32.toInt_inj.mp (by rw [e]; rfl))
  have := h.1; omega
theorem Pr.of {x : Int32} (h : 0 ≤ x.toInt ∧ x.toInt ≤ 255) (h1 : ¬ x < (32 : Int32)) (h2 : ¬ x = (127 : Int32)) : Pr x := by
  rw [Int32.lt_iff_toInt_lt] at h1; simp only [Int32.reduceToInt] at h1
  exact ⟨by omega, h.2, fun e => h2 (Int32.toInt_inj.mp (by rw [e]; rfl))⟩
theorem pf_8 : plainFor (⟨"com/example/tranche/tranche/NotationNamePinLaw", "isControl", "(C)Z"⟩ : MethodName) = true := plainFor_of_name (by first | (simp [plainName, overriddenIn]; done) | decide +kernel)
theorem d8_0 : decode method_3_code 0 = .ok (.iload_n 0, 1) := by decide +kernel
theorem d8_1 : decode method_3_code 1 = .ok (.bipush 32, 2) := by decide +kernel
theorem d8_3 : decode method_3_code 3 = .ok (.if_icmp .lt 9, 3) := by decide +kernel
theorem d8_6 : decode method_3_code 6 = .ok (.iload_n 0, 1) := by decide +kernel
theorem d8_7 : decode method_3_code 7 = .ok (.bipush 127, 2) := by decide +kernel
theorem d8_9 : decode method_3_code 9 = .ok (.if_icmp .ne 7, 3) := by decide +kernel
theorem d8_12 : decode method_3_code 12 = .ok (.iconst 1, 1) := by decide +kernel
theorem d8_13 : decode method_3_code 13 = .ok (.goto 4, 3) := by decide +kernel
theorem d8_16 : decode method_3_code 16 = .ok (.iconst 0, 1) := by decide +kernel
theorem d8_17 : decode method_3_code 17 = .ok (.ireturn, 1) := by decide +kernel
def Q_isc (Z : State) (x : Int32) (h0 : Heap) (rv : Option Value) (h : Heap) (L : List Loc) : Prop := ∃ r : Int32, rv = some (.int r) ∧ L = [] ∧ h = h0 ∧ (r = (0 : Int32) → Pr x)
set_option maxRecDepth 65536 in
set_option maxHeartbeats 40000000 in
theorem rm_isc (l : Launch) (Z : State) (a0 : Array Value) (hw : ∀ d ∈ tables_1, d.before a0 Z = true) (x : Int32) (h0 : Heap) (O0 : Ext Z.heap h0) (hr : 0 ≤ x.toInt ∧ x.toInt ≤ 255) :
    Met1 l Z (⟨"com/example/tranche/tranche/NotationNamePinLaw", "isControl", "(C)Z"⟩ : MethodName) method_3_code 1 (some .boolean) ({ frames := 0, cells := 0, slots := 0, locals := 0 } : Room) #[(.int x)] h0 (Q_isc Z x h0) := by
  refine Met1.of_body (Ls := #[.val (.int x)]) pf_8 (fun m => by first | (simp [entryFrame, mkF, argsToLocals, Value.category]; done) | rfl) ?_
  intro p e s m below meth c T0 C X0 e0
  have N0 : Fr Z.heap.size [] := Fr.nil _
  refine Go.iloadN (pc' := 1) C X0 d8_0 rfl rfl ?_
  refine Go.bipush (z := (32 : Int32)) (pc' := 3) C X0 d8_1 rfl rfl ?_
  by_cases hc3_101 : x < (32 : Int32)
  · refine Go.icmpYes (pc' := 12) C X0 d8_3 (tlt (x := x) (y := (32 : Int32)) hc3_101).1 (by decide) (by decide) ?_
    refine Go.iconst (z := (1 : Int32)) (pc' := 13) C X0 d8_12 rfl rfl ?_
    refine Go.goto (pc' := 17) C X0 d8_13 (by decide) (by decide) ?_
    exact Go.retN C X0 rfl d8_17 (by simp) (by rw [e0]; exact ⟨(1 : Int32), rfl, rfl, rfl, (fun q => absurd q (by decide))⟩) (by decide) (by decide)
  · refine Go.icmpNo (pc' := 6) C X0 d8_3 (flt (x := x) (y := (32 : Int32)) hc3_101).1 rfl ?_
    refine Go.iloadN (pc' := 7) C X0 d8_6 rfl rfl ?_
    refine Go.bipush (z := (127 : Int32)) (pc' := 9) C X0 d8_7 rfl rfl ?_
    by_cases hc9_102 : x = (127 : Int32)
    · refine Go.icmpNo (pc' := 12) C X0 d8_9 (teq (x := x) (y := (127 : Int32)) hc9_102).2 rfl ?_
      refine Go.iconst (z := (1 : Int32)) (pc' := 13) C X0 d8_12 rfl rfl ?_
      refine Go.goto (pc' := 17) C X0 d8_13 (by decide) (by decide) ?_
      exact Go.retN C X0 rfl d8_17 (by simp) (by rw [e0]; exact ⟨(1 : Int32), rfl, rfl, rfl, (fun q => absurd q (by decide))⟩) (by decide) (by decide)
    · refine Go.icmpYes (pc' := 16) C X0 d8_9 (feq (x := x) (y := (127 : Int32)) hc9_102).2 (by decide) (by decide) ?_
      refine Go.iconst (z := (0 : Int32)) (pc' := 17) C X0 d8_16 rfl rfl ?_
      exact Go.retN C X0 rfl d8_17 (by simp) (by rw [e0]; exact ⟨(0 : Int32), rfl, rfl, rfl, (fun _ => Pr.of hr hc3_101 hc9_102)⟩) (by decide) (by decide)
theorem pd_9 : parseMethodDescriptor "([C)V" = some ⟨[(.array .char)], none⟩ := by decide +kernel
theorem pf_1 : plainFor (⟨"com/example/tranche/tranche/NotationNamePinLaw", "text", "(ICCCC)Ljava/lang/String;"⟩ : MethodName) = true := plainFor_of_name (by first | (simp [plainName, overriddenIn]; done) | decide +kernel)
theorem d1_0 : decode method_4_code 0 = .ok (.iload_n 0, 1) := by decide +kernel
theorem d1_1 : decode method_4_code 1 = .ok (.ifCond .ne 14, 3) := by decide +kernel
theorem d1_15 : decode method_4_code 15 = .ok (.iload_n 0, 1) := by decide +kernel
theorem d1_16 : decode method_4_code 16 = .ok (.iconst 1, 1) := by decide +kernel
theorem d1_17 : decode method_4_code 17 = .ok (.if_icmp .ne 18, 3) := by decide +kernel
theorem d1_20 : decode method_4_code 20 = .ok (.new 26, 3) := by decide +kernel
theorem d1_23 : decode method_4_code 23 = .ok (.dup, 1) := by decide +kernel
theorem d1_24 : decode method_4_code 24 = .ok (.iconst 1, 1) := by decide +kernel
theorem d1_25 : decode method_4_code 25 = .ok (.newarray .char, 2) := by decide +kernel
theorem d1_27 : decode method_4_code 27 = .ok (.dup, 1) := by decide +kernel
theorem d1_28 : decode method_4_code 28 = .ok (.iconst 0, 1) := by decide +kernel
theorem d1_29 : decode method_4_code 29 = .ok (.iload_n 1, 1) := by decide +kernel
theorem d1_30 : decode method_4_code 30 = .ok (.castore, 1) := by decide +kernel
theorem d1_31 : decode method_4_code 31 = .ok (.invokespecial 28, 3) := by decide +kernel
theorem d1_34 : decode method_4_code 34 = .ok (.areturn, 1) := by decide +kernel
def Q_tx1 (Z : State) (x0 : Int32) (x1 : Int32) (x2 : Int32) (x3 : Int32) (cP : Int32) (h0 : Heap) (rv : Option Value) (h : Heap) (L : List Loc) : Prop := ∃ r : Addr, ∃ v : Addr, ∃ kv : ClassId, rv = some (.ref r) ∧ Fr Z.heap.size L ∧ Keep h0 h [] ∧ h0.size ≤ r ∧ h0.size ≤ v ∧ Exa Z h r "java/lang/String" ∧ Fld Z h r "java/lang/String" "value" "[B" (.ref v) ∧ Fld Z h r "java/lang/String" "coder" "B" (.int (0 : Int32)) ∧ AL Z h v kv .byte (by8 [x0])
set_option maxRecDepth 65536 in
set_option maxHeartbeats 40000000 in
theorem rm_tx1 (l : Launch) (Z : State) (a0 : Array Value) (hw : ∀ d ∈ tables_1, d.before a0 Z = true) (x0 : Int32) (x1 : Int32) (x2 : Int32) (x3 : Int32) (cP : Int32) (h0 : Heap) (O0 : Ext Z.heap h0) (SC : Sta Z Z.heap "java/lang/String" "COMPACT_STRINGS" "Z" (.int cP)) (hP : ¬ cP = (0 : Int32)) (hx0 : 0 ≤ x0.toInt ∧ x0.toInt ≤ 255) (hx1 : 0 ≤ x1.toInt ∧ x1.toInt ≤ 255) (hx2 : 0 ≤ x2.toInt ∧ x2.toInt ≤ 255) (hx3 : 0 ≤ x3.toInt ∧ x3.toInt ≤ 255) :
    Met1 l Z (⟨"com/example/tranche/tranche/NotationNamePinLaw", "text", "(ICCCC)Ljava/lang/String;"⟩ : MethodName) method_4_code 5 (some (.object "java/lang/String")) ({ frames := 4, cells := 3, slots := 9, locals := 66 } : Room) #[(.int (1 : Int32)), (.int x0), (.int x1), (.int x2), (.int x3)] h0 (Q_tx1 Z x0 x1 x2 x3 cP h0) := by
  refine Met1.of_body (Ls := #[.val (.int (1 : Int32)), .val (.int x0), .val (.int x1), .val (.int x2), .val (.int x3)]) pf_1 (fun m => by first | (simp [entryFrame, mkF, argsToLocals, Value.category]; done) | rfl) ?_
  intro p e s m below meth c T0 C X0 e0
  have N0 : Fr Z.heap.size [] := Fr.nil _
  refine Go.iloadN (pc' := 1) C X0 d1_0 rfl rfl ?_
  refine Go.ifYes (pc' := 15) C X0 d1_1 ((if0 _ _).trans (feq (x := (1 : Int32)) (y := (0 : Int32)) (by decide)).2) (by decide) (by decide) ?_
  refine Go.iloadN (pc' := 16) C X0 d1_15 rfl rfl ?_
  refine Go.iconst (z := (1 : Int32)) (pc' := 17) C X0 d1_16 rfl rfl ?_
  refine Go.icmpNo (pc' := 20) C X0 d1_17 (teq (x := (1 : Int32)) (y := (1 : Int32)) (by decide)).2 rfl ?_
  refine Go.newO (pc' := 23) C X0 (tw hw 5 rfl) (tw hw 6 rfl) (tw hw 7 rfl) e0 (by decide) (by decide) d1_20 rfl ?_
  intro T103 h103 b103 X103 e103 g103 E103 A103 D103
  have n_b103 : Z.heap.size ≤ b103 := Nat.le_trans O0.1 (Nat.le_of_eq g103.symm)
  have z_b103 : h0.size ≤ b103 := Nat.le_trans (Nat.le_refl _) (Nat.le_of_eq g103.symm)
  have F103_value : Fld Z h103 b103 "java/lang/String" "value" "[B" .null := D103 (Or.inr (tw hw 21 rfl)) (ty := (.array .byte)) (by decide)
  have F103_coder : Fld Z h103 b103 "java/lang/String" "coder" "B" (.int (0 : Int32)) := D103 (Or.inr (tw hw 22 rfl)) (ty := .byte) (by decide)
  refine Go.dup (pc' := 24) C X103 d1_23 rfl rfl ?_
  refine Go.iconst (z := (1 : Int32)) (pc' := 25) C X103 d1_24 rfl rfl ?_
  have O105 : Ext Z.heap h103 := (Ext.trans O0 E103)
  refine Go.newP (aty := .char) (cap := 1) (vs := [(.int (0 : Int32))]) (ad := "[C") (pc' := 27) C X103 (by decide) (tw hw 8 rfl) e103 (by decide) (by decide) (by decide) (by decide) (by decide) rfl d1_25 rfl ?_
  intro T104 h104 b104 k104 X104 e104 g104 E104 A104 Ea104
  have n_b104 : Z.heap.size ≤ b104 := Nat.le_trans O105.1 (Nat.le_of_eq g104.symm)
  have z_b104 : h0.size ≤ b104 := Nat.le_trans (Nat.le_trans (Nat.le_refl _) E103.1) (Nat.le_of_eq g104.symm)
  have A104 : AL Z h104 b104 k104 .char [(.int (0 : Int32))] := A104
  refine Go.dup (pc' := 28) C X104 d1_27 rfl rfl ?_
  refine Go.iconst (z := (0 : Int32)) (pc' := 29) C X104 d1_28 rfl rfl ?_
  refine Go.iloadN (pc' := 30) C X104 d1_29 rfl rfl ?_
  refine Go.stC (i := 0) (x' := x0) (vs' := [(.int x0)]) (pc' := 31) C X104 e104 A104 (by decide) (by decide) (by simp) (narcr hx0) rfl d1_30 rfl ?_
  intro T106 h106 X106 e106 W106 A106
  have N106 := Fr.snoc X106 N0 n_b104
  have c108 : Exa Z h106 b103 "java/lang/String" := (Exa.wr W106 (Exa.ext E104 A103))
  have ne109 : b103 ≠ b104 := Nat.ne_of_lt (Nat.lt_of_lt_of_le A103.lt (Nat.le_trans (Nat.le_refl _) (Nat.le_of_eq g104.symm)))
  have c110 : Fld Z h106 b103 "java/lang/String" "value" "[B" .null := (Fld.other W106 (Fld.ext E104 F103_value) (Or.inl ne109))
  have c111 : Fld Z h106 b103 "java/lang/String" "coder" "B" (.int (0 : Int32)) := (Fld.other W106 (Fld.ext E104 F103_coder) (Or.inl ne109))
  have O112 : Ext Z.heap h106 := (Ext.wr (Ext.trans O105 E104) W106 n_b104)
  refine Go.callI (y := (⟨"java/lang/String", "<init>", "([C)V"⟩ : MethodName)) (a := b103) (pc' := 34) C X106 rfl (tw hw 9 rfl) (tw hw 10 rfl) (by decide) (rm_sI1 l Z a0 hw b103 b104 k104 [x0] cP h106 O112 c108 c110 c111 (show AL Z h106 b104 k104 .char (ch16 [x0]) from A106) SC (all1 hx0) (show (1 : Nat) < 2 ^ 31 from by decide) (show (1 : Nat) ≤ 4 from by decide) (show ¬ (1 : Nat).toInt32 = (0 : Int32) from by decide) hP n_b103) (tw hw 11 rfl) (tw hw 7 rfl) e106 (argsL := [(.ref b104)]) (rest := [(.ref b103)]) (W := 1) rfl rfl pd_9 rfl (Nat.le_of_eq rfl) rfl (by decide) (by decide) (by decide) (by decide) rfl d1_31 rfl ?_
  intro T107 v107 L107 X107 q107
  obtain ⟨v_107, kv_107, rfl, N107q, K107, B107_0, P107_0, P107_1, P107_2⟩ := q107
  have N107 := Fr.app N106 N107q
  have n_v_107 : Z.heap.size ≤ v_107 := Nat.le_trans O112.1 B107_0
  have z_v_107 : h0.size ≤ v_107 := Nat.le_trans (Nat.le_trans (Nat.le_trans (Nat.le_trans (Nat.le_refl _) E103.1) E104.1) (Nat.le_of_eq W106.size.symm)) B107_0
  have K113 : Keep h0 T107.heap [] := (((((Keep.refl h0 []).ext E103).ext E104).wr W106 (Or.inr z_b104)).trans K107 (allS (Or.inr z_b103) all0))
  have c114 : Exa Z T107.heap b103 "java/lang/String" := (Exa.keep c108 K107)
  exact Go.retA C X107 rfl d1_34 rfl rfl rfl ⟨b103, v_107, kv_107, rfl, N107, K113, z_b103, z_v_107, c114, P107_0, P107_1, P107_2⟩ (by decide) (by decide)
theorem d1_35 : decode method_4_code 35 = .ok (.iload_n 0, 1) := by decide +kernel
theorem d1_36 : decode method_4_code 36 = .ok (.iconst 2, 1) := by decide +kernel
theorem d1_37 : decode method_4_code 37 = .ok (.if_icmp .ne 22, 3) := by decide +kernel
theorem d1_40 : decode method_4_code 40 = .ok (.new 26, 3) := by decide +kernel
theorem d1_43 : decode method_4_code 43 = .ok (.dup, 1) := by decide +kernel
theorem d1_44 : decode method_4_code 44 = .ok (.iconst 2, 1) := by decide +kernel
theorem d1_45 : decode method_4_code 45 = .ok (.newarray .char, 2) := by decide +kernel
theorem d1_47 : decode method_4_code 47 = .ok (.dup, 1) := by decide +kernel
theorem d1_48 : decode method_4_code 48 = .ok (.iconst 0, 1) := by decide +kernel
theorem d1_49 : decode method_4_code 49 = .ok (.iload_n 1, 1) := by decide +kernel
theorem d1_50 : decode method_4_code 50 = .ok (.castore, 1) := by decide +kernel
theorem d1_51 : decode method_4_code 51 = .ok (.dup, 1) := by decide +kernel
theorem d1_52 : decode method_4_code 52 = .ok (.iconst 1, 1) := by decide +kernel
theorem d1_53 : decode method_4_code 53 = .ok (.iload_n 2, 1) := by decide +kernel
theorem d1_54 : decode method_4_code 54 = .ok (.castore, 1) := by decide +kernel
theorem d1_55 : decode method_4_code 55 = .ok (.invokespecial 28, 3) := by decide +kernel
theorem d1_58 : decode method_4_code 58 = .ok (.areturn, 1) := by decide +kernel
def Q_tx2 (Z : State) (x0 : Int32) (x1 : Int32) (x2 : Int32) (x3 : Int32) (cP : Int32) (h0 : Heap) (rv : Option Value) (h : Heap) (L : List Loc) : Prop := ∃ r : Addr, ∃ v : Addr, ∃ kv : ClassId, rv = some (.ref r) ∧ Fr Z.heap.size L ∧ Keep h0 h [] ∧ h0.size ≤ r ∧ h0.size ≤ v ∧ Exa Z h r "java/lang/String" ∧ Fld Z h r "java/lang/String" "value" "[B" (.ref v) ∧ Fld Z h r "java/lang/String" "coder" "B" (.int (0 : Int32)) ∧ AL Z h v kv .byte (by8 [x0, x1])
set_option maxRecDepth 65536 in
set_option maxHeartbeats 40000000 in
theorem rm_tx2 (l : Launch) (Z : State) (a0 : Array Value) (hw : ∀ d ∈ tables_1, d.before a0 Z = true) (x0 : Int32) (x1 : Int32) (x2 : Int32) (x3 : Int32) (cP : Int32) (h0 : Heap) (O0 : Ext Z.heap h0) (SC : Sta Z Z.heap "java/lang/String" "COMPACT_STRINGS" "Z" (.int cP)) (hP : ¬ cP = (0 : Int32)) (hx0 : 0 ≤ x0.toInt ∧ x0.toInt ≤ 255) (hx1 : 0 ≤ x1.toInt ∧ x1.toInt ≤ 255) (hx2 : 0 ≤ x2.toInt ∧ x2.toInt ≤ 255) (hx3 : 0 ≤ x3.toInt ∧ x3.toInt ≤ 255) :
    Met1 l Z (⟨"com/example/tranche/tranche/NotationNamePinLaw", "text", "(ICCCC)Ljava/lang/String;"⟩ : MethodName) method_4_code 5 (some (.object "java/lang/String")) ({ frames := 4, cells := 3, slots := 10, locals := 66 } : Room) #[(.int (2 : Int32)), (.int x0), (.int x1), (.int x2), (.int x3)] h0 (Q_tx2 Z x0 x1 x2 x3 cP h0) := by
  refine Met1.of_body (Ls := #[.val (.int (2 : Int32)), .val (.int x0), .val (.int x1), .val (.int x2), .val (.int x3)]) pf_1 (fun m => by first | (simp [entryFrame, mkF, argsToLocals, Value.category]; done) | rfl) ?_
  intro p e s m below meth c T0 C X0 e0
  have N0 : Fr Z.heap.size [] := Fr.nil _
  refine Go.iloadN (pc' := 1) C X0 d1_0 rfl rfl ?_
  refine Go.ifYes (pc' := 15) C X0 d1_1 ((if0 _ _).trans (feq (x := (2 : Int32)) (y := (0 : Int32)) (by decide)).2) (by decide) (by decide) ?_
  refine Go.iloadN (pc' := 16) C X0 d1_15 rfl rfl ?_
  refine Go.iconst (z := (1 : Int32)) (pc' := 17) C X0 d1_16 rfl rfl ?_
  refine Go.icmpYes (pc' := 35) C X0 d1_17 (feq (x := (2 : Int32)) (y := (1 : Int32)) (by decide)).2 (by decide) (by decide) ?_
  refine Go.iloadN (pc' := 36) C X0 d1_35 rfl rfl ?_
  refine Go.iconst (z := (2 : Int32)) (pc' := 37) C X0 d1_36 rfl rfl ?_
  refine Go.icmpNo (pc' := 40) C X0 d1_37 (teq (x := (2 : Int32)) (y := (2 : Int32)) (by decide)).2 rfl ?_
  refine Go.newO (pc' := 43) C X0 (tw hw 5 rfl) (tw hw 6 rfl) (tw hw 7 rfl) e0 (by decide) (by decide) d1_40 rfl ?_
  intro T104 h104 b104 X104 e104 g104 E104 A104 D104
  have n_b104 : Z.heap.size ≤ b104 := Nat.le_trans O0.1 (Nat.le_of_eq g104.symm)
  have z_b104 : h0.size ≤ b104 := Nat.le_trans (Nat.le_refl _) (Nat.le_of_eq g104.symm)
  have F104_value : Fld Z h104 b104 "java/lang/String" "value" "[B" .null := D104 (Or.inr (tw hw 21 rfl)) (ty := (.array .byte)) (by decide)
  have F104_coder : Fld Z h104 b104 "java/lang/String" "coder" "B" (.int (0 : Int32)) := D104 (Or.inr (tw hw 22 rfl)) (ty := .byte) (by decide)
  refine Go.dup (pc' := 44) C X104 d1_43 rfl rfl ?_
  refine Go.iconst (z := (2 : Int32)) (pc' := 45) C X104 d1_44 rfl rfl ?_
  have O106 : Ext Z.heap h104 := (Ext.trans O0 E104)
  refine Go.newP (aty := .char) (cap := 2) (vs := [(.int (0 : Int32)), (.int (0 : Int32))]) (ad := "[C") (pc' := 47) C X104 (by decide) (tw hw 8 rfl) e104 (by decide) (by decide) (by decide) (by decide) (by decide) rfl d1_45 rfl ?_
  intro T105 h105 b105 k105 X105 e105 g105 E105 A105 Ea105
  have n_b105 : Z.heap.size ≤ b105 := Nat.le_trans O106.1 (Nat.le_of_eq g105.symm)
  have z_b105 : h0.size ≤ b105 := Nat.le_trans (Nat.le_trans (Nat.le_refl _) E104.1) (Nat.le_of_eq g105.symm)
  have A105 : AL Z h105 b105 k105 .char [(.int (0 : Int32)), (.int (0 : Int32))] := A105
  refine Go.dup (pc' := 48) C X105 d1_47 rfl rfl ?_
  refine Go.iconst (z := (0 : Int32)) (pc' := 49) C X105 d1_48 rfl rfl ?_
  refine Go.iloadN (pc' := 50) C X105 d1_49 rfl rfl ?_
  refine Go.stC (i := 0) (x' := x0) (vs' := [(.int x0), (.int (0 : Int32))]) (pc' := 51) C X105 e105 A105 (by decide) (by decide) (by simp) (narcr hx0) rfl d1_50 rfl ?_
  intro T107 h107 X107 e107 W107 A107
  have N107 := Fr.snoc X107 N0 n_b105
  refine Go.dup (pc' := 52) C X107 d1_51 rfl rfl ?_
  refine Go.iconst (z := (1 : Int32)) (pc' := 53) C X107 d1_52 rfl rfl ?_
  refine Go.iloadN (pc' := 54) C X107 d1_53 rfl rfl ?_
  refine Go.stC (i := 1) (x' := x1) (vs' := [(.int x0), (.int x1)]) (pc' := 55) C X107 e107 A107 (by decide) (by decide) (by simp) (narcr hx1) rfl d1_54 rfl ?_
  intro T108 h108 X108 e108 W108 A108
  have N108 := Fr.snoc X108 N107 n_b105
  have c110 : Exa Z h108 b104 "java/lang/String" := (Exa.wr W108 (Exa.wr W107 (Exa.ext E105 A104)))
  have ne111 : b104 ≠ b105 := Nat.ne_of_lt (Nat.lt_of_lt_of_le A104.lt (Nat.le_trans (Nat.le_refl _) (Nat.le_of_eq g105.symm)))
  have c112 : Fld Z h108 b104 "java/lang/String" "value" "[B" .null := (Fld.other W108 (Fld.other W107 (Fld.ext E105 F104_value) (Or.inl ne111)) (Or.inl ne111))
  have c113 : Fld Z h108 b104 "java/lang/String" "coder" "B" (.int (0 : Int32)) := (Fld.other W108 (Fld.other W107 (Fld.ext E105 F104_coder) (Or.inl ne111)) (Or.inl ne111))
  have O114 : Ext Z.heap h108 := (Ext.wr (Ext.wr (Ext.trans O106 E105) W107 n_b105) W108 n_b105)
  refine Go.callI (y := (⟨"java/lang/String", "<init>", "([C)V"⟩ : MethodName)) (a := b104) (pc' := 58) C X108 rfl (tw hw 9 rfl) (tw hw 10 rfl) (by decide) (rm_sI1 l Z a0 hw b104 b105 k105 ([x0, x1]) cP h108 O114 c110 c112 c113 (show AL Z h108 b105 k105 .char (ch16 [x0, x1]) from A108) SC (all2 hx0 hx1) (show (2 : Nat) < 2 ^ 31 from by decide) (show (2 : Nat) ≤ 4 from by decide) (show ¬ (2 : Nat).toInt32 = (0 : Int32) from by decide) hP n_b104) (tw hw 11 rfl) (tw hw 7 rfl) e108 (argsL := [(.ref b105)]) (rest := [(.ref b104)]) (W := 1) rfl rfl pd_9 rfl (Nat.le_of_eq rfl) rfl (by decide) (by decide) (by decide) (by decide) rfl d1_55 rfl ?_
  intro T109 v109 L109 X109 q109
  obtain ⟨v_109, kv_109, rfl, N109q, K109, B109_0, P109_0, P109_1, P109_2⟩ := q109
  have N109 := Fr.app N108 N109q
  have n_v_109 : Z.heap.size ≤ v_109 := Nat.le_trans O114.1 B109_0
  have z_v_109 : h0.size ≤ v_109 := Nat.le_trans (Nat.le_trans (Nat.le_trans (Nat.le_trans (Nat.le_trans (Nat.le_refl _) E104.1) E105.1) (Nat.le_of_eq W107.size.symm)) (Nat.le_of_eq W108.size.symm)) B109_0
  have K115 : Keep h0 T109.heap [] := ((((((Keep.refl h0 []).ext E104).ext E105).wr W107 (Or.inr z_b105)).wr W108 (Or.inr z_b105)).trans K109 (allS (Or.inr z_b104) all0))
  have c116 : Exa Z T109.heap b104 "java/lang/String" := (Exa.keep c110 K109)
  exact Go.retA C X109 rfl d1_58 rfl rfl rfl ⟨b104, v_109, kv_109, rfl, N109, K115, z_b104, z_v_109, c116, P109_0, P109_1, P109_2⟩ (by decide) (by decide)
theorem d1_59 : decode method_4_code 59 = .ok (.iload_n 0, 1) := by decide +kernel
theorem d1_60 : decode method_4_code 60 = .ok (.iconst 3, 1) := by decide +kernel
theorem d1_61 : decode method_4_code 61 = .ok (.if_icmp .ne 26, 3) := by decide +kernel
theorem d1_64 : decode method_4_code 64 = .ok (.new 26, 3) := by decide +kernel
theorem d1_67 : decode method_4_code 67 = .ok (.dup, 1) := by decide +kernel
theorem d1_68 : decode method_4_code 68 = .ok (.iconst 3, 1) := by decide +kernel
theorem d1_69 : decode method_4_code 69 = .ok (.newarray .char, 2) := by decide +kernel
theorem d1_71 : decode method_4_code 71 = .ok (.dup, 1) := by decide +kernel
theorem d1_72 : decode method_4_code 72 = .ok (.iconst 0, 1) := by decide +kernel
theorem d1_73 : decode method_4_code 73 = .ok (.iload_n 1, 1) := by decide +kernel
theorem d1_74 : decode method_4_code 74 = .ok (.castore, 1) := by decide +kernel
theorem d1_75 : decode method_4_code 75 = .ok (.dup, 1) := by decide +kernel
theorem d1_76 : decode method_4_code 76 = .ok (.iconst 1, 1) := by decide +kernel
theorem d1_77 : decode method_4_code 77 = .ok (.iload_n 2, 1) := by decide +kernel
theorem d1_78 : decode method_4_code 78 = .ok (.castore, 1) := by decide +kernel
theorem d1_79 : decode method_4_code 79 = .ok (.dup, 1) := by decide +kernel
theorem d1_80 : decode method_4_code 80 = .ok (.iconst 2, 1) := by decide +kernel
theorem d1_81 : decode method_4_code 81 = .ok (.iload_n 3, 1) := by decide +kernel
theorem d1_82 : decode method_4_code 82 = .ok (.castore, 1) := by decide +kernel
theorem d1_83 : decode method_4_code 83 = .ok (.invokespecial 28, 3) := by decide +kernel
theorem d1_86 : decode method_4_code 86 = .ok (.areturn, 1) := by decide +kernel
def Q_tx3 (Z : State) (x0 : Int32) (x1 : Int32) (x2 : Int32) (x3 : Int32) (cP : Int32) (h0 : Heap) (rv : Option Value) (h : Heap) (L : List Loc) : Prop := ∃ r : Addr, ∃ v : Addr, ∃ kv : ClassId, rv = some (.ref r) ∧ Fr Z.heap.size L ∧ Keep h0 h [] ∧ h0.size ≤ r ∧ h0.size ≤ v ∧ Exa Z h r "java/lang/String" ∧ Fld Z h r "java/lang/String" "value" "[B" (.ref v) ∧ Fld Z h r "java/lang/String" "coder" "B" (.int (0 : Int32)) ∧ AL Z h v kv .byte (by8 [x0, x1, x2])
set_option maxRecDepth 65536 in
set_option maxHeartbeats 40000000 in
theorem rm_tx3 (l : Launch) (Z : State) (a0 : Array Value) (hw : ∀ d ∈ tables_1, d.before a0 Z = true) (x0 : Int32) (x1 : Int32) (x2 : Int32) (x3 : Int32) (cP : Int32) (h0 : Heap) (O0 : Ext Z.heap h0) (SC : Sta Z Z.heap "java/lang/String" "COMPACT_STRINGS" "Z" (.int cP)) (hP : ¬ cP = (0 : Int32)) (hx0 : 0 ≤ x0.toInt ∧ x0.toInt ≤ 255) (hx1 : 0 ≤ x1.toInt ∧ x1.toInt ≤ 255) (hx2 : 0 ≤ x2.toInt ∧ x2.toInt ≤ 255) (hx3 : 0 ≤ x3.toInt ∧ x3.toInt ≤ 255) :
    Met1 l Z (⟨"com/example/tranche/tranche/NotationNamePinLaw", "text", "(ICCCC)Ljava/lang/String;"⟩ : MethodName) method_4_code 5 (some (.object "java/lang/String")) ({ frames := 4, cells := 3, slots := 11, locals := 66 } : Room) #[(.int (3 : Int32)), (.int x0), (.int x1), (.int x2), (.int x3)] h0 (Q_tx3 Z x0 x1 x2 x3 cP h0) := by
  refine Met1.of_body (Ls := #[.val (.int (3 : Int32)), .val (.int x0), .val (.int x1), .val (.int x2), .val (.int x3)]) pf_1 (fun m => by first | (simp [entryFrame, mkF, argsToLocals, Value.category]; done) | rfl) ?_
  intro p e s m below meth c T0 C X0 e0
  have N0 : Fr Z.heap.size [] := Fr.nil _
  refine Go.iloadN (pc' := 1) C X0 d1_0 rfl rfl ?_
  refine Go.ifYes (pc' := 15) C X0 d1_1 ((if0 _ _).trans (feq (x := (3 : Int32)) (y := (0 : Int32)) (by decide)).2) (by decide) (by decide) ?_
  refine Go.iloadN (pc' := 16) C X0 d1_15 rfl rfl ?_
  refine Go.iconst (z := (1 : Int32)) (pc' := 17) C X0 d1_16 rfl rfl ?_
  refine Go.icmpYes (pc' := 35) C X0 d1_17 (feq (x := (3 : Int32)) (y := (1 : Int32)) (by decide)).2 (by decide) (by decide) ?_
  refine Go.iloadN (pc' := 36) C X0 d1_35 rfl rfl ?_
  refine Go.iconst (z := (2 : Int32)) (pc' := 37) C X0 d1_36 rfl rfl ?_
  refine Go.icmpYes (pc' := 59) C X0 d1_37 (feq (x := (3 : Int32)) (y := (2 : Int32)) (by decide)).2 (by decide) (by decide) ?_
  refine Go.iloadN (pc' := 60) C X0 d1_59 rfl rfl ?_
  refine Go.iconst (z := (3 : Int32)) (pc' := 61) C X0 d1_60 rfl rfl ?_
  refine Go.icmpNo (pc' := 64) C X0 d1_61 (teq (x := (3 : Int32)) (y := (3 : Int32)) (by decide)).2 rfl ?_
  refine Go.newO (pc' := 67) C X0 (tw hw 5 rfl) (tw hw 6 rfl) (tw hw 7 rfl) e0 (by decide) (by decide) d1_64 rfl ?_
  intro T105 h105 b105 X105 e105 g105 E105 A105 D105
  have n_b105 : Z.heap.size ≤ b105 := Nat.le_trans O0.1 (Nat.le_of_eq g105.symm)
  have z_b105 : h0.size ≤ b105 := Nat.le_trans (Nat.le_refl _) (Nat.le_of_eq g105.symm)
  have F105_value : Fld Z h105 b105 "java/lang/String" "value" "[B" .null := D105 (Or.inr (tw hw 21 rfl)) (ty := (.array .byte)) (by decide)
  have F105_coder : Fld Z h105 b105 "java/lang/String" "coder" "B" (.int (0 : Int32)) := D105 (Or.inr (tw hw 22 rfl)) (ty := .byte) (by decide)
  refine Go.dup (pc' := 68) C X105 d1_67 rfl rfl ?_
  refine Go.iconst (z := (3 : Int32)) (pc' := 69) C X105 d1_68 rfl rfl ?_
  have O107 : Ext Z.heap h105 := (Ext.trans O0 E105)
  refine Go.newP (aty := .char) (cap := 3) (vs := [(.int (0 : Int32)), (.int (0 : Int32)), (.int (0 : Int32))]) (ad := "[C") (pc' := 71) C X105 (by decide) (tw hw 8 rfl) e105 (by decide) (by decide) (by decide) (by decide) (by decide) rfl d1_69 rfl ?_
  intro T106 h106 b106 k106 X106 e106 g106 E106 A106 Ea106
  have n_b106 : Z.heap.size ≤ b106 := Nat.le_trans O107.1 (Nat.le_of_eq g106.symm)
  have z_b106 : h0.size ≤ b106 := Nat.le_trans (Nat.le_trans (Nat.le_refl _) E105.1) (Nat.le_of_eq g106.symm)
  have A106 : AL Z h106 b106 k106 .char [(.int (0 : Int32)), (.int (0 : Int32)), (.int (0 : Int32))] := A106
  refine Go.dup (pc' := 72) C X106 d1_71 rfl rfl ?_
  refine Go.iconst (z := (0 : Int32)) (pc' := 73) C X106 d1_72 rfl rfl ?_
  refine Go.iloadN (pc' := 74) C X106 d1_73 rfl rfl ?_
  refine Go.stC (i := 0) (x' := x0) (vs' := [(.int x0), (.int (0 : Int32)), (.int (0 : Int32))]) (pc' := 75) C X106 e106 A106 (by decide) (by decide) (by simp) (narcr hx0) rfl d1_74 rfl ?_
  intro T108 h108 X108 e108 W108 A108
  have N108 := Fr.snoc X108 N0 n_b106
  refine Go.dup (pc' := 76) C X108 d1_75 rfl rfl ?_
  refine Go.iconst (z := (1 : Int32)) (pc' := 77) C X108 d1_76 rfl rfl ?_
  refine Go.iloadN (pc' := 78) C X108 d1_77 rfl rfl ?_
  refine Go.stC (i := 1) (x' := x1) (vs' := [(.int x0), (.int x1), (.int (0 : Int32))]) (pc' := 79) C X108 e108 A108 (by decide) (by decide) (by simp) (narcr hx1) rfl d1_78 rfl ?_
  intro T109 h109 X109 e109 W109 A109
  have N109 := Fr.snoc X109 N108 n_b106
  refine Go.dup (pc' := 80) C X109 d1_79 rfl rfl ?_
  refine Go.iconst (z := (2 : Int32)) (pc' := 81) C X109 d1_80 rfl rfl ?_
  refine Go.iloadN (pc' := 82) C X109 d1_81 rfl rfl ?_
  refine Go.stC (i := 2) (x' := x2) (vs' := [(.int x0), (.int x1), (.int x2)]) (pc' := 83) C X109 e109 A109 (by decide) (by decide) (by simp) (narcr hx2) rfl d1_82 rfl ?_
  intro T110 h110 X110 e110 W110 A110
  have N110 := Fr.snoc X110 N109 n_b106
  have c112 : Exa Z h110 b105 "java/lang/String" := (Exa.wr W110 (Exa.wr W109 (Exa.wr W108 (Exa.ext E106 A105))))
  have ne113 : b105 ≠ b106 := Nat.ne_of_lt (Nat.lt_of_lt_of_le A105.lt (Nat.le_trans (Nat.le_refl _) (Nat.le_of_eq g106.symm)))
  have c114 : Fld Z h110 b105 "java/lang/String" "value" "[B" .null := (Fld.other W110 (Fld.other W109 (Fld.other W108 (Fld.ext E106 F105_value) (Or.inl ne113)) (Or.inl ne113)) (Or.inl ne113))
  have c115 : Fld Z h110 b105 "java/lang/String" "coder" "B" (.int (0 : Int32)) := (Fld.other W110 (Fld.other W109 (Fld.other W108 (Fld.ext E106 F105_coder) (Or.inl ne113)) (Or.inl ne113)) (Or.inl ne113))
  have O116 : Ext Z.heap h110 := (Ext.wr (Ext.wr (Ext.wr (Ext.trans O107 E106) W108 n_b106) W109 n_b106) W110 n_b106)
  refine Go.callI (y := (⟨"java/lang/String", "<init>", "([C)V"⟩ : MethodName)) (a := b105) (pc' := 86) C X110 rfl (tw hw 9 rfl) (tw hw 10 rfl) (by decide) (rm_sI1 l Z a0 hw b105 b106 k106 ([x0, x1, x2]) cP h110 O116 c112 c114 c115 (show AL Z h110 b106 k106 .char (ch16 [x0, x1, x2]) from A110) SC (all3 hx0 hx1 hx2) (show (3 : Nat) < 2 ^ 31 from by decide) (show (3 : Nat) ≤ 4 from by decide) (show ¬ (3 : Nat).toInt32 = (0 : Int32) from by decide) hP n_b105) (tw hw 11 rfl) (tw hw 7 rfl) e110 (argsL := [(.ref b106)]) (rest := [(.ref b105)]) (W := 1) rfl rfl pd_9 rfl (Nat.le_of_eq rfl) rfl (by decide) (by decide) (by decide) (by decide) rfl d1_83 rfl ?_
  intro T111 v111 L111 X111 q111
  obtain ⟨v_111, kv_111, rfl, N111q, K111, B111_0, P111_0, P111_1, P111_2⟩ := q111
  have N111 := Fr.app N110 N111q
  have n_v_111 : Z.heap.size ≤ v_111 := Nat.le_trans O116.1 B111_0
  have z_v_111 : h0.size ≤ v_111 := Nat.le_trans (Nat.le_trans (Nat.le_trans (Nat.le_trans (Nat.le_trans (Nat.le_trans (Nat.le_refl _) E105.1) E106.1) (Nat.le_of_eq W108.size.symm)) (Nat.le_of_eq W109.size.symm)) (Nat.le_of_eq W110.size.symm)) B111_0
  have K117 : Keep h0 T111.heap [] := (((((((Keep.refl h0 []).ext E105).ext E106).wr W108 (Or.inr z_b106)).wr W109 (Or.inr z_b106)).wr W110 (Or.inr z_b106)).trans K111 (allS (Or.inr z_b105) all0))
  have c118 : Exa Z T111.heap b105 "java/lang/String" := (Exa.keep c112 K111)
  exact Go.retA C X111 rfl d1_86 rfl rfl rfl ⟨b105, v_111, kv_111, rfl, N111, K117, z_b105, z_v_111, c118, P111_0, P111_1, P111_2⟩ (by decide) (by decide)
theorem d1_87 : decode method_4_code 87 = .ok (.new 26, 3) := by decide +kernel
theorem d1_90 : decode method_4_code 90 = .ok (.dup, 1) := by decide +kernel
theorem d1_91 : decode method_4_code 91 = .ok (.iconst 4, 1) := by decide +kernel
theorem d1_92 : decode method_4_code 92 = .ok (.newarray .char, 2) := by decide +kernel
theorem d1_94 : decode method_4_code 94 = .ok (.dup, 1) := by decide +kernel
theorem d1_95 : decode method_4_code 95 = .ok (.iconst 0, 1) := by decide +kernel
theorem d1_96 : decode method_4_code 96 = .ok (.iload_n 1, 1) := by decide +kernel
theorem d1_97 : decode method_4_code 97 = .ok (.castore, 1) := by decide +kernel
theorem d1_98 : decode method_4_code 98 = .ok (.dup, 1) := by decide +kernel
theorem d1_99 : decode method_4_code 99 = .ok (.iconst 1, 1) := by decide +kernel
theorem d1_100 : decode method_4_code 100 = .ok (.iload_n 2, 1) := by decide +kernel
theorem d1_101 : decode method_4_code 101 = .ok (.castore, 1) := by decide +kernel
theorem d1_102 : decode method_4_code 102 = .ok (.dup, 1) := by decide +kernel
theorem d1_103 : decode method_4_code 103 = .ok (.iconst 2, 1) := by decide +kernel
theorem d1_104 : decode method_4_code 104 = .ok (.iload_n 3, 1) := by decide +kernel
theorem d1_105 : decode method_4_code 105 = .ok (.castore, 1) := by decide +kernel
theorem d1_106 : decode method_4_code 106 = .ok (.dup, 1) := by decide +kernel
theorem d1_107 : decode method_4_code 107 = .ok (.iconst 3, 1) := by decide +kernel
theorem d1_108 : decode method_4_code 108 = .ok (.iload 4, 2) := by decide +kernel
theorem d1_110 : decode method_4_code 110 = .ok (.castore, 1) := by decide +kernel
theorem d1_111 : decode method_4_code 111 = .ok (.invokespecial 28, 3) := by decide +kernel
theorem d1_114 : decode method_4_code 114 = .ok (.areturn, 1) := by decide +kernel
def Q_tx4 (Z : State) (x0 : Int32) (x1 : Int32) (x2 : Int32) (x3 : Int32) (cP : Int32) (h0 : Heap) (rv : Option Value) (h : Heap) (L : List Loc) : Prop := ∃ r : Addr, ∃ v : Addr, ∃ kv : ClassId, rv = some (.ref r) ∧ Fr Z.heap.size L ∧ Keep h0 h [] ∧ h0.size ≤ r ∧ h0.size ≤ v ∧ Exa Z h r "java/lang/String" ∧ Fld Z h r "java/lang/String" "value" "[B" (.ref v) ∧ Fld Z h r "java/lang/String" "coder" "B" (.int (0 : Int32)) ∧ AL Z h v kv .byte (by8 [x0, x1, x2, x3])
set_option maxRecDepth 65536 in
set_option maxHeartbeats 40000000 in
theorem rm_tx4 (l : Launch) (Z : State) (a0 : Array Value) (hw : ∀ d ∈ tables_1, d.before a0 Z = true) (x0 : Int32) (x1 : Int32) (x2 : Int32) (x3 : Int32) (cP : Int32) (h0 : Heap) (O0 : Ext Z.heap h0) (SC : Sta Z Z.heap "java/lang/String" "COMPACT_STRINGS" "Z" (.int cP)) (hP : ¬ cP = (0 : Int32)) (hx0 : 0 ≤ x0.toInt ∧ x0.toInt ≤ 255) (hx1 : 0 ≤ x1.toInt ∧ x1.toInt ≤ 255) (hx2 : 0 ≤ x2.toInt ∧ x2.toInt ≤ 255) (hx3 : 0 ≤ x3.toInt ∧ x3.toInt ≤ 255) :
    Met1 l Z (⟨"com/example/tranche/tranche/NotationNamePinLaw", "text", "(ICCCC)Ljava/lang/String;"⟩ : MethodName) method_4_code 5 (some (.object "java/lang/String")) ({ frames := 4, cells := 3, slots := 12, locals := 66 } : Room) #[(.int (4 : Int32)), (.int x0), (.int x1), (.int x2), (.int x3)] h0 (Q_tx4 Z x0 x1 x2 x3 cP h0) := by
  refine Met1.of_body (Ls := #[.val (.int (4 : Int32)), .val (.int x0), .val (.int x1), .val (.int x2), .val (.int x3)]) pf_1 (fun m => by first | (simp [entryFrame, mkF, argsToLocals, Value.category]; done) | rfl) ?_
  intro p e s m below meth c T0 C X0 e0
  have N0 : Fr Z.heap.size [] := Fr.nil _
  refine Go.iloadN (pc' := 1) C X0 d1_0 rfl rfl ?_
  refine Go.ifYes (pc' := 15) C X0 d1_1 ((if0 _ _).trans (feq (x := (4 : Int32)) (y := (0 : Int32)) (by decide)).2) (by decide) (by decide) ?_
  refine Go.iloadN (pc' := 16) C X0 d1_15 rfl rfl ?_
  refine Go.iconst (z := (1 : Int32)) (pc' := 17) C X0 d1_16 rfl rfl ?_
  refine Go.icmpYes (pc' := 35) C X0 d1_17 (feq (x := (4 : Int32)) (y := (1 : Int32)) (by decide)).2 (by decide) (by decide) ?_
  refine Go.iloadN (pc' := 36) C X0 d1_35 rfl rfl ?_
  refine Go.iconst (z := (2 : Int32)) (pc' := 37) C X0 d1_36 rfl rfl ?_
  refine Go.icmpYes (pc' := 59) C X0 d1_37 (feq (x := (4 : Int32)) (y := (2 : Int32)) (by decide)).2 (by decide) (by decide) ?_
  refine Go.iloadN (pc' := 60) C X0 d1_59 rfl rfl ?_
  refine Go.iconst (z := (3 : Int32)) (pc' := 61) C X0 d1_60 rfl rfl ?_
  refine Go.icmpYes (pc' := 87) C X0 d1_61 (feq (x := (4 : Int32)) (y := (3 : Int32)) (by decide)).2 (by decide) (by decide) ?_
  refine Go.newO (pc' := 90) C X0 (tw hw 5 rfl) (tw hw 6 rfl) (tw hw 7 rfl) e0 (by decide) (by decide) d1_87 rfl ?_
  intro T105 h105 b105 X105 e105 g105 E105 A105 D105
  have n_b105 : Z.heap.size ≤ b105 := Nat.le_trans O0.1 (Nat.le_of_eq g105.symm)
  have z_b105 : h0.size ≤ b105 := Nat.le_trans (Nat.le_refl _) (Nat.le_of_eq g105.symm)
  have F105_value : Fld Z h105 b105 "java/lang/String" "value" "[B" .null := D105 (Or.inr (tw hw 21 rfl)) (ty := (.array .byte)) (by decide)
  have F105_coder : Fld Z h105 b105 "java/lang/String" "coder" "B" (.int (0 : Int32)) := D105 (Or.inr (tw hw 22 rfl)) (ty := .byte) (by decide)
  refine Go.dup (pc' := 91) C X105 d1_90 rfl rfl ?_
  refine Go.iconst (z := (4 : Int32)) (pc' := 92) C X105 d1_91 rfl rfl ?_
  have O107 : Ext Z.heap h105 := (Ext.trans O0 E105)
  refine Go.newP (aty := .char) (cap := 4) (vs := [(.int (0 : Int32)), (.int (0 : Int32)), (.int (0 : Int32)), (.int (0 : Int32))]) (ad := "[C") (pc' := 94) C X105 (by decide) (tw hw 8 rfl) e105 (by decide) (by decide) (by decide) (by decide) (by decide) rfl d1_92 rfl ?_
  intro T106 h106 b106 k106 X106 e106 g106 E106 A106 Ea106
  have n_b106 : Z.heap.size ≤ b106 := Nat.le_trans O107.1 (Nat.le_of_eq g106.symm)
  have z_b106 : h0.size ≤ b106 := Nat.le_trans (Nat.le_trans (Nat.le_refl _) E105.1) (Nat.le_of_eq g106.symm)
  have A106 : AL Z h106 b106 k106 .char [(.int (0 : Int32)), (.int (0 : Int32)), (.int (0 : Int32)), (.int (0 : Int32))] := A106
  refine Go.dup (pc' := 95) C X106 d1_94 rfl rfl ?_
  refine Go.iconst (z := (0 : Int32)) (pc' := 96) C X106 d1_95 rfl rfl ?_
  refine Go.iloadN (pc' := 97) C X106 d1_96 rfl rfl ?_
  refine Go.stC (i := 0) (x' := x0) (vs' := [(.int x0), (.int (0 : Int32)), (.int (0 : Int32)), (.int (0 : Int32))]) (pc' := 98) C X106 e106 A106 (by decide) (by decide) (by simp) (narcr hx0) rfl d1_97 rfl ?_
  intro T108 h108 X108 e108 W108 A108
  have N108 := Fr.snoc X108 N0 n_b106
  refine Go.dup (pc' := 99) C X108 d1_98 rfl rfl ?_
  refine Go.iconst (z := (1 : Int32)) (pc' := 100) C X108 d1_99 rfl rfl ?_
  refine Go.iloadN (pc' := 101) C X108 d1_100 rfl rfl ?_
  refine Go.stC (i := 1) (x' := x1) (vs' := [(.int x0), (.int x1), (.int (0 : Int32)), (.int (0 : Int32))]) (pc' := 102) C X108 e108 A108 (by decide) (by decide) (by simp) (narcr hx1) rfl d1_101 rfl ?_
  intro T109 h109 X109 e109 W109 A109
  have N109 := Fr.snoc X109 N108 n_b106
  refine Go.dup (pc' := 103) C X109 d1_102 rfl rfl ?_
  refine Go.iconst (z := (2 : Int32)) (pc' := 104) C X109 d1_103 rfl rfl ?_
  refine Go.iloadN (pc' := 105) C X109 d1_104 rfl rfl ?_
  refine Go.stC (i := 2) (x' := x2) (vs' := [(.int x0), (.int x1), (.int x2), (.int (0 : Int32))]) (pc' := 106) C X109 e109 A109 (by decide) (by decide) (by simp) (narcr hx2) rfl d1_105 rfl ?_
  intro T110 h110 X110 e110 W110 A110
  have N110 := Fr.snoc X110 N109 n_b106
  refine Go.dup (pc' := 107) C X110 d1_106 rfl rfl ?_
  refine Go.iconst (z := (3 : Int32)) (pc' := 108) C X110 d1_107 rfl rfl ?_
  refine Go.iload (pc' := 110) C X110 d1_108 rfl rfl ?_
  refine Go.stC (i := 3) (x' := x3) (vs' := [(.int x0), (.int x1), (.int x2), (.int x3)]) (pc' := 111) C X110 e110 A110 (by decide) (by decide) (by simp) (narcr hx3) rfl d1_110 rfl ?_
  intro T111 h111 X111 e111 W111 A111
  have N111 := Fr.snoc X111 N110 n_b106
  have c113 : Exa Z h111 b105 "java/lang/String" := (Exa.wr W111 (Exa.wr W110 (Exa.wr W109 (Exa.wr W108 (Exa.ext E106 A105)))))
  have ne114 : b105 ≠ b106 := Nat.ne_of_lt (Nat.lt_of_lt_of_le A105.lt (Nat.le_trans (Nat.le_refl _) (Nat.le_of_eq g106.symm)))
  have c115 : Fld Z h111 b105 "java/lang/String" "value" "[B" .null := (Fld.other W111 (Fld.other W110 (Fld.other W109 (Fld.other W108 (Fld.ext E106 F105_value) (Or.inl ne114)) (Or.inl ne114)) (Or.inl ne114)) (Or.inl ne114))
  have c116 : Fld Z h111 b105 "java/lang/String" "coder" "B" (.int (0 : Int32)) := (Fld.other W111 (Fld.other W110 (Fld.other W109 (Fld.other W108 (Fld.ext E106 F105_coder) (Or.inl ne114)) (Or.inl ne114)) (Or.inl ne114)) (Or.inl ne114))
  have O117 : Ext Z.heap h111 := (Ext.wr (Ext.wr (Ext.wr (Ext.wr (Ext.trans O107 E106) W108 n_b106) W109 n_b106) W110 n_b106) W111 n_b106)
  refine Go.callI (y := (⟨"java/lang/String", "<init>", "([C)V"⟩ : MethodName)) (a := b105) (pc' := 114) C X111 rfl (tw hw 9 rfl) (tw hw 10 rfl) (by decide) (rm_sI1 l Z a0 hw b105 b106 k106 ([x0, x1, x2, x3]) cP h111 O117 c113 c115 c116 (show AL Z h111 b106 k106 .char (ch16 [x0, x1, x2, x3]) from A111) SC (all4 hx0 hx1 hx2 hx3) (show (4 : Nat) < 2 ^ 31 from by decide) (show (4 : Nat) ≤ 4 from by decide) (show ¬ (4 : Nat).toInt32 = (0 : Int32) from by decide) hP n_b105) (tw hw 11 rfl) (tw hw 7 rfl) e111 (argsL := [(.ref b106)]) (rest := [(.ref b105)]) (W := 1) rfl rfl pd_9 rfl (Nat.le_of_eq rfl) rfl (by decide) (by decide) (by decide) (by decide) rfl d1_111 rfl ?_
  intro T112 v112 L112 X112 q112
  obtain ⟨v_112, kv_112, rfl, N112q, K112, B112_0, P112_0, P112_1, P112_2⟩ := q112
  have N112 := Fr.app N111 N112q
  have n_v_112 : Z.heap.size ≤ v_112 := Nat.le_trans O117.1 B112_0
  have z_v_112 : h0.size ≤ v_112 := Nat.le_trans (Nat.le_trans (Nat.le_trans (Nat.le_trans (Nat.le_trans (Nat.le_trans (Nat.le_trans (Nat.le_refl _) E105.1) E106.1) (Nat.le_of_eq W108.size.symm)) (Nat.le_of_eq W109.size.symm)) (Nat.le_of_eq W110.size.symm)) (Nat.le_of_eq W111.size.symm)) B112_0
  have K118 : Keep h0 T112.heap [] := ((((((((Keep.refl h0 []).ext E105).ext E106).wr W108 (Or.inr z_b106)).wr W109 (Or.inr z_b106)).wr W110 (Or.inr z_b106)).wr W111 (Or.inr z_b106)).trans K112 (allS (Or.inr z_b105) all0))
  have c119 : Exa Z T112.heap b105 "java/lang/String" := (Exa.keep c113 K112)
  exact Go.retA C X112 rfl d1_114 rfl rfl rfl ⟨b105, v_112, kv_112, rfl, N112, K118, z_b105, z_v_112, c119, P112_0, P112_1, P112_2⟩ (by decide) (by decide)
theorem d1_4 : decode method_4_code 4 = .ok (.new 26, 3) := by decide +kernel
theorem d1_7 : decode method_4_code 7 = .ok (.dup, 1) := by decide +kernel
theorem d1_8 : decode method_4_code 8 = .ok (.iconst 0, 1) := by decide +kernel
theorem d1_9 : decode method_4_code 9 = .ok (.newarray .char, 2) := by decide +kernel
theorem d1_11 : decode method_4_code 11 = .ok (.invokespecial 28, 3) := by decide +kernel
theorem d1_14 : decode method_4_code 14 = .ok (.areturn, 1) := by decide +kernel
def Q_tx0 (Z : State) (x0 : Int32) (x1 : Int32) (x2 : Int32) (x3 : Int32) (h0 : Heap) (rv : Option Value) (h : Heap) (L : List Loc) : Prop := ∃ r : Addr, rv = some (.ref r) ∧ Fr Z.heap.size L ∧ Keep h0 h [] ∧ h0.size ≤ r ∧ Exa Z h r "java/lang/String"
set_option maxRecDepth 65536 in
set_option maxHeartbeats 40000000 in
theorem rm_tx0 (l : Launch) (Z : State) (a0 : Array Value) (hw : ∀ d ∈ tables_1, d.before a0 Z = true) (x0 : Int32) (x1 : Int32) (x2 : Int32) (x3 : Int32) (h0 : Heap) (O0 : Ext Z.heap h0) :
    Met1H consts_1 [] l Z (⟨"com/example/tranche/tranche/NotationNamePinLaw", "text", "(ICCCC)Ljava/lang/String;"⟩ : MethodName) method_4_code 5 (some (.object "java/lang/String")) ({ frames := 3, cells := 6, slots := 12, locals := 43 } : Room) #[(.int (0 : Int32)), (.int x0), (.int x1), (.int x2), (.int x3)] h0 (Q_tx0 Z x0 x1 x2 x3 h0) := by
  refine Met1H.of_body (Ls := #[.val (.int (0 : Int32)), .val (.int x0), .val (.int x1), .val (.int x2), .val (.int x3)]) pf_1 (fun m => by first | (simp [entryFrame, mkF, argsToLocals, Value.category]; done) | rfl) ?_
  intro p e s m below meth c T0 C X0 e0 hH0 hsf0
  have Hr0 := CHr.refl hH0
  have N0 : Fr Z.heap.size [] := Fr.nil _
  have Si0 : Sin s s h0 := Sin.start s h0
  refine Go.iloadN (pc' := 1) C X0 d1_0 rfl rfl ?_
  refine Go.ifNo (pc' := 4) C X0 d1_1 ((if0 _ _).trans (teq (x := (0 : Int32)) (y := (0 : Int32)) (by decide)).2) rfl ?_
  refine Go.newO (pc' := 7) C X0 (tw hw 5 rfl) (tw hw 6 rfl) (tw hw 7 rfl) e0 (by decide) (by decide) d1_4 rfl ?_
  intro T102 h102 b102 X102 e102 g102 E102 A102 D102
  have Hr103 := CHr.trans Hr0 (CHr.ext E102 Hr0.1)
  have n_b102 : Z.heap.size ≤ b102 := Nat.le_trans O0.1 (Nat.le_of_eq g102.symm)
  have z_b102 : h0.size ≤ b102 := Nat.le_trans (Nat.le_refl _) (Nat.le_of_eq g102.symm)
  have s_b102 : Safe Z consts_1 s.vm h102 b102 := Safe.ext E102 Hr0.1 (Safe.new (Nat.le_of_eq g102.symm))
  have F102_value : Fld Z h102 b102 "java/lang/String" "value" "[B" .null := D102 (Or.inr (tw hw 21 rfl)) (ty := (.array .byte)) (by decide)
  have F102_coder : Fld Z h102 b102 "java/lang/String" "coder" "B" (.int (0 : Int32)) := D102 (Or.inr (tw hw 22 rfl)) (ty := .byte) (by decide)
  refine Go.dup (pc' := 8) C X102 d1_7 rfl rfl ?_
  refine Go.iconst (z := (0 : Int32)) (pc' := 9) C X102 d1_8 rfl rfl ?_
  have O105 : Ext Z.heap h102 := (Ext.trans O0 E102)
  refine Go.newP (aty := .char) (cap := 0) (vs := []) (ad := "[C") (pc' := 11) C X102 (by decide) (tw hw 8 rfl) e102 (by decide) (by decide) (by decide) (by decide) (by decide) rfl d1_9 rfl ?_
  intro T104 h104 b104 k104 X104 e104 g104 E104 A104 Ea104
  have Hr106 := CHr.trans Hr103 (CHr.ext E104 Hr103.1)
  have n_b104 : Z.heap.size ≤ b104 := Nat.le_trans O105.1 (Nat.le_of_eq g104.symm)
  have z_b104 : h0.size ≤ b104 := Nat.le_trans (Nat.le_trans (Nat.le_refl _) E102.1) (Nat.le_of_eq g104.symm)
  have s_b104 : Safe Z consts_1 s.vm h104 b104 := Safe.ext E104 Hr103.1 (Safe.new (Nat.le_of_eq g104.symm))
  have A104 : AL Z h104 b104 k104 .char [] := A104
  have c108 : Exa Z h104 b102 "java/lang/String" := (Exa.ext E104 A102)
  have c109 : Fld Z h104 b102 "java/lang/String" "value" "[B" .null := (Fld.ext E104 F102_value)
  have c110 : Fld Z h104 b102 "java/lang/String" "coder" "B" (.int (0 : Int32)) := (Fld.ext E104 F102_coder)
  have O111 : Ext Z.heap h104 := (Ext.trans O105 E104)
  have Si112 : Sin s s h104 := Sin.mono Si0 (Nat.le_trans (Nat.le_trans (Nat.le_refl _) E102.1) E104.1)
  have sa113 : Safe Z consts_1 s.vm h104 b102 := (Safe.ext E104 Hr103.1 s_b102)
  refine Go.callIH (y := (⟨"java/lang/String", "<init>", "([C)V"⟩ : MethodName)) (a := b102) (pc' := 14) C X104 Si112 (EWc hw) Hr106.1 rfl (tw hw 9 rfl) (tw hw 10 rfl) (by decide) (allS ⟨Nat.lt_of_lt_of_le A102.lt (Nat.le_trans (Nat.le_refl _) E104.1), sa113⟩ all0) (rm_sI1z l Z a0 hw b102 b104 k104 h104 O111 c108 c109 c110 A104 n_b102) (tw hw 11 rfl) (tw hw 7 rfl) e104 (argsL := [(.ref b104)]) (rest := [(.ref b102)]) (W := 1) rfl rfl pd_9 rfl (Nat.le_of_eq rfl) rfl (by decide) (by decide) (by decide) (by decide) rfl d1_11 rfl ?_
  intro T107 v107 L107 sC107 C107 X107 Si107 hR107 q107
  obtain ⟨v_107, kv_107, rfl, N107q, K107, P107_0, P107_1, P107_2⟩ := q107
  have N107 := Fr.app N0 N107q
  have Hr114 := CHr.trans Hr106 hR107
  have K115 : Keep h0 T107.heap [] := ((((Keep.refl h0 []).ext E102).ext E104).trans K107 (allS (Or.inr z_b102) all0))
  have c116 : Exa Z T107.heap b102 "java/lang/String" := (Exa.keep c108 K107)
  exact Go.retAH C107 X107 Si107 (EWc hw) Hr114 rfl d1_14 rfl rfl rfl ⟨b102, rfl, N107, K115, z_b102, c116⟩ (by decide) (by decide)
theorem i2cg {x : Int32} (h : 33 ≤ x.toInt ∧ x.toInt ≤ 255) : x.toUInt32.toUInt16.toUInt32.toInt32 = x := i2cr ⟨by omega, h.2⟩
theorem gneg {x : Int32} (h : 33 ≤ x.toInt ∧ x.toInt ≤ 255) : ¬ x < 0 := by rw [Int32.lt_iff_toInt_lt]; show ¬ x.toInt < 0; omega
theorem gnat {x : Int32} (h : 33 ≤ x.toInt ∧ x.toInt ≤ 255) : 33 ≤ x.toNatClampNeg ∧ x.toNatClampNeg < 256 := by simp only [Int32.toNatClampNeg]; omega
theorem pf_16 : plainFor (⟨"java/lang/CharacterDataLatin1", "getProperties", "(I)I"⟩ : MethodName) = true := plainFor_of_name (by first | (simp [plainName, overriddenIn]; done) | decide +kernel)
theorem d16_0 : decode jdk_116_method_1_code 0 = .ok (.iload_n 1, 1) := by decide +kernel
theorem d16_1 : decode jdk_116_method_1_code 1 = .ok (.i2c, 1) := by decide +kernel
theorem d16_2 : decode jdk_116_method_1_code 2 = .ok (.istore_n 2, 1) := by decide +kernel
theorem d16_3 : decode jdk_116_method_1_code 3 = .ok (.getstatic 1, 3) := by decide +kernel
theorem d16_6 : decode jdk_116_method_1_code 6 = .ok (.iload_n 2, 1) := by decide +kernel
theorem d16_7 : decode jdk_116_method_1_code 7 = .ok (.iaload, 1) := by decide +kernel
theorem d16_8 : decode jdk_116_method_1_code 8 = .ok (.istore_n 3, 1) := by decide +kernel
theorem d16_9 : decode jdk_116_method_1_code 9 = .ok (.iload_n 3, 1) := by decide +kernel
theorem d16_10 : decode jdk_116_method_1_code 10 = .ok (.ireturn, 1) := by decide +kernel
def Q_gp (Z : State) (ci : Addr) (x : Int32) (ta : Addr) (tk : ClassId) (ts : List Value) (h0 : Heap) (rv : Option Value) (h : Heap) (L : List Loc) : Prop := ∃ u : Int32, rv = some (.int u) ∧ L = [] ∧ h = h0 ∧ (¬ (u &&& (28672 : Int32)) = (16384 : Int32))
set_option maxRecDepth 65536 in
set_option maxHeartbeats 40000000 in
theorem rm_gp (l : Launch) (Z : State) (a0 : Array Value) (hw : ∀ d ∈ tables_1, d.before a0 Z = true) (ci : Addr) (x : Int32) (ta : Addr) (tk : ClassId) (ts : List Value) (h0 : Heap) (O0 : Ext Z.heap h0) (SA : Sta Z Z.heap "java/lang/CharacterDataLatin1" "A" "[I" (.ref ta)) (AA : AL Z Z.heap ta tk .int ts) (hg : 33 ≤ x.toInt ∧ x.toInt ≤ 255) (ht : ∀ i : Nat, 33 ≤ i → i < 256 → ∃ u : Int32, ts[i]? = some (.int u) ∧ ¬ (u &&& (28672 : Int32)) = (16384 : Int32)) :
    Met1 l Z (⟨"java/lang/CharacterDataLatin1", "getProperties", "(I)I"⟩ : MethodName) jdk_116_method_1_code 4 (some .int) ({ frames := 0, cells := 0, slots := 0, locals := 0 } : Room) #[(.ref ci), (.int x)] h0 (Q_gp Z ci x ta tk ts h0) := by
  refine Met1.of_body (Ls := #[.val (.ref ci), .val (.int x), .unset, .unset]) pf_16 (fun m => by first | (simp [entryFrame, mkF, argsToLocals, Value.category]; done) | rfl) ?_
  intro p e s m below meth c T0 C X0 e0
  have N0 : Fr Z.heap.size [] := Fr.nil _
  refine Go.iloadN (pc' := 1) C X0 d16_0 rfl rfl ?_
  refine Go.i2c (pc' := 2) C X0 d16_1 rfl ?_
  refine Go.istoreN (Ls' := #[.val (.ref ci), .val (.int x), .val (.int (x.toUInt32.toUInt16.toUInt32.toInt32)), .unset]) (pc' := 3) C X0 d16_2 rfl rfl ?_
  rw [i2cg hg]
  obtain ⟨u, hu1, hu2⟩ := ht x.toNatClampNeg (gnat hg).1 (gnat hg).2
  refine Go.getS (pc' := 6) (host := "") C X0 (Or.inl (tw hw 80 rfl)) Via.refl e0 (SA.ext O0) d16_3 rfl ?_
  intro T101 X101 e101
  refine Go.iloadN (pc' := 7) C X101 d16_6 rfl rfl ?_
  refine Go.ldI (i := x.toNatClampNeg) (v := (.int u)) (pc' := 8) C X101 e101 (AA.ext O0) (gneg hg) rfl hu1 d16_7 rfl ?_
  refine Go.istoreN (Ls' := #[.val (.ref ci), .val (.int x), .val (.int x), .val (.int u)]) (pc' := 9) C X101 d16_8 rfl rfl ?_
  refine Go.iloadN (pc' := 10) C X101 d16_9 rfl rfl ?_
  exact Go.retI C X101 rfl d16_10 (by rw [e101]; exact ⟨u, rfl, rfl, rfl, hu2⟩) (by decide) (by decide)
theorem pd_10 : parseMethodDescriptor "(I)I" = some ⟨[.int], some .int⟩ := by decide +kernel
theorem pf_15 : plainFor (⟨"java/lang/CharacterDataLatin1", "isWhitespace", "(I)Z"⟩ : MethodName) = true := plainFor_of_name (by first | (simp [plainName, overriddenIn]; done) | decide +kernel)
theorem d15_0 : decode jdk_116_method_26_code 0 = .ok (.aload_n 0, 1) := by decide +kernel
theorem d15_1 : decode jdk_116_method_26_code 1 = .ok (.iload_n 1, 1) := by decide +kernel
theorem d15_2 : decode jdk_116_method_26_code 2 = .ok (.invokevirtual 15, 3) := by decide +kernel
theorem d15_5 : decode jdk_116_method_26_code 5 = .ok (.istore_n 2, 1) := by decide +kernel
theorem d15_6 : decode jdk_116_method_26_code 6 = .ok (.iload_n 2, 1) := by decide +kernel
theorem d15_7 : decode jdk_116_method_26_code 7 = .ok (.sipush 28672, 3) := by decide +kernel
theorem d15_10 : decode jdk_116_method_26_code 10 = .ok (.iand, 1) := by decide +kernel
theorem d15_11 : decode jdk_116_method_26_code 11 = .ok (.sipush 16384, 3) := by decide +kernel
theorem d15_14 : decode jdk_116_method_26_code 14 = .ok (.if_icmp .ne 7, 3) := by decide +kernel
theorem d15_21 : decode jdk_116_method_26_code 21 = .ok (.iconst 0, 1) := by decide +kernel
theorem d15_22 : decode jdk_116_method_26_code 22 = .ok (.ireturn, 1) := by decide +kernel
def Q_iw (Z : State) (ci : Addr) (x : Int32) (ta : Addr) (tk : ClassId) (ts : List Value) (h0 : Heap) (rv : Option Value) (h : Heap) (L : List Loc) : Prop := rv = some (.int (0 : Int32)) ∧ L = [] ∧ h = h0
set_option maxRecDepth 65536 in
set_option maxHeartbeats 40000000 in
theorem rm_iw (l : Launch) (Z : State) (a0 : Array Value) (hw : ∀ d ∈ tables_1, d.before a0 Z = true) (ci : Addr) (x : Int32) (ta : Addr) (tk : ClassId) (ts : List Value) (h0 : Heap) (O0 : Ext Z.heap h0) (Ec : Exa Z Z.heap ci "java/lang/CharacterDataLatin1") (SA : Sta Z Z.heap "java/lang/CharacterDataLatin1" "A" "[I" (.ref ta)) (AA : AL Z Z.heap ta tk .int ts) (hg : 33 ≤ x.toInt ∧ x.toInt ≤ 255) (ht : ∀ i : Nat, 33 ≤ i → i < 256 → ∃ u : Int32, ts[i]? = some (.int u) ∧ ¬ (u &&& (28672 : Int32)) = (16384 : Int32)) :
    Met1 l Z (⟨"java/lang/CharacterDataLatin1", "isWhitespace", "(I)Z"⟩ : MethodName) jdk_116_method_26_code 3 (some .boolean) ({ frames := 1, cells := 0, slots := 0, locals := 15 } : Room) #[(.ref ci), (.int x)] h0 (Q_iw Z ci x ta tk ts h0) := by
  refine Met1.of_body (Ls := #[.val (.ref ci), .val (.int x), .unset]) pf_15 (fun m => by first | (simp [entryFrame, mkF, argsToLocals, Value.category]; done) | rfl) ?_
  intro p e s m below meth c T0 C X0 e0
  have N0 : Fr Z.heap.size [] := Fr.nil _
  refine Go.aloadN (pc' := 1) C X0 d15_0 rfl rfl rfl ?_
  refine Go.iloadN (pc' := 2) C X0 d15_1 rfl rfl ?_
  refine Go.callV (y := (⟨"java/lang/CharacterDataLatin1", "getProperties", "(I)I"⟩ : MethodName)) (z := (⟨"java/lang/CharacterDataLatin1", "getProperties", "(I)I"⟩ : MethodName)) (a := ci) (pc' := 5) C X0 (tw hw 75 rfl) (tw hw 76 rfl) (notFace_at C.2.1 (tw hw 78 rfl)) (tw hw 78 rfl) (tw hw 77 rfl) (Exa.ext O0 Ec) (by decide) (rm_gp l Z a0 hw ci x ta tk ts h0 O0 SA AA hg ht) (tw hw 79 rfl) (tw hw 69 rfl) e0 (argsL := [(.int x)]) (rest := []) (W := 0) rfl rfl pd_10 rfl (Nat.le_of_eq rfl) rfl (by decide) (by decide) (by decide) (by decide) d15_2 rfl ?_
  intro T101 v101 L101 X101 q101
  obtain ⟨u_101, rfl, rfl, e101, p101_0⟩ := q101
  have N101 := Fr.app N0 (Fr.nil _)
  refine Go.istoreN (Ls' := #[.val (.ref ci), .val (.int x), .val (.int u_101)]) (pc' := 6) C X101 d15_5 rfl rfl ?_
  refine Go.iloadN (pc' := 7) C X101 d15_6 rfl rfl ?_
  refine Go.sipush (z := (28672 : Int32)) (pc' := 10) C X101 d15_7 rfl rfl ?_
  refine Go.iand (pc' := 11) C X101 d15_10 rfl ?_
  refine Go.sipush (z := (16384 : Int32)) (pc' := 14) C X101 d15_11 rfl rfl ?_
  refine Go.icmpYes (pc' := 21) C X101 d15_14 (feq (x := (u_101 &&& (28672 : Int32))) (y := (16384 : Int32)) p101_0).2 (by decide) (by decide) ?_
  refine Go.iconst (z := (0 : Int32)) (pc' := 22) C X101 d15_21 rfl rfl ?_
  exact Go.retN C X101 rfl d15_22 (by simp) (by rw [e101]; exact ⟨rfl, (by simp), rfl⟩) (by decide) (by decide)
theorem pd_11 : parseMethodDescriptor "(I)Z" = some ⟨[.int], some .boolean⟩ := by decide +kernel
theorem pf_13 : plainFor (⟨"java/lang/StringLatin1", "indexOfNonWhitespace", "([B)I"⟩ : MethodName) = true := plainFor_of_name (by first | (simp [plainName, overriddenIn]; done) | decide +kernel)
theorem d13_0 : decode jdk_43_method_37_code 0 = .ok (.aload_n 0, 1) := by decide +kernel
theorem d13_1 : decode jdk_43_method_37_code 1 = .ok (.arraylength, 1) := by decide +kernel
theorem d13_2 : decode jdk_43_method_37_code 2 = .ok (.istore_n 1, 1) := by decide +kernel
theorem d13_3 : decode jdk_43_method_37_code 3 = .ok (.iconst 0, 1) := by decide +kernel
theorem d13_4 : decode jdk_43_method_37_code 4 = .ok (.istore_n 2, 1) := by decide +kernel
theorem d13_5 : decode jdk_43_method_37_code 5 = .ok (.iload_n 2, 1) := by decide +kernel
theorem d13_6 : decode jdk_43_method_37_code 6 = .ok (.iload_n 1, 1) := by decide +kernel
theorem d13_7 : decode jdk_43_method_37_code 7 = .ok (.if_icmp .ge 40, 3) := by decide +kernel
theorem d13_10 : decode jdk_43_method_37_code 10 = .ok (.aload_n 0, 1) := by decide +kernel
theorem d13_11 : decode jdk_43_method_37_code 11 = .ok (.iload_n 2, 1) := by decide +kernel
theorem d13_12 : decode jdk_43_method_37_code 12 = .ok (.invokestatic 50, 3) := by decide +kernel
theorem d13_15 : decode jdk_43_method_37_code 15 = .ok (.istore_n 3, 1) := by decide +kernel
theorem d13_16 : decode jdk_43_method_37_code 16 = .ok (.iload_n 3, 1) := by decide +kernel
theorem d13_17 : decode jdk_43_method_37_code 17 = .ok (.bipush 32, 2) := by decide +kernel
theorem d13_19 : decode jdk_43_method_37_code 19 = .ok (.if_icmp .eq 22, 3) := by decide +kernel
theorem d13_22 : decode jdk_43_method_37_code 22 = .ok (.iload_n 3, 1) := by decide +kernel
theorem d13_23 : decode jdk_43_method_37_code 23 = .ok (.bipush 9, 2) := by decide +kernel
theorem d13_25 : decode jdk_43_method_37_code 25 = .ok (.if_icmp .eq 16, 3) := by decide +kernel
theorem d13_28 : decode jdk_43_method_37_code 28 = .ok (.getstatic 66, 3) := by decide +kernel
theorem d13_31 : decode jdk_43_method_37_code 31 = .ok (.iload_n 3, 1) := by decide +kernel
theorem d13_32 : decode jdk_43_method_37_code 32 = .ok (.invokevirtual 211, 3) := by decide +kernel
theorem d13_35 : decode jdk_43_method_37_code 35 = .ok (.ifCond .ne 6, 3) := by decide +kernel
theorem d13_38 : decode jdk_43_method_37_code 38 = .ok (.goto 9, 3) := by decide +kernel
theorem d13_47 : decode jdk_43_method_37_code 47 = .ok (.iload_n 2, 1) := by decide +kernel
theorem d13_48 : decode jdk_43_method_37_code 48 = .ok (.ireturn, 1) := by decide +kernel
def Q_lnw1 (Z : State) (v : Addr) (k : ClassId) (x0 : Int32) (ci : Addr) (ta : Addr) (tk : ClassId) (ts : List Value) (h0 : Heap) (rv : Option Value) (h : Heap) (L : List Loc) : Prop := ∃ r : Int32, rv = some (.int r) ∧ L = [] ∧ h = h0 ∧ (¬ r = (1 : Int32))
set_option maxRecDepth 65536 in
set_option maxHeartbeats 40000000 in
theorem rm_lnw1 (l : Launch) (Z : State) (a0 : Array Value) (hw : ∀ d ∈ tables_1, d.before a0 Z = true) (v : Addr) (k : ClassId) (x0 : Int32) (ci : Addr) (ta : Addr) (tk : ClassId) (ts : List Value) (h0 : Heap) (O0 : Ext Z.heap h0) (Bx : AL Z h0 v k .byte (by8 [x0])) (SI : Sta Z Z.heap "java/lang/CharacterDataLatin1" "instance" "Ljava/lang/CharacterDataLatin1;" (.ref ci)) (Ec : Exa Z Z.heap ci "java/lang/CharacterDataLatin1") (SA : Sta Z Z.heap "java/lang/CharacterDataLatin1" "A" "[I" (.ref ta)) (AA : AL Z Z.heap ta tk .int ts) (hx0 : Pr x0) (hns : ¬ (x0 = (32 : Int32))) (ht : ∀ i : Nat, 33 ≤ i → i < 256 → ∃ u : Int32, ts[i]? = some (.int u) ∧ ¬ (u &&& (28672 : Int32)) = (16384 : Int32)) :
    Met1 l Z (⟨"java/lang/StringLatin1", "indexOfNonWhitespace", "([B)I"⟩ : MethodName) jdk_43_method_37_code 4 (some .int) ({ frames := 2, cells := 0, slots := 0, locals := 29 } : Room) #[(.ref v)] h0 (Q_lnw1 Z v k x0 ci ta tk ts h0) := by
  refine Met1.of_body (Ls := #[.val (.ref v), .unset, .unset, .unset]) pf_13 (fun m => by first | (simp [entryFrame, mkF, argsToLocals, Value.category]; done) | rfl) ?_
  intro p e s m below meth c T0 C X0 e0
  have N0 : Fr Z.heap.size [] := Fr.nil _
  refine Go.aloadN (pc' := 1) C X0 d13_0 rfl rfl rfl ?_
  refine Go.alen (z := (1 : Int32)) (pc' := 2) C X0 e0 Bx (by rw [by8_len]; rfl) d13_1 rfl ?_
  refine Go.istoreN (Ls' := #[.val (.ref v), .val (.int (1 : Int32)), .unset, .unset]) (pc' := 3) C X0 d13_2 rfl rfl ?_
  refine Go.iconst (z := (0 : Int32)) (pc' := 4) C X0 d13_3 rfl rfl ?_
  refine Go.istoreN (Ls' := #[.val (.ref v), .val (.int (1 : Int32)), .val (.int (0 : Int32)), .unset]) (pc' := 5) C X0 d13_4 rfl rfl ?_
  refine Go.iloadN (pc' := 6) C X0 d13_5 rfl rfl ?_
  refine Go.iloadN (pc' := 7) C X0 d13_6 rfl rfl ?_
  refine Go.icmpNo (pc' := 10) C X0 d13_7 (tlt (x := (0 : Int32)) (y := (1 : Int32)) (by decide)).2.1 rfl ?_
  refine Go.aloadN (pc' := 11) C X0 d13_10 rfl rfl rfl ?_
  refine Go.iloadN (pc' := 12) C X0 d13_11 rfl rfl ?_
  refine Go.callS (y := (⟨"java/lang/StringLatin1", "getChar", "([BI)C"⟩ : MethodName)) (pc' := 15) C X0 (tw hw 65 rfl) (tw hw 66 rfl) (by decide) (rm_gch l Z a0 hw v k [x0] ((0 : Int32)) 0 x0 h0 O0 Bx (by decide) (by decide) rfl hx0.r) (tw hw 67 rfl) (tw hw 63 rfl) e0 (argsL := [(.ref v), (.int (0 : Int32))]) (rest := []) (W := 0) rfl rfl pd_8 rfl (Nat.le_of_eq rfl) rfl (by decide) (by decide) (by decide) (by decide) d13_12 rfl ?_
  intro T102 v102 L102 X102 q102
  obtain ⟨rfl, rfl, e102⟩ := q102
  have N102 := Fr.app N0 (Fr.nil _)
  refine Go.istoreN (Ls' := #[.val (.ref v), .val (.int (1 : Int32)), .val (.int (0 : Int32)), .val (.int x0)]) (pc' := 16) C X102 d13_15 rfl rfl ?_
  refine Go.iloadN (pc' := 17) C X102 d13_16 rfl rfl ?_
  refine Go.bipush (z := (32 : Int32)) (pc' := 19) C X102 d13_17 rfl rfl ?_
  refine Go.icmpNo (pc' := 22) C X102 d13_19 (feq (x := x0) (y := (32 : Int32)) hns).1 rfl ?_
  refine Go.iloadN (pc' := 23) C X102 d13_22 rfl rfl ?_
  refine Go.bipush (z := (9 : Int32)) (pc' := 25) C X102 d13_23 rfl rfl ?_
  refine Go.icmpNo (pc' := 28) C X102 d13_25 (feq (x := x0) (y := (9 : Int32)) hx0.n9).1 rfl ?_
  refine Go.getS (pc' := 31) (host := "") C X102 (Or.inl (tw hw 68 rfl)) Via.refl e102 (SI.ext O0) d13_28 rfl ?_
  intro T105 X105 e105
  refine Go.iloadN (pc' := 32) C X105 d13_31 rfl rfl ?_
  refine Go.callV (y := (⟨"java/lang/CharacterDataLatin1", "isWhitespace", "(I)Z"⟩ : MethodName)) (z := (⟨"java/lang/CharacterDataLatin1", "isWhitespace", "(I)Z"⟩ : MethodName)) (a := ci) (pc' := 35) C X105 (tw hw 70 rfl) (tw hw 71 rfl) (notFace_at C.2.1 (tw hw 73 rfl)) (tw hw 73 rfl) (tw hw 72 rfl) (Exa.ext O0 Ec) (by decide) (rm_iw l Z a0 hw ci x0 ta tk ts h0 O0 Ec SA AA (hx0.g hns) ht) (tw hw 74 rfl) (tw hw 69 rfl) e105 (argsL := [(.int x0)]) (rest := []) (W := 0) rfl rfl pd_11 rfl (Nat.le_of_eq rfl) rfl (by decide) (by decide) (by decide) (by decide) d13_32 rfl ?_
  intro T106 v106 L106 X106 q106
  obtain ⟨rfl, rfl, e106⟩ := q106
  have N106 := Fr.app N102 (Fr.nil _)
  refine Go.ifNo (pc' := 38) C X106 d13_35 ((if0 _ _).trans (teq (x := (0 : Int32)) (y := (0 : Int32)) (by decide)).2) rfl ?_
  refine Go.goto (pc' := 47) C X106 d13_38 (by decide) (by decide) ?_
  refine Go.iloadN (pc' := 48) C X106 d13_47 rfl rfl ?_
  exact Go.retI C X106 rfl d13_48 (by rw [e106]; exact ⟨(0 : Int32), rfl, (by simp), rfl, (by decide)⟩) (by decide) (by decide)
theorem pd_12 : parseMethodDescriptor "([B)I" = some ⟨[(.array .byte)], some .int⟩ := by decide +kernel
theorem pf_11 : plainFor (⟨"java/lang/String", "indexOfNonWhitespace", "()I"⟩ : MethodName) = true := plainFor_of_name (by first | (simp [plainName, overriddenIn]; done) | decide +kernel)
theorem d11_0 : decode jdk_42_method_120_code 0 = .ok (.aload_n 0, 1) := by decide +kernel
theorem d11_1 : decode jdk_42_method_120_code 1 = .ok (.invokevirtual 492, 3) := by decide +kernel
theorem d11_4 : decode jdk_42_method_120_code 4 = .ok (.ifCond .eq 13, 3) := by decide +kernel
theorem d11_7 : decode jdk_42_method_120_code 7 = .ok (.aload_n 0, 1) := by decide +kernel
theorem d11_8 : decode jdk_42_method_120_code 8 = .ok (.getfield 9, 3) := by decide +kernel
theorem d11_11 : decode jdk_42_method_120_code 11 = .ok (.invokestatic 924, 3) := by decide +kernel
theorem d11_14 : decode jdk_42_method_120_code 14 = .ok (.goto 10, 3) := by decide +kernel
theorem d11_24 : decode jdk_42_method_120_code 24 = .ok (.ireturn, 1) := by decide +kernel
def Q_snw1 (Z : State) (s1 : Addr) (v : Addr) (k : ClassId) (cP : Int32) (x0 : Int32) (ci : Addr) (ta : Addr) (tk : ClassId) (ts : List Value) (h0 : Heap) (rv : Option Value) (h : Heap) (L : List Loc) : Prop := ∃ r : Int32, rv = some (.int r) ∧ L = [] ∧ h = h0 ∧ (¬ r = (1 : Int32))
set_option maxRecDepth 65536 in
set_option maxHeartbeats 40000000 in
theorem rm_snw1 (l : Launch) (Z : State) (a0 : Array Value) (hw : ∀ d ∈ tables_1, d.before a0 Z = true) (s1 : Addr) (v : Addr) (k : ClassId) (cP : Int32) (x0 : Int32) (ci : Addr) (ta : Addr) (tk : ClassId) (ts : List Value) (h0 : Heap) (O0 : Ext Z.heap h0) (E0 : Exa Z h0 s1 "java/lang/String") (Fv : Fld Z h0 s1 "java/lang/String" "value" "[B" (.ref v)) (Fc : Fld Z h0 s1 "java/lang/String" "coder" "B" (.int (0 : Int32))) (Bx : AL Z h0 v k .byte (by8 [x0])) (SC : Sta Z Z.heap "java/lang/String" "COMPACT_STRINGS" "Z" (.int cP)) (SI : Sta Z Z.heap "java/lang/CharacterDataLatin1" "instance" "Ljava/lang/CharacterDataLatin1;" (.ref ci)) (Ec : Exa Z Z.heap ci "java/lang/CharacterDataLatin1") (SA : Sta Z Z.heap "java/lang/CharacterDataLatin1" "A" "[I" (.ref ta)) (AA : AL Z Z.heap ta tk .int ts) (hx0 : Pr x0) (hns : ¬ (x0 = (32 : Int32))) (ht : ∀ i : Nat, 33 ≤ i → i < 256 → ∃ u : Int32, ts[i]? = some (.int u) ∧ ¬ (u &&& (28672 : Int32)) = (16384 : Int32)) (hP : ¬ cP = (0 : Int32)) :
    Met1 l Z (⟨"java/lang/String", "indexOfNonWhitespace", "()I"⟩ : MethodName) jdk_42_method_120_code 1 (some .int) ({ frames := 3, cells := 0, slots := 0, locals := 44 } : Room) #[(.ref s1)] h0 (Q_snw1 Z s1 v k cP x0 ci ta tk ts h0) := by
  refine Met1.of_body (Ls := #[.val (.ref s1)]) pf_11 (fun m => by first | (simp [entryFrame, mkF, argsToLocals, Value.category]; done) | rfl) ?_
  intro p e s m below meth c T0 C X0 e0
  have N0 : Fr Z.heap.size [] := Fr.nil _
  refine Go.aloadN (pc' := 1) C X0 d11_0 rfl rfl rfl ?_
  refine Go.callV (y := (⟨"java/lang/String", "isLatin1", "()Z"⟩ : MethodName)) (z := (⟨"java/lang/String", "isLatin1", "()Z"⟩ : MethodName)) (a := s1) (pc' := 4) C X0 (tw hw 56 rfl) (tw hw 57 rfl) (notFace_at C.2.1 (tw hw 59 rfl)) (tw hw 59 rfl) (tw hw 58 rfl) E0 (by decide) (rm_isL l Z a0 hw s1 cP h0 O0 Fc SC hP) (tw hw 60 rfl) (tw hw 7 rfl) e0 (argsL := []) (rest := []) (W := 0) rfl rfl pd_7 rfl (Nat.le_of_eq rfl) rfl (by decide) (by decide) (by decide) (by decide) d11_1 rfl ?_
  intro T101 v101 L101 X101 q101
  obtain ⟨rfl, rfl, e101⟩ := q101
  have N101 := Fr.app N0 (Fr.nil _)
  refine Go.ifNo (pc' := 7) C X101 d11_4 ((if0 _ _).trans (feq (x := (1 : Int32)) (y := (0 : Int32)) (by decide)).1) rfl ?_
  refine Go.aloadN (pc' := 8) C X101 d11_7 rfl rfl rfl ?_
  refine Go.getF (pc' := 11) (host := "") C X101 (Or.inl (tw hw 25 rfl)) Via.refl e101 Fv d11_8 rfl ?_
  intro T103 X103 e103
  refine Go.callS (y := (⟨"java/lang/StringLatin1", "indexOfNonWhitespace", "([B)I"⟩ : MethodName)) (pc' := 14) C X103 (tw hw 61 rfl) (tw hw 62 rfl) (by decide) (rm_lnw1 l Z a0 hw v k x0 ci ta tk ts h0 O0 Bx SI Ec SA AA hx0 hns ht) (tw hw 64 rfl) (tw hw 63 rfl) e103 (argsL := [(.ref v)]) (rest := []) (W := 0) rfl rfl pd_12 rfl (Nat.le_of_eq rfl) rfl (by decide) (by decide) (by decide) (by decide) d11_11 rfl ?_
  intro T104 v104 L104 X104 q104
  obtain ⟨r_104, rfl, rfl, e104, p104_0⟩ := q104
  have N104 := Fr.app N101 (Fr.nil _)
  refine Go.goto (pc' := 24) C X104 d11_14 (by decide) (by decide) ?_
  exact Go.retI C X104 rfl d11_24 (by rw [e104]; exact ⟨r_104, rfl, (by simp), rfl, p104_0⟩) (by decide) (by decide)
theorem pd_13 : parseMethodDescriptor "()I" = some ⟨[], some .int⟩ := by decide +kernel
theorem pf_10 : plainFor (⟨"java/lang/String", "isBlank", "()Z"⟩ : MethodName) = true := plainFor_of_name (by first | (simp [plainName, overriddenIn]; done) | decide +kernel)
theorem d10_0 : decode jdk_42_method_117_code 0 = .ok (.aload_n 0, 1) := by decide +kernel
theorem d10_1 : decode jdk_42_method_117_code 1 = .ok (.invokevirtual 876, 3) := by decide +kernel
theorem d10_4 : decode jdk_42_method_117_code 4 = .ok (.aload_n 0, 1) := by decide +kernel
theorem d10_5 : decode jdk_42_method_117_code 5 = .ok (.invokevirtual 505, 3) := by decide +kernel
theorem d10_8 : decode jdk_42_method_117_code 8 = .ok (.if_icmp .ne 7, 3) := by decide +kernel
theorem d10_15 : decode jdk_42_method_117_code 15 = .ok (.iconst 0, 1) := by decide +kernel
theorem d10_16 : decode jdk_42_method_117_code 16 = .ok (.ireturn, 1) := by decide +kernel
def Q_bl1 (Z : State) (s1 : Addr) (v : Addr) (k : ClassId) (cP : Int32) (x0 : Int32) (ci : Addr) (ta : Addr) (tk : ClassId) (ts : List Value) (h0 : Heap) (rv : Option Value) (h : Heap) (L : List Loc) : Prop := rv = some (.int (0 : Int32)) ∧ L = [] ∧ h = h0
set_option maxRecDepth 65536 in
set_option maxHeartbeats 40000000 in
theorem rm_bl1 (l : Launch) (Z : State) (a0 : Array Value) (hw : ∀ d ∈ tables_1, d.before a0 Z = true) (s1 : Addr) (v : Addr) (k : ClassId) (cP : Int32) (x0 : Int32) (ci : Addr) (ta : Addr) (tk : ClassId) (ts : List Value) (h0 : Heap) (O0 : Ext Z.heap h0) (E0 : Exa Z h0 s1 "java/lang/String") (Fv : Fld Z h0 s1 "java/lang/String" "value" "[B" (.ref v)) (Fc : Fld Z h0 s1 "java/lang/String" "coder" "B" (.int (0 : Int32))) (Bx : AL Z h0 v k .byte (by8 [x0])) (SC : Sta Z Z.heap "java/lang/String" "COMPACT_STRINGS" "Z" (.int cP)) (SI : Sta Z Z.heap "java/lang/CharacterDataLatin1" "instance" "Ljava/lang/CharacterDataLatin1;" (.ref ci)) (Ec : Exa Z Z.heap ci "java/lang/CharacterDataLatin1") (SA : Sta Z Z.heap "java/lang/CharacterDataLatin1" "A" "[I" (.ref ta)) (AA : AL Z Z.heap ta tk .int ts) (hx0 : Pr x0) (hns : ¬ (x0 = (32 : Int32))) (ht : ∀ i : Nat, 33 ≤ i → i < 256 → ∃ u : Int32, ts[i]? = some (.int u) ∧ ¬ (u &&& (28672 : Int32)) = (16384 : Int32)) (hP : ¬ cP = (0 : Int32)) :
    Met1 l Z (⟨"java/lang/String", "isBlank", "()Z"⟩ : MethodName) jdk_42_method_117_code 1 (some .boolean) ({ frames := 4, cells := 0, slots := 0, locals := 56 } : Room) #[(.ref s1)] h0 (Q_bl1 Z s1 v k cP x0 ci ta tk ts h0) := by
  refine Met1.of_body (Ls := #[.val (.ref s1)]) pf_10 (fun m => by first | (simp [entryFrame, mkF, argsToLocals, Value.category]; done) | rfl) ?_
  intro p e s m below meth c T0 C X0 e0
  have N0 : Fr Z.heap.size [] := Fr.nil _
  refine Go.aloadN (pc' := 1) C X0 d10_0 rfl rfl rfl ?_
  refine Go.callP (y := (⟨"java/lang/String", "indexOfNonWhitespace", "()I"⟩ : MethodName)) (a := s1) (pc' := 4) C X0 (tw hw 51 rfl) (tw hw 52 rfl) (tw hw 54 rfl) (tw hw 53 rfl) E0 (by decide) (rm_snw1 l Z a0 hw s1 v k cP x0 ci ta tk ts h0 O0 E0 Fv Fc Bx SC SI Ec SA AA hx0 hns ht hP) (tw hw 55 rfl) (tw hw 7 rfl) e0 (argsL := []) (rest := []) (W := 0) rfl rfl pd_13 rfl (Nat.le_of_eq rfl) rfl (by decide) (by decide) (by decide) (by decide) d10_1 rfl ?_
  intro T101 v101 L101 X101 q101
  obtain ⟨r_101, rfl, rfl, e101, p101_0⟩ := q101
  have N101 := Fr.app N0 (Fr.nil _)
  refine Go.aloadN (pc' := 5) C X101 d10_4 rfl rfl rfl ?_
  refine Go.callV (y := (⟨"java/lang/String", "length", "()I"⟩ : MethodName)) (z := (⟨"java/lang/String", "length", "()I"⟩ : MethodName)) (a := s1) (pc' := 8) C X101 (tw hw 81 rfl) (tw hw 82 rfl) (notFace_at C.2.1 (tw hw 84 rfl)) (tw hw 84 rfl) (tw hw 83 rfl) E0 (by decide) (rm_len l Z a0 hw s1 v k [x0] cP ((1 : Int32)) h0 O0 E0 Fv Fc Bx SC hP rfl) (tw hw 85 rfl) (tw hw 7 rfl) e101 (argsL := []) (rest := [(.int r_101)]) (W := 1) rfl rfl pd_13 rfl (Nat.le_of_eq rfl) rfl (by decide) (by decide) (by decide) (by decide) d10_5 rfl ?_
  intro T102 v102 L102 X102 q102
  obtain ⟨rfl, rfl, e102⟩ := q102
  have N102 := Fr.app N101 (Fr.nil _)
  refine Go.icmpYes (pc' := 15) C X102 d10_8 (feq (x := r_101) (y := (1 : Int32)) p101_0).2 (by decide) (by decide) ?_
  refine Go.iconst (z := (0 : Int32)) (pc' := 16) C X102 d10_15 rfl rfl ?_
  exact Go.retN C X102 rfl d10_16 (by simp) (by rw [e102]; exact ⟨rfl, (by simp), rfl⟩) (by decide) (by decide)
theorem pd_14 : parseMethodDescriptor "(I)C" = some ⟨[.int], some .char⟩ := by decide +kernel
theorem pf_19 : plainFor (⟨"com/example/tranche/tranche/Notation", "holdsControl", "(Ljava/lang/String;)Z"⟩ : MethodName) = true := plainFor_of_name (by first | (simp [plainName, overriddenIn]; done) | decide +kernel)
theorem d19_0 : decode prog_14_method_12_code 0 = .ok (.iconst 0, 1) := by decide +kernel
theorem d19_1 : decode prog_14_method_12_code 1 = .ok (.istore_n 1, 1) := by decide +kernel
theorem d19_2 : decode prog_14_method_12_code 2 = .ok (.iload_n 1, 1) := by decide +kernel
theorem d19_3 : decode prog_14_method_12_code 3 = .ok (.aload_n 0, 1) := by decide +kernel
theorem d19_4 : decode prog_14_method_12_code 4 = .ok (.invokevirtual 55, 3) := by decide +kernel
theorem d19_7 : decode prog_14_method_12_code 7 = .ok (.if_icmp .ge 31, 3) := by decide +kernel
theorem d19_10 : decode prog_14_method_12_code 10 = .ok (.aload_n 0, 1) := by decide +kernel
theorem d19_11 : decode prog_14_method_12_code 11 = .ok (.iload_n 1, 1) := by decide +kernel
theorem d19_12 : decode prog_14_method_12_code 12 = .ok (.invokevirtual 81, 3) := by decide +kernel
theorem d19_15 : decode prog_14_method_12_code 15 = .ok (.bipush 32, 2) := by decide +kernel
theorem d19_17 : decode prog_14_method_12_code 17 = .ok (.if_icmp .lt 13, 3) := by decide +kernel
theorem d19_20 : decode prog_14_method_12_code 20 = .ok (.aload_n 0, 1) := by decide +kernel
theorem d19_21 : decode prog_14_method_12_code 21 = .ok (.iload_n 1, 1) := by decide +kernel
theorem d19_22 : decode prog_14_method_12_code 22 = .ok (.invokevirtual 81, 3) := by decide +kernel
theorem d19_25 : decode prog_14_method_12_code 25 = .ok (.bipush 127, 2) := by decide +kernel
theorem d19_27 : decode prog_14_method_12_code 27 = .ok (.if_icmp .ne 5, 3) := by decide +kernel
theorem d19_32 : decode prog_14_method_12_code 32 = .ok (.iinc 1 1, 3) := by decide +kernel
theorem d19_35 : decode prog_14_method_12_code 35 = .ok (.goto (-33), 3) := by decide +kernel
theorem d19_38 : decode prog_14_method_12_code 38 = .ok (.iconst 0, 1) := by decide +kernel
theorem d19_39 : decode prog_14_method_12_code 39 = .ok (.ireturn, 1) := by decide +kernel
def Q_hc1 (Z : State) (s1 : Addr) (v : Addr) (k : ClassId) (cP : Int32) (fm : Value) (x0 : Int32) (h0 : Heap) (rv : Option Value) (h : Heap) (L : List Loc) : Prop := rv = some (.int (0 : Int32)) ∧ L = [] ∧ h = h0
set_option maxRecDepth 65536 in
set_option maxHeartbeats 40000000 in
theorem rm_hc1 (l : Launch) (Z : State) (a0 : Array Value) (hw : ∀ d ∈ tables_1, d.before a0 Z = true) (s1 : Addr) (v : Addr) (k : ClassId) (cP : Int32) (fm : Value) (x0 : Int32) (h0 : Heap) (O0 : Ext Z.heap h0) (E0 : Exa Z h0 s1 "java/lang/String") (Fv : Fld Z h0 s1 "java/lang/String" "value" "[B" (.ref v)) (Fc : Fld Z h0 s1 "java/lang/String" "coder" "B" (.int (0 : Int32))) (Bx : AL Z h0 v k .byte (by8 [x0])) (SC : Sta Z Z.heap "java/lang/String" "COMPACT_STRINGS" "Z" (.int cP)) (SF : Sta Z Z.heap "jdk/internal/util/Preconditions" "SIOOBE_FORMATTER" "Ljava/util/function/BiFunction;" fm) (hx0 : Pr x0) (hP : ¬ cP = (0 : Int32)) (hfm : fm.category = 1) :
    Met1 l Z (⟨"com/example/tranche/tranche/Notation", "holdsControl", "(Ljava/lang/String;)Z"⟩ : MethodName) prog_14_method_12_code 2 (some .boolean) ({ frames := 4, cells := 0, slots := 0, locals := 53 } : Room) #[(.ref s1)] h0 (Q_hc1 Z s1 v k cP fm x0 h0) := by
  refine Met1.of_body (Ls := #[.val (.ref s1), .unset]) pf_19 (fun m => by first | (simp [entryFrame, mkF, argsToLocals, Value.category]; done) | rfl) ?_
  intro p e s m below meth c T0 C X0 e0
  have N0 : Fr Z.heap.size [] := Fr.nil _
  refine Go.iconst (z := (0 : Int32)) (pc' := 1) C X0 d19_0 rfl rfl ?_
  refine Go.istoreN (Ls' := #[.val (.ref s1), .val (.int (0 : Int32))]) (pc' := 2) C X0 d19_1 rfl rfl ?_
  refine Go.iloadN (pc' := 3) C X0 d19_2 rfl rfl ?_
  refine Go.aloadN (pc' := 4) C X0 d19_3 rfl rfl rfl ?_
  refine Go.callV (y := (⟨"java/lang/String", "length", "()I"⟩ : MethodName)) (z := (⟨"java/lang/String", "length", "()I"⟩ : MethodName)) (a := s1) (pc' := 7) C X0 (tw hw 94 rfl) (tw hw 82 rfl) (notFace_at C.2.1 (tw hw 84 rfl)) (tw hw 84 rfl) (tw hw 83 rfl) E0 (by decide) (rm_len l Z a0 hw s1 v k [x0] cP ((1 : Int32)) h0 O0 E0 Fv Fc Bx SC hP rfl) (tw hw 85 rfl) (tw hw 7 rfl) e0 (argsL := []) (rest := [(.int (0 : Int32))]) (W := 1) rfl rfl pd_13 rfl (Nat.le_of_eq rfl) rfl (by decide) (by decide) (by decide) (by decide) d19_4 rfl ?_
  intro T101 v101 L101 X101 q101
  obtain ⟨rfl, rfl, e101⟩ := q101
  have N101 := Fr.app N0 (Fr.nil _)
  refine Go.icmpNo (pc' := 10) C X101 d19_7 (tlt (x := (0 : Int32)) (y := (1 : Int32)) (by decide)).2.1 rfl ?_
  refine Go.aloadN (pc' := 11) C X101 d19_10 rfl rfl rfl ?_
  refine Go.iloadN (pc' := 12) C X101 d19_11 rfl rfl ?_
  refine Go.callV (y := (⟨"java/lang/String", "charAt", "(I)C"⟩ : MethodName)) (z := (⟨"java/lang/String", "charAt", "(I)C"⟩ : MethodName)) (a := s1) (pc' := 15) C X101 (tw hw 95 rfl) (tw hw 96 rfl) (notFace_at C.2.1 (tw hw 98 rfl)) (tw hw 98 rfl) (tw hw 97 rfl) E0 (by decide) (rm_chA l Z a0 hw s1 cP v k [x0] ((0 : Int32)) 0 x0 fm ((1 : Int32)) h0 O0 E0 Fv Fc Bx SC SF hP (by decide) (by decide) rfl hx0.r (by decide) rfl hfm) (tw hw 99 rfl) (tw hw 7 rfl) e101 (argsL := [(.int (0 : Int32))]) (rest := []) (W := 0) rfl rfl pd_14 rfl (Nat.le_of_eq rfl) rfl (by decide) (by decide) (by decide) (by decide) d19_12 rfl ?_
  intro T103 v103 L103 X103 q103
  obtain ⟨rfl, rfl, e103⟩ := q103
  have N103 := Fr.app N101 (Fr.nil _)
  refine Go.bipush (z := (32 : Int32)) (pc' := 17) C X103 d19_15 rfl rfl ?_
  refine Go.icmpNo (pc' := 20) C X103 d19_17 (flt (x := x0) (y := (32 : Int32)) hx0.lt).1 rfl ?_
  refine Go.aloadN (pc' := 21) C X103 d19_20 rfl rfl rfl ?_
  refine Go.iloadN (pc' := 22) C X103 d19_21 rfl rfl ?_
  refine Go.callV (y := (⟨"java/lang/String", "charAt", "(I)C"⟩ : MethodName)) (z := (⟨"java/lang/String", "charAt", "(I)C"⟩ : MethodName)) (a := s1) (pc' := 25) C X103 (tw hw 95 rfl) (tw hw 96 rfl) (notFace_at C.2.1 (tw hw 98 rfl)) (tw hw 98 rfl) (tw hw 97 rfl) E0 (by decide) (rm_chA l Z a0 hw s1 cP v k [x0] ((0 : Int32)) 0 x0 fm ((1 : Int32)) h0 O0 E0 Fv Fc Bx SC SF hP (by decide) (by decide) rfl hx0.r (by decide) rfl hfm) (tw hw 99 rfl) (tw hw 7 rfl) e103 (argsL := [(.int (0 : Int32))]) (rest := []) (W := 0) rfl rfl pd_14 rfl (Nat.le_of_eq rfl) rfl (by decide) (by decide) (by decide) (by decide) d19_22 rfl ?_
  intro T105 v105 L105 X105 q105
  obtain ⟨rfl, rfl, e105⟩ := q105
  have N105 := Fr.app N103 (Fr.nil _)
  refine Go.bipush (z := (127 : Int32)) (pc' := 27) C X105 d19_25 rfl rfl ?_
  refine Go.icmpYes (pc' := 32) C X105 d19_27 (feq (x := x0) (y := (127 : Int32)) hx0.ne).2 (by decide) (by decide) ?_
  refine Go.iinc (Ls' := #[.val (.ref s1), .val (.int ((0 : Int32) + (1 : Int32)))]) (z := (1 : Int32)) (pc' := 35) C X105 d19_32 rfl rfl rfl rfl ?_
  rw [show ((0 : Int32) + (1 : Int32)) = (1 : Int32) from by decide]
  refine Go.goto (pc' := 2) C X105 d19_35 (by decide) (by decide) ?_
  refine Go.iloadN (pc' := 3) C X105 d19_2 rfl rfl ?_
  refine Go.aloadN (pc' := 4) C X105 d19_3 rfl rfl rfl ?_
  refine Go.callV (y := (⟨"java/lang/String", "length", "()I"⟩ : MethodName)) (z := (⟨"java/lang/String", "length", "()I"⟩ : MethodName)) (a := s1) (pc' := 7) C X105 (tw hw 94 rfl) (tw hw 82 rfl) (notFace_at C.2.1 (tw hw 84 rfl)) (tw hw 84 rfl) (tw hw 83 rfl) E0 (by decide) (rm_len l Z a0 hw s1 v k [x0] cP ((1 : Int32)) h0 O0 E0 Fv Fc Bx SC hP rfl) (tw hw 85 rfl) (tw hw 7 rfl) e105 (argsL := []) (rest := [(.int (1 : Int32))]) (W := 1) rfl rfl pd_13 rfl (Nat.le_of_eq rfl) rfl (by decide) (by decide) (by decide) (by decide) d19_4 rfl ?_
  intro T107 v107 L107 X107 q107
  obtain ⟨rfl, rfl, e107⟩ := q107
  have N107 := Fr.app N105 (Fr.nil _)
  refine Go.icmpYes (pc' := 38) C X107 d19_7 (flt (x := (1 : Int32)) (y := (1 : Int32)) (by decide)).2.1 (by decide) (by decide) ?_
  refine Go.iconst (z := (0 : Int32)) (pc' := 39) C X107 d19_38 rfl rfl ?_
  exact Go.retN C X107 rfl d19_39 (by simp) (by rw [e107]; exact ⟨rfl, (by simp), rfl⟩) (by decide) (by decide)
theorem pd_15 : parseMethodDescriptor "(Ljava/lang/String;)Z" = some ⟨[(.object "java/lang/String")], some .boolean⟩ := by decide +kernel
theorem pf_9 : plainFor (⟨"com/example/tranche/tranche/Notation", "name", "(Ljava/lang/String;Ljava/lang/String;)Ljava/lang/String;"⟩ : MethodName) = true := plainFor_of_name (by first | (simp [plainName, overriddenIn]; done) | decide +kernel)
theorem d9_0 : decode prog_14_method_2_code 0 = .ok (.aload_n 1, 1) := by decide +kernel
theorem d9_1 : decode prog_14_method_2_code 1 = .ok (.ifnull 10, 3) := by decide +kernel
theorem d9_4 : decode prog_14_method_2_code 4 = .ok (.aload_n 1, 1) := by decide +kernel
theorem d9_5 : decode prog_14_method_2_code 5 = .ok (.invokevirtual 7, 3) := by decide +kernel
theorem d9_8 : decode prog_14_method_2_code 8 = .ok (.ifCond .eq 17, 3) := by decide +kernel
theorem d9_25 : decode prog_14_method_2_code 25 = .ok (.aload_n 1, 1) := by decide +kernel
theorem d9_26 : decode prog_14_method_2_code 26 = .ok (.invokestatic 22, 3) := by decide +kernel
theorem d9_29 : decode prog_14_method_2_code 29 = .ok (.ifCond .eq 17, 3) := by decide +kernel
theorem d9_46 : decode prog_14_method_2_code 46 = .ok (.aload_n 1, 1) := by decide +kernel
theorem d9_47 : decode prog_14_method_2_code 47 = .ok (.areturn, 1) := by decide +kernel
def Q_nm1 (Z : State) (kk : Addr) (s1 : Addr) (v : Addr) (k : ClassId) (cP : Int32) (fm : Value) (x0 : Int32) (ci : Addr) (ta : Addr) (tk : ClassId) (ts : List Value) (h0 : Heap) (rv : Option Value) (h : Heap) (L : List Loc) : Prop := rv = some (.ref s1) ∧ L = [] ∧ h = h0
set_option maxRecDepth 65536 in
set_option maxHeartbeats 40000000 in
theorem rm_nm1 (l : Launch) (Z : State) (a0 : Array Value) (hw : ∀ d ∈ tables_1, d.before a0 Z = true) (kk : Addr) (s1 : Addr) (v : Addr) (k : ClassId) (cP : Int32) (fm : Value) (x0 : Int32) (ci : Addr) (ta : Addr) (tk : ClassId) (ts : List Value) (h0 : Heap) (O0 : Ext Z.heap h0) (E0 : Exa Z h0 s1 "java/lang/String") (Fv : Fld Z h0 s1 "java/lang/String" "value" "[B" (.ref v)) (Fc : Fld Z h0 s1 "java/lang/String" "coder" "B" (.int (0 : Int32))) (Bx : AL Z h0 v k .byte (by8 [x0])) (SC : Sta Z Z.heap "java/lang/String" "COMPACT_STRINGS" "Z" (.int cP)) (SF : Sta Z Z.heap "jdk/internal/util/Preconditions" "SIOOBE_FORMATTER" "Ljava/util/function/BiFunction;" fm) (SI : Sta Z Z.heap "java/lang/CharacterDataLatin1" "instance" "Ljava/lang/CharacterDataLatin1;" (.ref ci)) (Ec : Exa Z Z.heap ci "java/lang/CharacterDataLatin1") (SA : Sta Z Z.heap "java/lang/CharacterDataLatin1" "A" "[I" (.ref ta)) (AA : AL Z Z.heap ta tk .int ts) (hx0 : Pr x0) (hns : ¬ (x0 = (32 : Int32))) (ht : ∀ i : Nat, 33 ≤ i → i < 256 → ∃ u : Int32, ts[i]? = some (.int u) ∧ ¬ (u &&& (28672 : Int32)) = (16384 : Int32)) (hP : ¬ cP = (0 : Int32)) (hfm : fm.category = 1) :
    Met1 l Z (⟨"com/example/tranche/tranche/Notation", "name", "(Ljava/lang/String;Ljava/lang/String;)Ljava/lang/String;"⟩ : MethodName) prog_14_method_2_code 2 (some (.object "java/lang/String")) ({ frames := 5, cells := 0, slots := 0, locals := 68 } : Room) #[(.ref kk), (.ref s1)] h0 (Q_nm1 Z kk s1 v k cP fm x0 ci ta tk ts h0) := by
  refine Met1.of_body (Ls := #[.val (.ref kk), .val (.ref s1)]) pf_9 (fun m => by first | (simp [entryFrame, mkF, argsToLocals, Value.category]; done) | rfl) ?_
  intro p e s m below meth c T0 C X0 e0
  have N0 : Fr Z.heap.size [] := Fr.nil _
  refine Go.aloadN (pc' := 1) C X0 d9_0 rfl rfl rfl ?_
  refine Go.ifnullNo (pc' := 4) C X0 d9_1 rfl ?_
  refine Go.aloadN (pc' := 5) C X0 d9_4 rfl rfl rfl ?_
  refine Go.callV (y := (⟨"java/lang/String", "isBlank", "()Z"⟩ : MethodName)) (z := (⟨"java/lang/String", "isBlank", "()Z"⟩ : MethodName)) (a := s1) (pc' := 8) C X0 (tw hw 46 rfl) (tw hw 47 rfl) (notFace_at C.2.1 (tw hw 49 rfl)) (tw hw 49 rfl) (tw hw 48 rfl) E0 (by decide) (rm_bl1 l Z a0 hw s1 v k cP x0 ci ta tk ts h0 O0 E0 Fv Fc Bx SC SI Ec SA AA hx0 hns ht hP) (tw hw 50 rfl) (tw hw 7 rfl) e0 (argsL := []) (rest := []) (W := 0) rfl rfl pd_7 rfl (Nat.le_of_eq rfl) rfl (by decide) (by decide) (by decide) (by decide) d9_5 rfl ?_
  intro T101 v101 L101 X101 q101
  obtain ⟨rfl, rfl, e101⟩ := q101
  have N101 := Fr.app N0 (Fr.nil _)
  refine Go.ifYes (pc' := 25) C X101 d9_8 ((if0 _ _).trans (teq (x := (0 : Int32)) (y := (0 : Int32)) (by decide)).1) (by decide) (by decide) ?_
  refine Go.aloadN (pc' := 26) C X101 d9_25 rfl rfl rfl ?_
  refine Go.callS (y := (⟨"com/example/tranche/tranche/Notation", "holdsControl", "(Ljava/lang/String;)Z"⟩ : MethodName)) (pc' := 29) C X101 (tw hw 91 rfl) (tw hw 92 rfl) (by decide) (rm_hc1 l Z a0 hw s1 v k cP fm x0 h0 O0 E0 Fv Fc Bx SC SF hx0 hP hfm) (tw hw 93 rfl) (tw hw 44 rfl) e101 (argsL := [(.ref s1)]) (rest := []) (W := 0) rfl rfl pd_15 rfl (Nat.le_of_eq rfl) rfl (by decide) (by decide) (by decide) (by decide) d9_26 rfl ?_
  intro T103 v103 L103 X103 q103
  obtain ⟨rfl, rfl, e103⟩ := q103
  have N103 := Fr.app N101 (Fr.nil _)
  refine Go.ifYes (pc' := 46) C X103 d9_29 ((if0 _ _).trans (teq (x := (0 : Int32)) (y := (0 : Int32)) (by decide)).1) (by decide) (by decide) ?_
  refine Go.aloadN (pc' := 47) C X103 d9_46 rfl rfl rfl ?_
  exact Go.retA C X103 rfl d9_47 rfl rfl rfl (by rw [e103]; exact ⟨rfl, (by simp), rfl⟩) (by decide) (by decide)
theorem d13_41 : decode jdk_43_method_37_code 41 = .ok (.iinc 2 1, 3) := by decide +kernel
theorem d13_44 : decode jdk_43_method_37_code 44 = .ok (.goto (-39), 3) := by decide +kernel
def Q_lnw2 (Z : State) (v : Addr) (k : ClassId) (x0 : Int32) (x1 : Int32) (ci : Addr) (ta : Addr) (tk : ClassId) (ts : List Value) (h0 : Heap) (rv : Option Value) (h : Heap) (L : List Loc) : Prop := ∃ r : Int32, rv = some (.int r) ∧ L = [] ∧ h = h0 ∧ (¬ r = (2 : Int32))
set_option maxRecDepth 65536 in
set_option maxHeartbeats 40000000 in
theorem rm_lnw2 (l : Launch) (Z : State) (a0 : Array Value) (hw : ∀ d ∈ tables_1, d.before a0 Z = true) (v : Addr) (k : ClassId) (x0 : Int32) (x1 : Int32) (ci : Addr) (ta : Addr) (tk : ClassId) (ts : List Value) (h0 : Heap) (O0 : Ext Z.heap h0) (Bx : AL Z h0 v k .byte (by8 [x0, x1])) (SI : Sta Z Z.heap "java/lang/CharacterDataLatin1" "instance" "Ljava/lang/CharacterDataLatin1;" (.ref ci)) (Ec : Exa Z Z.heap ci "java/lang/CharacterDataLatin1") (SA : Sta Z Z.heap "java/lang/CharacterDataLatin1" "A" "[I" (.ref ta)) (AA : AL Z Z.heap ta tk .int ts) (hx0 : Pr x0) (hx1 : Pr x1) (hns : ¬ (x0 = (32 : Int32) ∧ x1 = (32 : Int32))) (ht : ∀ i : Nat, 33 ≤ i → i < 256 → ∃ u : Int32, ts[i]? = some (.int u) ∧ ¬ (u &&& (28672 : Int32)) = (16384 : Int32)) :
    Met1 l Z (⟨"java/lang/StringLatin1", "indexOfNonWhitespace", "([B)I"⟩ : MethodName) jdk_43_method_37_code 4 (some .int) ({ frames := 2, cells := 0, slots := 0, locals := 29 } : Room) #[(.ref v)] h0 (Q_lnw2 Z v k x0 x1 ci ta tk ts h0) := by
  refine Met1.of_body (Ls := #[.val (.ref v), .unset, .unset, .unset]) pf_13 (fun m => by first | (simp [entryFrame, mkF, argsToLocals, Value.category]; done) | rfl) ?_
  intro p e s m below meth c T0 C X0 e0
  have N0 : Fr Z.heap.size [] := Fr.nil _
  refine Go.aloadN (pc' := 1) C X0 d13_0 rfl rfl rfl ?_
  refine Go.alen (z := (2 : Int32)) (pc' := 2) C X0 e0 Bx (by rw [by8_len]; rfl) d13_1 rfl ?_
  refine Go.istoreN (Ls' := #[.val (.ref v), .val (.int (2 : Int32)), .unset, .unset]) (pc' := 3) C X0 d13_2 rfl rfl ?_
  refine Go.iconst (z := (0 : Int32)) (pc' := 4) C X0 d13_3 rfl rfl ?_
  refine Go.istoreN (Ls' := #[.val (.ref v), .val (.int (2 : Int32)), .val (.int (0 : Int32)), .unset]) (pc' := 5) C X0 d13_4 rfl rfl ?_
  refine Go.iloadN (pc' := 6) C X0 d13_5 rfl rfl ?_
  refine Go.iloadN (pc' := 7) C X0 d13_6 rfl rfl ?_
  refine Go.icmpNo (pc' := 10) C X0 d13_7 (tlt (x := (0 : Int32)) (y := (2 : Int32)) (by decide)).2.1 rfl ?_
  refine Go.aloadN (pc' := 11) C X0 d13_10 rfl rfl rfl ?_
  refine Go.iloadN (pc' := 12) C X0 d13_11 rfl rfl ?_
  refine Go.callS (y := (⟨"java/lang/StringLatin1", "getChar", "([BI)C"⟩ : MethodName)) (pc' := 15) C X0 (tw hw 65 rfl) (tw hw 66 rfl) (by decide) (rm_gch l Z a0 hw v k ([x0, x1]) ((0 : Int32)) 0 x0 h0 O0 Bx (by decide) (by decide) rfl hx0.r) (tw hw 67 rfl) (tw hw 63 rfl) e0 (argsL := [(.ref v), (.int (0 : Int32))]) (rest := []) (W := 0) rfl rfl pd_8 rfl (Nat.le_of_eq rfl) rfl (by decide) (by decide) (by decide) (by decide) d13_12 rfl ?_
  intro T102 v102 L102 X102 q102
  obtain ⟨rfl, rfl, e102⟩ := q102
  have N102 := Fr.app N0 (Fr.nil _)
  refine Go.istoreN (Ls' := #[.val (.ref v), .val (.int (2 : Int32)), .val (.int (0 : Int32)), .val (.int x0)]) (pc' := 16) C X102 d13_15 rfl rfl ?_
  refine Go.iloadN (pc' := 17) C X102 d13_16 rfl rfl ?_
  refine Go.bipush (z := (32 : Int32)) (pc' := 19) C X102 d13_17 rfl rfl ?_
  by_cases hc19_103 : x0 = (32 : Int32)
  · refine Go.icmpYes (pc' := 41) C X102 d13_19 (teq (x := x0) (y := (32 : Int32)) hc19_103).1 (by decide) (by decide) ?_
    refine Go.iinc (Ls' := #[.val (.ref v), .val (.int (2 : Int32)), .val (.int ((0 : Int32) + (1 : Int32))), .val (.int x0)]) (z := (1 : Int32)) (pc' := 44) C X102 d13_41 rfl rfl rfl rfl ?_
    rw [show ((0 : Int32) + (1 : Int32)) = (1 : Int32) from by decide]
    refine Go.goto (pc' := 5) C X102 d13_44 (by decide) (by decide) ?_
    refine Go.iloadN (pc' := 6) C X102 d13_5 rfl rfl ?_
    refine Go.iloadN (pc' := 7) C X102 d13_6 rfl rfl ?_
    refine Go.icmpNo (pc' := 10) C X102 d13_7 (tlt (x := (1 : Int32)) (y := (2 : Int32)) (by decide)).2.1 rfl ?_
    refine Go.aloadN (pc' := 11) C X102 d13_10 rfl rfl rfl ?_
    refine Go.iloadN (pc' := 12) C X102 d13_11 rfl rfl ?_
    refine Go.callS (y := (⟨"java/lang/StringLatin1", "getChar", "([BI)C"⟩ : MethodName)) (pc' := 15) C X102 (tw hw 65 rfl) (tw hw 66 rfl) (by decide) (rm_gch l Z a0 hw v k ([x0, x1]) ((1 : Int32)) 1 x1 h0 O0 Bx (by decide) (by decide) rfl hx1.r) (tw hw 67 rfl) (tw hw 63 rfl) e102 (argsL := [(.ref v), (.int (1 : Int32))]) (rest := []) (W := 0) rfl rfl pd_8 rfl (Nat.le_of_eq rfl) rfl (by decide) (by decide) (by decide) (by decide) d13_12 rfl ?_
    intro T105 v105 L105 X105 q105
    obtain ⟨rfl, rfl, e105⟩ := q105
    have N105 := Fr.app N102 (Fr.nil _)
    refine Go.istoreN (Ls' := #[.val (.ref v), .val (.int (2 : Int32)), .val (.int (1 : Int32)), .val (.int x1)]) (pc' := 16) C X105 d13_15 rfl rfl ?_
    refine Go.iloadN (pc' := 17) C X105 d13_16 rfl rfl ?_
    refine Go.bipush (z := (32 : Int32)) (pc' := 19) C X105 d13_17 rfl rfl ?_
    by_cases hc19_106 : x1 = (32 : Int32)
    · refine Go.icmpYes (pc' := 41) C X105 d13_19 (teq (x := x1) (y := (32 : Int32)) hc19_106).1 (by decide) (by decide) ?_
      refine Go.iinc (Ls' := #[.val (.ref v), .val (.int (2 : Int32)), .val (.int ((1 : Int32) + (1 : Int32))), .val (.int x1)]) (z := (1 : Int32)) (pc' := 44) C X105 d13_41 rfl rfl rfl rfl ?_
      rw [show ((1 : Int32) + (1 : Int32)) = (2 : Int32) from by decide]
      refine Go.goto (pc' := 5) C X105 d13_44 (by decide) (by decide) ?_
      refine Go.iloadN (pc' := 6) C X105 d13_5 rfl rfl ?_
      refine Go.iloadN (pc' := 7) C X105 d13_6 rfl rfl ?_
      refine Go.icmpYes (pc' := 47) C X105 d13_7 (flt (x := (2 : Int32)) (y := (2 : Int32)) (by decide)).2.1 (by decide) (by decide) ?_
      refine Go.iloadN (pc' := 48) C X105 d13_47 rfl rfl ?_
      exact Go.retI C X105 rfl d13_48 (by rw [e105]; exact ⟨(2 : Int32), rfl, (by simp), rfl, (absurd ⟨hc19_103, hc19_106⟩ hns)⟩) (by decide) (by decide)
    · refine Go.icmpNo (pc' := 22) C X105 d13_19 (feq (x := x1) (y := (32 : Int32)) hc19_106).1 rfl ?_
      refine Go.iloadN (pc' := 23) C X105 d13_22 rfl rfl ?_
      refine Go.bipush (z := (9 : Int32)) (pc' := 25) C X105 d13_23 rfl rfl ?_
      refine Go.icmpNo (pc' := 28) C X105 d13_25 (feq (x := x1) (y := (9 : Int32)) hx1.n9).1 rfl ?_
      refine Go.getS (pc' := 31) (host := "") C X105 (Or.inl (tw hw 68 rfl)) Via.refl e105 (SI.ext O0) d13_28 rfl ?_
      intro T109 X109 e109
      refine Go.iloadN (pc' := 32) C X109 d13_31 rfl rfl ?_
      refine Go.callV (y := (⟨"java/lang/CharacterDataLatin1", "isWhitespace", "(I)Z"⟩ : MethodName)) (z := (⟨"java/lang/CharacterDataLatin1", "isWhitespace", "(I)Z"⟩ : MethodName)) (a := ci) (pc' := 35) C X109 (tw hw 70 rfl) (tw hw 71 rfl) (notFace_at C.2.1 (tw hw 73 rfl)) (tw hw 73 rfl) (tw hw 72 rfl) (Exa.ext O0 Ec) (by decide) (rm_iw l Z a0 hw ci x1 ta tk ts h0 O0 Ec SA AA (hx1.g hc19_106) ht) (tw hw 74 rfl) (tw hw 69 rfl) e109 (argsL := [(.int x1)]) (rest := []) (W := 0) rfl rfl pd_11 rfl (Nat.le_of_eq rfl) rfl (by decide) (by decide) (by decide) (by decide) d13_32 rfl ?_
      intro T110 v110 L110 X110 q110
      obtain ⟨rfl, rfl, e110⟩ := q110
      have N110 := Fr.app N105 (Fr.nil _)
      refine Go.ifNo (pc' := 38) C X110 d13_35 ((if0 _ _).trans (teq (x := (0 : Int32)) (y := (0 : Int32)) (by decide)).2) rfl ?_
      refine Go.goto (pc' := 47) C X110 d13_38 (by decide) (by decide) ?_
      refine Go.iloadN (pc' := 48) C X110 d13_47 rfl rfl ?_
      exact Go.retI C X110 rfl d13_48 (by rw [e110]; exact ⟨(1 : Int32), rfl, (by simp), rfl, (by decide)⟩) (by decide) (by decide)
  · refine Go.icmpNo (pc' := 22) C X102 d13_19 (feq (x := x0) (y := (32 : Int32)) hc19_103).1 rfl ?_
    refine Go.iloadN (pc' := 23) C X102 d13_22 rfl rfl ?_
    refine Go.bipush (z := (9 : Int32)) (pc' := 25) C X102 d13_23 rfl rfl ?_
    refine Go.icmpNo (pc' := 28) C X102 d13_25 (feq (x := x0) (y := (9 : Int32)) hx0.n9).1 rfl ?_
    refine Go.getS (pc' := 31) (host := "") C X102 (Or.inl (tw hw 68 rfl)) Via.refl e102 (SI.ext O0) d13_28 rfl ?_
    intro T113 X113 e113
    refine Go.iloadN (pc' := 32) C X113 d13_31 rfl rfl ?_
    refine Go.callV (y := (⟨"java/lang/CharacterDataLatin1", "isWhitespace", "(I)Z"⟩ : MethodName)) (z := (⟨"java/lang/CharacterDataLatin1", "isWhitespace", "(I)Z"⟩ : MethodName)) (a := ci) (pc' := 35) C X113 (tw hw 70 rfl) (tw hw 71 rfl) (notFace_at C.2.1 (tw hw 73 rfl)) (tw hw 73 rfl) (tw hw 72 rfl) (Exa.ext O0 Ec) (by decide) (rm_iw l Z a0 hw ci x0 ta tk ts h0 O0 Ec SA AA (hx0.g hc19_103) ht) (tw hw 74 rfl) (tw hw 69 rfl) e113 (argsL := [(.int x0)]) (rest := []) (W := 0) rfl rfl pd_11 rfl (Nat.le_of_eq rfl) rfl (by decide) (by decide) (by decide) (by decide) d13_32 rfl ?_
    intro T114 v114 L114 X114 q114
    obtain ⟨rfl, rfl, e114⟩ := q114
    have N114 := Fr.app N102 (Fr.nil _)
    refine Go.ifNo (pc' := 38) C X114 d13_35 ((if0 _ _).trans (teq (x := (0 : Int32)) (y := (0 : Int32)) (by decide)).2) rfl ?_
    refine Go.goto (pc' := 47) C X114 d13_38 (by decide) (by decide) ?_
    refine Go.iloadN (pc' := 48) C X114 d13_47 rfl rfl ?_
    exact Go.retI C X114 rfl d13_48 (by rw [e114]; exact ⟨(0 : Int32), rfl, (by simp), rfl, (by decide)⟩) (by decide) (by decide)
def Q_snw2 (Z : State) (s1 : Addr) (v : Addr) (k : ClassId) (cP : Int32) (x0 : Int32) (x1 : Int32) (ci : Addr) (ta : Addr) (tk : ClassId) (ts : List Value) (h0 : Heap) (rv : Option Value) (h : Heap) (L : List Loc) : Prop := ∃ r : Int32, rv = some (.int r) ∧ L = [] ∧ h = h0 ∧ (¬ r = (2 : Int32))
set_option maxRecDepth 65536 in
set_option maxHeartbeats 40000000 in
theorem rm_snw2 (l : Launch) (Z : State) (a0 : Array Value) (hw : ∀ d ∈ tables_1, d.before a0 Z = true) (s1 : Addr) (v : Addr) (k : ClassId) (cP : Int32) (x0 : Int32) (x1 : Int32) (ci : Addr) (ta : Addr) (tk : ClassId) (ts : List Value) (h0 : Heap) (O0 : Ext Z.heap h0) (E0 : Exa Z h0 s1 "java/lang/String") (Fv : Fld Z h0 s1 "java/lang/String" "value" "[B" (.ref v)) (Fc : Fld Z h0 s1 "java/lang/String" "coder" "B" (.int (0 : Int32))) (Bx : AL Z h0 v k .byte (by8 [x0, x1])) (SC : Sta Z Z.heap "java/lang/String" "COMPACT_STRINGS" "Z" (.int cP)) (SI : Sta Z Z.heap "java/lang/CharacterDataLatin1" "instance" "Ljava/lang/CharacterDataLatin1;" (.ref ci)) (Ec : Exa Z Z.heap ci "java/lang/CharacterDataLatin1") (SA : Sta Z Z.heap "java/lang/CharacterDataLatin1" "A" "[I" (.ref ta)) (AA : AL Z Z.heap ta tk .int ts) (hx0 : Pr x0) (hx1 : Pr x1) (hns : ¬ (x0 = (32 : Int32) ∧ x1 = (32 : Int32))) (ht : ∀ i : Nat, 33 ≤ i → i < 256 → ∃ u : Int32, ts[i]? = some (.int u) ∧ ¬ (u &&& (28672 : Int32)) = (16384 : Int32)) (hP : ¬ cP = (0 : Int32)) :
    Met1 l Z (⟨"java/lang/String", "indexOfNonWhitespace", "()I"⟩ : MethodName) jdk_42_method_120_code 1 (some .int) ({ frames := 3, cells := 0, slots := 0, locals := 44 } : Room) #[(.ref s1)] h0 (Q_snw2 Z s1 v k cP x0 x1 ci ta tk ts h0) := by
  refine Met1.of_body (Ls := #[.val (.ref s1)]) pf_11 (fun m => by first | (simp [entryFrame, mkF, argsToLocals, Value.category]; done) | rfl) ?_
  intro p e s m below meth c T0 C X0 e0
  have N0 : Fr Z.heap.size [] := Fr.nil _
  refine Go.aloadN (pc' := 1) C X0 d11_0 rfl rfl rfl ?_
  refine Go.callV (y := (⟨"java/lang/String", "isLatin1", "()Z"⟩ : MethodName)) (z := (⟨"java/lang/String", "isLatin1", "()Z"⟩ : MethodName)) (a := s1) (pc' := 4) C X0 (tw hw 56 rfl) (tw hw 57 rfl) (notFace_at C.2.1 (tw hw 59 rfl)) (tw hw 59 rfl) (tw hw 58 rfl) E0 (by decide) (rm_isL l Z a0 hw s1 cP h0 O0 Fc SC hP) (tw hw 60 rfl) (tw hw 7 rfl) e0 (argsL := []) (rest := []) (W := 0) rfl rfl pd_7 rfl (Nat.le_of_eq rfl) rfl (by decide) (by decide) (by decide) (by decide) d11_1 rfl ?_
  intro T101 v101 L101 X101 q101
  obtain ⟨rfl, rfl, e101⟩ := q101
  have N101 := Fr.app N0 (Fr.nil _)
  refine Go.ifNo (pc' := 7) C X101 d11_4 ((if0 _ _).trans (feq (x := (1 : Int32)) (y := (0 : Int32)) (by decide)).1) rfl ?_
  refine Go.aloadN (pc' := 8) C X101 d11_7 rfl rfl rfl ?_
  refine Go.getF (pc' := 11) (host := "") C X101 (Or.inl (tw hw 25 rfl)) Via.refl e101 Fv d11_8 rfl ?_
  intro T103 X103 e103
  refine Go.callS (y := (⟨"java/lang/StringLatin1", "indexOfNonWhitespace", "([B)I"⟩ : MethodName)) (pc' := 14) C X103 (tw hw 61 rfl) (tw hw 62 rfl) (by decide) (rm_lnw2 l Z a0 hw v k x0 x1 ci ta tk ts h0 O0 Bx SI Ec SA AA hx0 hx1 hns ht) (tw hw 64 rfl) (tw hw 63 rfl) e103 (argsL := [(.ref v)]) (rest := []) (W := 0) rfl rfl pd_12 rfl (Nat.le_of_eq rfl) rfl (by decide) (by decide) (by decide) (by decide) d11_11 rfl ?_
  intro T104 v104 L104 X104 q104
  obtain ⟨r_104, rfl, rfl, e104, p104_0⟩ := q104
  have N104 := Fr.app N101 (Fr.nil _)
  refine Go.goto (pc' := 24) C X104 d11_14 (by decide) (by decide) ?_
  exact Go.retI C X104 rfl d11_24 (by rw [e104]; exact ⟨r_104, rfl, (by simp), rfl, p104_0⟩) (by decide) (by decide)
def Q_bl2 (Z : State) (s1 : Addr) (v : Addr) (k : ClassId) (cP : Int32) (x0 : Int32) (x1 : Int32) (ci : Addr) (ta : Addr) (tk : ClassId) (ts : List Value) (h0 : Heap) (rv : Option Value) (h : Heap) (L : List Loc) : Prop := rv = some (.int (0 : Int32)) ∧ L = [] ∧ h = h0
set_option maxRecDepth 65536 in
set_option maxHeartbeats 40000000 in
theorem rm_bl2 (l : Launch) (Z : State) (a0 : Array Value) (hw : ∀ d ∈ tables_1, d.before a0 Z = true) (s1 : Addr) (v : Addr) (k : ClassId) (cP : Int32) (x0 : Int32) (x1 : Int32) (ci : Addr) (ta : Addr) (tk : ClassId) (ts : List Value) (h0 : Heap) (O0 : Ext Z.heap h0) (E0 : Exa Z h0 s1 "java/lang/String") (Fv : Fld Z h0 s1 "java/lang/String" "value" "[B" (.ref v)) (Fc : Fld Z h0 s1 "java/lang/String" "coder" "B" (.int (0 : Int32))) (Bx : AL Z h0 v k .byte (by8 [x0, x1])) (SC : Sta Z Z.heap "java/lang/String" "COMPACT_STRINGS" "Z" (.int cP)) (SI : Sta Z Z.heap "java/lang/CharacterDataLatin1" "instance" "Ljava/lang/CharacterDataLatin1;" (.ref ci)) (Ec : Exa Z Z.heap ci "java/lang/CharacterDataLatin1") (SA : Sta Z Z.heap "java/lang/CharacterDataLatin1" "A" "[I" (.ref ta)) (AA : AL Z Z.heap ta tk .int ts) (hx0 : Pr x0) (hx1 : Pr x1) (hns : ¬ (x0 = (32 : Int32) ∧ x1 = (32 : Int32))) (ht : ∀ i : Nat, 33 ≤ i → i < 256 → ∃ u : Int32, ts[i]? = some (.int u) ∧ ¬ (u &&& (28672 : Int32)) = (16384 : Int32)) (hP : ¬ cP = (0 : Int32)) :
    Met1 l Z (⟨"java/lang/String", "isBlank", "()Z"⟩ : MethodName) jdk_42_method_117_code 1 (some .boolean) ({ frames := 4, cells := 0, slots := 0, locals := 56 } : Room) #[(.ref s1)] h0 (Q_bl2 Z s1 v k cP x0 x1 ci ta tk ts h0) := by
  refine Met1.of_body (Ls := #[.val (.ref s1)]) pf_10 (fun m => by first | (simp [entryFrame, mkF, argsToLocals, Value.category]; done) | rfl) ?_
  intro p e s m below meth c T0 C X0 e0
  have N0 : Fr Z.heap.size [] := Fr.nil _
  refine Go.aloadN (pc' := 1) C X0 d10_0 rfl rfl rfl ?_
  refine Go.callP (y := (⟨"java/lang/String", "indexOfNonWhitespace", "()I"⟩ : MethodName)) (a := s1) (pc' := 4) C X0 (tw hw 51 rfl) (tw hw 52 rfl) (tw hw 54 rfl) (tw hw 53 rfl) E0 (by decide) (rm_snw2 l Z a0 hw s1 v k cP x0 x1 ci ta tk ts h0 O0 E0 Fv Fc Bx SC SI Ec SA AA hx0 hx1 hns ht hP) (tw hw 55 rfl) (tw hw 7 rfl) e0 (argsL := []) (rest := []) (W := 0) rfl rfl pd_13 rfl (Nat.le_of_eq rfl) rfl (by decide) (by decide) (by decide) (by decide) d10_1 rfl ?_
  intro T101 v101 L101 X101 q101
  obtain ⟨r_101, rfl, rfl, e101, p101_0⟩ := q101
  have N101 := Fr.app N0 (Fr.nil _)
  refine Go.aloadN (pc' := 5) C X101 d10_4 rfl rfl rfl ?_
  refine Go.callV (y := (⟨"java/lang/String", "length", "()I"⟩ : MethodName)) (z := (⟨"java/lang/String", "length", "()I"⟩ : MethodName)) (a := s1) (pc' := 8) C X101 (tw hw 81 rfl) (tw hw 82 rfl) (notFace_at C.2.1 (tw hw 84 rfl)) (tw hw 84 rfl) (tw hw 83 rfl) E0 (by decide) (rm_len l Z a0 hw s1 v k ([x0, x1]) cP ((2 : Int32)) h0 O0 E0 Fv Fc Bx SC hP rfl) (tw hw 85 rfl) (tw hw 7 rfl) e101 (argsL := []) (rest := [(.int r_101)]) (W := 1) rfl rfl pd_13 rfl (Nat.le_of_eq rfl) rfl (by decide) (by decide) (by decide) (by decide) d10_5 rfl ?_
  intro T102 v102 L102 X102 q102
  obtain ⟨rfl, rfl, e102⟩ := q102
  have N102 := Fr.app N101 (Fr.nil _)
  refine Go.icmpYes (pc' := 15) C X102 d10_8 (feq (x := r_101) (y := (2 : Int32)) p101_0).2 (by decide) (by decide) ?_
  refine Go.iconst (z := (0 : Int32)) (pc' := 16) C X102 d10_15 rfl rfl ?_
  exact Go.retN C X102 rfl d10_16 (by simp) (by rw [e102]; exact ⟨rfl, (by simp), rfl⟩) (by decide) (by decide)
def Q_hc2 (Z : State) (s1 : Addr) (v : Addr) (k : ClassId) (cP : Int32) (fm : Value) (x0 : Int32) (x1 : Int32) (h0 : Heap) (rv : Option Value) (h : Heap) (L : List Loc) : Prop := rv = some (.int (0 : Int32)) ∧ L = [] ∧ h = h0
set_option maxRecDepth 65536 in
set_option maxHeartbeats 40000000 in
theorem rm_hc2 (l : Launch) (Z : State) (a0 : Array Value) (hw : ∀ d ∈ tables_1, d.before a0 Z = true) (s1 : Addr) (v : Addr) (k : ClassId) (cP : Int32) (fm : Value) (x0 : Int32) (x1 : Int32) (h0 : Heap) (O0 : Ext Z.heap h0) (E0 : Exa Z h0 s1 "java/lang/String") (Fv : Fld Z h0 s1 "java/lang/String" "value" "[B" (.ref v)) (Fc : Fld Z h0 s1 "java/lang/String" "coder" "B" (.int (0 : Int32))) (Bx : AL Z h0 v k .byte (by8 [x0, x1])) (SC : Sta Z Z.heap "java/lang/String" "COMPACT_STRINGS" "Z" (.int cP)) (SF : Sta Z Z.heap "jdk/internal/util/Preconditions" "SIOOBE_FORMATTER" "Ljava/util/function/BiFunction;" fm) (hx0 : Pr x0) (hx1 : Pr x1) (hP : ¬ cP = (0 : Int32)) (hfm : fm.category = 1) :
    Met1 l Z (⟨"com/example/tranche/tranche/Notation", "holdsControl", "(Ljava/lang/String;)Z"⟩ : MethodName) prog_14_method_12_code 2 (some .boolean) ({ frames := 4, cells := 0, slots := 0, locals := 53 } : Room) #[(.ref s1)] h0 (Q_hc2 Z s1 v k cP fm x0 x1 h0) := by
  refine Met1.of_body (Ls := #[.val (.ref s1), .unset]) pf_19 (fun m => by first | (simp [entryFrame, mkF, argsToLocals, Value.category]; done) | rfl) ?_
  intro p e s m below meth c T0 C X0 e0
  have N0 : Fr Z.heap.size [] := Fr.nil _
  refine Go.iconst (z := (0 : Int32)) (pc' := 1) C X0 d19_0 rfl rfl ?_
  refine Go.istoreN (Ls' := #[.val (.ref s1), .val (.int (0 : Int32))]) (pc' := 2) C X0 d19_1 rfl rfl ?_
  refine Go.iloadN (pc' := 3) C X0 d19_2 rfl rfl ?_
  refine Go.aloadN (pc' := 4) C X0 d19_3 rfl rfl rfl ?_
  refine Go.callV (y := (⟨"java/lang/String", "length", "()I"⟩ : MethodName)) (z := (⟨"java/lang/String", "length", "()I"⟩ : MethodName)) (a := s1) (pc' := 7) C X0 (tw hw 94 rfl) (tw hw 82 rfl) (notFace_at C.2.1 (tw hw 84 rfl)) (tw hw 84 rfl) (tw hw 83 rfl) E0 (by decide) (rm_len l Z a0 hw s1 v k ([x0, x1]) cP ((2 : Int32)) h0 O0 E0 Fv Fc Bx SC hP rfl) (tw hw 85 rfl) (tw hw 7 rfl) e0 (argsL := []) (rest := [(.int (0 : Int32))]) (W := 1) rfl rfl pd_13 rfl (Nat.le_of_eq rfl) rfl (by decide) (by decide) (by decide) (by decide) d19_4 rfl ?_
  intro T101 v101 L101 X101 q101
  obtain ⟨rfl, rfl, e101⟩ := q101
  have N101 := Fr.app N0 (Fr.nil _)
  refine Go.icmpNo (pc' := 10) C X101 d19_7 (tlt (x := (0 : Int32)) (y := (2 : Int32)) (by decide)).2.1 rfl ?_
  refine Go.aloadN (pc' := 11) C X101 d19_10 rfl rfl rfl ?_
  refine Go.iloadN (pc' := 12) C X101 d19_11 rfl rfl ?_
  refine Go.callV (y := (⟨"java/lang/String", "charAt", "(I)C"⟩ : MethodName)) (z := (⟨"java/lang/String", "charAt", "(I)C"⟩ : MethodName)) (a := s1) (pc' := 15) C X101 (tw hw 95 rfl) (tw hw 96 rfl) (notFace_at C.2.1 (tw hw 98 rfl)) (tw hw 98 rfl) (tw hw 97 rfl) E0 (by decide) (rm_chA l Z a0 hw s1 cP v k ([x0, x1]) ((0 : Int32)) 0 x0 fm ((2 : Int32)) h0 O0 E0 Fv Fc Bx SC SF hP (by decide) (by decide) rfl hx0.r (by decide) rfl hfm) (tw hw 99 rfl) (tw hw 7 rfl) e101 (argsL := [(.int (0 : Int32))]) (rest := []) (W := 0) rfl rfl pd_14 rfl (Nat.le_of_eq rfl) rfl (by decide) (by decide) (by decide) (by decide) d19_12 rfl ?_
  intro T103 v103 L103 X103 q103
  obtain ⟨rfl, rfl, e103⟩ := q103
  have N103 := Fr.app N101 (Fr.nil _)
  refine Go.bipush (z := (32 : Int32)) (pc' := 17) C X103 d19_15 rfl rfl ?_
  refine Go.icmpNo (pc' := 20) C X103 d19_17 (flt (x := x0) (y := (32 : Int32)) hx0.lt).1 rfl ?_
  refine Go.aloadN (pc' := 21) C X103 d19_20 rfl rfl rfl ?_
  refine Go.iloadN (pc' := 22) C X103 d19_21 rfl rfl ?_
  refine Go.callV (y := (⟨"java/lang/String", "charAt", "(I)C"⟩ : MethodName)) (z := (⟨"java/lang/String", "charAt", "(I)C"⟩ : MethodName)) (a := s1) (pc' := 25) C X103 (tw hw 95 rfl) (tw hw 96 rfl) (notFace_at C.2.1 (tw hw 98 rfl)) (tw hw 98 rfl) (tw hw 97 rfl) E0 (by decide) (rm_chA l Z a0 hw s1 cP v k ([x0, x1]) ((0 : Int32)) 0 x0 fm ((2 : Int32)) h0 O0 E0 Fv Fc Bx SC SF hP (by decide) (by decide) rfl hx0.r (by decide) rfl hfm) (tw hw 99 rfl) (tw hw 7 rfl) e103 (argsL := [(.int (0 : Int32))]) (rest := []) (W := 0) rfl rfl pd_14 rfl (Nat.le_of_eq rfl) rfl (by decide) (by decide) (by decide) (by decide) d19_22 rfl ?_
  intro T105 v105 L105 X105 q105
  obtain ⟨rfl, rfl, e105⟩ := q105
  have N105 := Fr.app N103 (Fr.nil _)
  refine Go.bipush (z := (127 : Int32)) (pc' := 27) C X105 d19_25 rfl rfl ?_
  refine Go.icmpYes (pc' := 32) C X105 d19_27 (feq (x := x0) (y := (127 : Int32)) hx0.ne).2 (by decide) (by decide) ?_
  refine Go.iinc (Ls' := #[.val (.ref s1), .val (.int ((0 : Int32) + (1 : Int32)))]) (z := (1 : Int32)) (pc' := 35) C X105 d19_32 rfl rfl rfl rfl ?_
  rw [show ((0 : Int32) + (1 : Int32)) = (1 : Int32) from by decide]
  refine Go.goto (pc' := 2) C X105 d19_35 (by decide) (by decide) ?_
  refine Go.iloadN (pc' := 3) C X105 d19_2 rfl rfl ?_
  refine Go.aloadN (pc' := 4) C X105 d19_3 rfl rfl rfl ?_
  refine Go.callV (y := (⟨"java/lang/String", "length", "()I"⟩ : MethodName)) (z := (⟨"java/lang/String", "length", "()I"⟩ : MethodName)) (a := s1) (pc' := 7) C X105 (tw hw 94 rfl) (tw hw 82 rfl) (notFace_at C.2.1 (tw hw 84 rfl)) (tw hw 84 rfl) (tw hw 83 rfl) E0 (by decide) (rm_len l Z a0 hw s1 v k ([x0, x1]) cP ((2 : Int32)) h0 O0 E0 Fv Fc Bx SC hP rfl) (tw hw 85 rfl) (tw hw 7 rfl) e105 (argsL := []) (rest := [(.int (1 : Int32))]) (W := 1) rfl rfl pd_13 rfl (Nat.le_of_eq rfl) rfl (by decide) (by decide) (by decide) (by decide) d19_4 rfl ?_
  intro T107 v107 L107 X107 q107
  obtain ⟨rfl, rfl, e107⟩ := q107
  have N107 := Fr.app N105 (Fr.nil _)
  refine Go.icmpNo (pc' := 10) C X107 d19_7 (tlt (x := (1 : Int32)) (y := (2 : Int32)) (by decide)).2.1 rfl ?_
  refine Go.aloadN (pc' := 11) C X107 d19_10 rfl rfl rfl ?_
  refine Go.iloadN (pc' := 12) C X107 d19_11 rfl rfl ?_
  refine Go.callV (y := (⟨"java/lang/String", "charAt", "(I)C"⟩ : MethodName)) (z := (⟨"java/lang/String", "charAt", "(I)C"⟩ : MethodName)) (a := s1) (pc' := 15) C X107 (tw hw 95 rfl) (tw hw 96 rfl) (notFace_at C.2.1 (tw hw 98 rfl)) (tw hw 98 rfl) (tw hw 97 rfl) E0 (by decide) (rm_chA l Z a0 hw s1 cP v k ([x0, x1]) ((1 : Int32)) 1 x1 fm ((2 : Int32)) h0 O0 E0 Fv Fc Bx SC SF hP (by decide) (by decide) rfl hx1.r (by decide) rfl hfm) (tw hw 99 rfl) (tw hw 7 rfl) e107 (argsL := [(.int (1 : Int32))]) (rest := []) (W := 0) rfl rfl pd_14 rfl (Nat.le_of_eq rfl) rfl (by decide) (by decide) (by decide) (by decide) d19_12 rfl ?_
  intro T109 v109 L109 X109 q109
  obtain ⟨rfl, rfl, e109⟩ := q109
  have N109 := Fr.app N107 (Fr.nil _)
  refine Go.bipush (z := (32 : Int32)) (pc' := 17) C X109 d19_15 rfl rfl ?_
  refine Go.icmpNo (pc' := 20) C X109 d19_17 (flt (x := x1) (y := (32 : Int32)) hx1.lt).1 rfl ?_
  refine Go.aloadN (pc' := 21) C X109 d19_20 rfl rfl rfl ?_
  refine Go.iloadN (pc' := 22) C X109 d19_21 rfl rfl ?_
  refine Go.callV (y := (⟨"java/lang/String", "charAt", "(I)C"⟩ : MethodName)) (z := (⟨"java/lang/String", "charAt", "(I)C"⟩ : MethodName)) (a := s1) (pc' := 25) C X109 (tw hw 95 rfl) (tw hw 96 rfl) (notFace_at C.2.1 (tw hw 98 rfl)) (tw hw 98 rfl) (tw hw 97 rfl) E0 (by decide) (rm_chA l Z a0 hw s1 cP v k ([x0, x1]) ((1 : Int32)) 1 x1 fm ((2 : Int32)) h0 O0 E0 Fv Fc Bx SC SF hP (by decide) (by decide) rfl hx1.r (by decide) rfl hfm) (tw hw 99 rfl) (tw hw 7 rfl) e109 (argsL := [(.int (1 : Int32))]) (rest := []) (W := 0) rfl rfl pd_14 rfl (Nat.le_of_eq rfl) rfl (by decide) (by decide) (by decide) (by decide) d19_22 rfl ?_
  intro T111 v111 L111 X111 q111
  obtain ⟨rfl, rfl, e111⟩ := q111
  have N111 := Fr.app N109 (Fr.nil _)
  refine Go.bipush (z := (127 : Int32)) (pc' := 27) C X111 d19_25 rfl rfl ?_
  refine Go.icmpYes (pc' := 32) C X111 d19_27 (feq (x := x1) (y := (127 : Int32)) hx1.ne).2 (by decide) (by decide) ?_
  refine Go.iinc (Ls' := #[.val (.ref s1), .val (.int ((1 : Int32) + (1 : Int32)))]) (z := (1 : Int32)) (pc' := 35) C X111 d19_32 rfl rfl rfl rfl ?_
  rw [show ((1 : Int32) + (1 : Int32)) = (2 : Int32) from by decide]
  refine Go.goto (pc' := 2) C X111 d19_35 (by decide) (by decide) ?_
  refine Go.iloadN (pc' := 3) C X111 d19_2 rfl rfl ?_
  refine Go.aloadN (pc' := 4) C X111 d19_3 rfl rfl rfl ?_
  refine Go.callV (y := (⟨"java/lang/String", "length", "()I"⟩ : MethodName)) (z := (⟨"java/lang/String", "length", "()I"⟩ : MethodName)) (a := s1) (pc' := 7) C X111 (tw hw 94 rfl) (tw hw 82 rfl) (notFace_at C.2.1 (tw hw 84 rfl)) (tw hw 84 rfl) (tw hw 83 rfl) E0 (by decide) (rm_len l Z a0 hw s1 v k ([x0, x1]) cP ((2 : Int32)) h0 O0 E0 Fv Fc Bx SC hP rfl) (tw hw 85 rfl) (tw hw 7 rfl) e111 (argsL := []) (rest := [(.int (2 : Int32))]) (W := 1) rfl rfl pd_13 rfl (Nat.le_of_eq rfl) rfl (by decide) (by decide) (by decide) (by decide) d19_4 rfl ?_
  intro T113 v113 L113 X113 q113
  obtain ⟨rfl, rfl, e113⟩ := q113
  have N113 := Fr.app N111 (Fr.nil _)
  refine Go.icmpYes (pc' := 38) C X113 d19_7 (flt (x := (2 : Int32)) (y := (2 : Int32)) (by decide)).2.1 (by decide) (by decide) ?_
  refine Go.iconst (z := (0 : Int32)) (pc' := 39) C X113 d19_38 rfl rfl ?_
  exact Go.retN C X113 rfl d19_39 (by simp) (by rw [e113]; exact ⟨rfl, (by simp), rfl⟩) (by decide) (by decide)
def Q_nm2 (Z : State) (kk : Addr) (s1 : Addr) (v : Addr) (k : ClassId) (cP : Int32) (fm : Value) (x0 : Int32) (x1 : Int32) (ci : Addr) (ta : Addr) (tk : ClassId) (ts : List Value) (h0 : Heap) (rv : Option Value) (h : Heap) (L : List Loc) : Prop := rv = some (.ref s1) ∧ L = [] ∧ h = h0
set_option maxRecDepth 65536 in
set_option maxHeartbeats 40000000 in
theorem rm_nm2 (l : Launch) (Z : State) (a0 : Array Value) (hw : ∀ d ∈ tables_1, d.before a0 Z = true) (kk : Addr) (s1 : Addr) (v : Addr) (k : ClassId) (cP : Int32) (fm : Value) (x0 : Int32) (x1 : Int32) (ci : Addr) (ta : Addr) (tk : ClassId) (ts : List Value) (h0 : Heap) (O0 : Ext Z.heap h0) (E0 : Exa Z h0 s1 "java/lang/String") (Fv : Fld Z h0 s1 "java/lang/String" "value" "[B" (.ref v)) (Fc : Fld Z h0 s1 "java/lang/String" "coder" "B" (.int (0 : Int32))) (Bx : AL Z h0 v k .byte (by8 [x0, x1])) (SC : Sta Z Z.heap "java/lang/String" "COMPACT_STRINGS" "Z" (.int cP)) (SF : Sta Z Z.heap "jdk/internal/util/Preconditions" "SIOOBE_FORMATTER" "Ljava/util/function/BiFunction;" fm) (SI : Sta Z Z.heap "java/lang/CharacterDataLatin1" "instance" "Ljava/lang/CharacterDataLatin1;" (.ref ci)) (Ec : Exa Z Z.heap ci "java/lang/CharacterDataLatin1") (SA : Sta Z Z.heap "java/lang/CharacterDataLatin1" "A" "[I" (.ref ta)) (AA : AL Z Z.heap ta tk .int ts) (hx0 : Pr x0) (hx1 : Pr x1) (hns : ¬ (x0 = (32 : Int32) ∧ x1 = (32 : Int32))) (ht : ∀ i : Nat, 33 ≤ i → i < 256 → ∃ u : Int32, ts[i]? = some (.int u) ∧ ¬ (u &&& (28672 : Int32)) = (16384 : Int32)) (hP : ¬ cP = (0 : Int32)) (hfm : fm.category = 1) :
    Met1 l Z (⟨"com/example/tranche/tranche/Notation", "name", "(Ljava/lang/String;Ljava/lang/String;)Ljava/lang/String;"⟩ : MethodName) prog_14_method_2_code 2 (some (.object "java/lang/String")) ({ frames := 5, cells := 0, slots := 0, locals := 68 } : Room) #[(.ref kk), (.ref s1)] h0 (Q_nm2 Z kk s1 v k cP fm x0 x1 ci ta tk ts h0) := by
  refine Met1.of_body (Ls := #[.val (.ref kk), .val (.ref s1)]) pf_9 (fun m => by first | (simp [entryFrame, mkF, argsToLocals, Value.category]; done) | rfl) ?_
  intro p e s m below meth c T0 C X0 e0
  have N0 : Fr Z.heap.size [] := Fr.nil _
  refine Go.aloadN (pc' := 1) C X0 d9_0 rfl rfl rfl ?_
  refine Go.ifnullNo (pc' := 4) C X0 d9_1 rfl ?_
  refine Go.aloadN (pc' := 5) C X0 d9_4 rfl rfl rfl ?_
  refine Go.callV (y := (⟨"java/lang/String", "isBlank", "()Z"⟩ : MethodName)) (z := (⟨"java/lang/String", "isBlank", "()Z"⟩ : MethodName)) (a := s1) (pc' := 8) C X0 (tw hw 46 rfl) (tw hw 47 rfl) (notFace_at C.2.1 (tw hw 49 rfl)) (tw hw 49 rfl) (tw hw 48 rfl) E0 (by decide) (rm_bl2 l Z a0 hw s1 v k cP x0 x1 ci ta tk ts h0 O0 E0 Fv Fc Bx SC SI Ec SA AA hx0 hx1 hns ht hP) (tw hw 50 rfl) (tw hw 7 rfl) e0 (argsL := []) (rest := []) (W := 0) rfl rfl pd_7 rfl (Nat.le_of_eq rfl) rfl (by decide) (by decide) (by decide) (by decide) d9_5 rfl ?_
  intro T101 v101 L101 X101 q101
  obtain ⟨rfl, rfl, e101⟩ := q101
  have N101 := Fr.app N0 (Fr.nil _)
  refine Go.ifYes (pc' := 25) C X101 d9_8 ((if0 _ _).trans (teq (x := (0 : Int32)) (y := (0 : Int32)) (by decide)).1) (by decide) (by decide) ?_
  refine Go.aloadN (pc' := 26) C X101 d9_25 rfl rfl rfl ?_
  refine Go.callS (y := (⟨"com/example/tranche/tranche/Notation", "holdsControl", "(Ljava/lang/String;)Z"⟩ : MethodName)) (pc' := 29) C X101 (tw hw 91 rfl) (tw hw 92 rfl) (by decide) (rm_hc2 l Z a0 hw s1 v k cP fm x0 x1 h0 O0 E0 Fv Fc Bx SC SF hx0 hx1 hP hfm) (tw hw 93 rfl) (tw hw 44 rfl) e101 (argsL := [(.ref s1)]) (rest := []) (W := 0) rfl rfl pd_15 rfl (Nat.le_of_eq rfl) rfl (by decide) (by decide) (by decide) (by decide) d9_26 rfl ?_
  intro T103 v103 L103 X103 q103
  obtain ⟨rfl, rfl, e103⟩ := q103
  have N103 := Fr.app N101 (Fr.nil _)
  refine Go.ifYes (pc' := 46) C X103 d9_29 ((if0 _ _).trans (teq (x := (0 : Int32)) (y := (0 : Int32)) (by decide)).1) (by decide) (by decide) ?_
  refine Go.aloadN (pc' := 47) C X103 d9_46 rfl rfl rfl ?_
  exact Go.retA C X103 rfl d9_47 rfl rfl rfl (by rw [e103]; exact ⟨rfl, (by simp), rfl⟩) (by decide) (by decide)
def Q_lnw3 (Z : State) (v : Addr) (k : ClassId) (x0 : Int32) (x1 : Int32) (x2 : Int32) (ci : Addr) (ta : Addr) (tk : ClassId) (ts : List Value) (h0 : Heap) (rv : Option Value) (h : Heap) (L : List Loc) : Prop := ∃ r : Int32, rv = some (.int r) ∧ L = [] ∧ h = h0 ∧ (¬ r = (3 : Int32))
set_option maxRecDepth 65536 in
set_option maxHeartbeats 40000000 in
theorem rm_lnw3 (l : Launch) (Z : State) (a0 : Array Value) (hw : ∀ d ∈ tables_1, d.before a0 Z = true) (v : Addr) (k : ClassId) (x0 : Int32) (x1 : Int32) (x2 : Int32) (ci : Addr) (ta : Addr) (tk : ClassId) (ts : List Value) (h0 : Heap) (O0 : Ext Z.heap h0) (Bx : AL Z h0 v k .byte (by8 [x0, x1, x2])) (SI : Sta Z Z.heap "java/lang/CharacterDataLatin1" "instance" "Ljava/lang/CharacterDataLatin1;" (.ref ci)) (Ec : Exa Z Z.heap ci "java/lang/CharacterDataLatin1") (SA : Sta Z Z.heap "java/lang/CharacterDataLatin1" "A" "[I" (.ref ta)) (AA : AL Z Z.heap ta tk .int ts) (hx0 : Pr x0) (hx1 : Pr x1) (hx2 : Pr x2) (hns : ¬ (x0 = (32 : Int32) ∧ x1 = (32 : Int32) ∧ x2 = (32 : Int32))) (ht : ∀ i : Nat, 33 ≤ i → i < 256 → ∃ u : Int32, ts[i]? = some (.int u) ∧ ¬ (u &&& (28672 : Int32)) = (16384 : Int32)) :
    Met1 l Z (⟨"java/lang/StringLatin1", "indexOfNonWhitespace", "([B)I"⟩ : MethodName) jdk_43_method_37_code 4 (some .int) ({ frames := 2, cells := 0, slots := 0, locals := 29 } : Room) #[(.ref v)] h0 (Q_lnw3 Z v k x0 x1 x2 ci ta tk ts h0) := by
  refine Met1.of_body (Ls := #[.val (.ref v), .unset, .unset, .unset]) pf_13 (fun m => by first | (simp [entryFrame, mkF, argsToLocals, Value.category]; done) | rfl) ?_
  intro p e s m below meth c T0 C X0 e0
  have N0 : Fr Z.heap.size [] := Fr.nil _
  refine Go.aloadN (pc' := 1) C X0 d13_0 rfl rfl rfl ?_
  refine Go.alen (z := (3 : Int32)) (pc' := 2) C X0 e0 Bx (by rw [by8_len]; rfl) d13_1 rfl ?_
  refine Go.istoreN (Ls' := #[.val (.ref v), .val (.int (3 : Int32)), .unset, .unset]) (pc' := 3) C X0 d13_2 rfl rfl ?_
  refine Go.iconst (z := (0 : Int32)) (pc' := 4) C X0 d13_3 rfl rfl ?_
  refine Go.istoreN (Ls' := #[.val (.ref v), .val (.int (3 : Int32)), .val (.int (0 : Int32)), .unset]) (pc' := 5) C X0 d13_4 rfl rfl ?_
  refine Go.iloadN (pc' := 6) C X0 d13_5 rfl rfl ?_
  refine Go.iloadN (pc' := 7) C X0 d13_6 rfl rfl ?_
  refine Go.icmpNo (pc' := 10) C X0 d13_7 (tlt (x := (0 : Int32)) (y := (3 : Int32)) (by decide)).2.1 rfl ?_
  refine Go.aloadN (pc' := 11) C X0 d13_10 rfl rfl rfl ?_
  refine Go.iloadN (pc' := 12) C X0 d13_11 rfl rfl ?_
  refine Go.callS (y := (⟨"java/lang/StringLatin1", "getChar", "([BI)C"⟩ : MethodName)) (pc' := 15) C X0 (tw hw 65 rfl) (tw hw 66 rfl) (by decide) (rm_gch l Z a0 hw v k ([x0, x1, x2]) ((0 : Int32)) 0 x0 h0 O0 Bx (by decide) (by decide) rfl hx0.r) (tw hw 67 rfl) (tw hw 63 rfl) e0 (argsL := [(.ref v), (.int (0 : Int32))]) (rest := []) (W := 0) rfl rfl pd_8 rfl (Nat.le_of_eq rfl) rfl (by decide) (by decide) (by decide) (by decide) d13_12 rfl ?_
  intro T102 v102 L102 X102 q102
  obtain ⟨rfl, rfl, e102⟩ := q102
  have N102 := Fr.app N0 (Fr.nil _)
  refine Go.istoreN (Ls' := #[.val (.ref v), .val (.int (3 : Int32)), .val (.int (0 : Int32)), .val (.int x0)]) (pc' := 16) C X102 d13_15 rfl rfl ?_
  refine Go.iloadN (pc' := 17) C X102 d13_16 rfl rfl ?_
  refine Go.bipush (z := (32 : Int32)) (pc' := 19) C X102 d13_17 rfl rfl ?_
  by_cases hc19_103 : x0 = (32 : Int32)
  · refine Go.icmpYes (pc' := 41) C X102 d13_19 (teq (x := x0) (y := (32 : Int32)) hc19_103).1 (by decide) (by decide) ?_
    refine Go.iinc (Ls' := #[.val (.ref v), .val (.int (3 : Int32)), .val (.int ((0 : Int32) + (1 : Int32))), .val (.int x0)]) (z := (1 : Int32)) (pc' := 44) C X102 d13_41 rfl rfl rfl rfl ?_
    rw [show ((0 : Int32) + (1 : Int32)) = (1 : Int32) from by decide]
    refine Go.goto (pc' := 5) C X102 d13_44 (by decide) (by decide) ?_
    refine Go.iloadN (pc' := 6) C X102 d13_5 rfl rfl ?_
    refine Go.iloadN (pc' := 7) C X102 d13_6 rfl rfl ?_
    refine Go.icmpNo (pc' := 10) C X102 d13_7 (tlt (x := (1 : Int32)) (y := (3 : Int32)) (by decide)).2.1 rfl ?_
    refine Go.aloadN (pc' := 11) C X102 d13_10 rfl rfl rfl ?_
    refine Go.iloadN (pc' := 12) C X102 d13_11 rfl rfl ?_
    refine Go.callS (y := (⟨"java/lang/StringLatin1", "getChar", "([BI)C"⟩ : MethodName)) (pc' := 15) C X102 (tw hw 65 rfl) (tw hw 66 rfl) (by decide) (rm_gch l Z a0 hw v k ([x0, x1, x2]) ((1 : Int32)) 1 x1 h0 O0 Bx (by decide) (by decide) rfl hx1.r) (tw hw 67 rfl) (tw hw 63 rfl) e102 (argsL := [(.ref v), (.int (1 : Int32))]) (rest := []) (W := 0) rfl rfl pd_8 rfl (Nat.le_of_eq rfl) rfl (by decide) (by decide) (by decide) (by decide) d13_12 rfl ?_
    intro T105 v105 L105 X105 q105
    obtain ⟨rfl, rfl, e105⟩ := q105
    have N105 := Fr.app N102 (Fr.nil _)
    refine Go.istoreN (Ls' := #[.val (.ref v), .val (.int (3 : Int32)), .val (.int (1 : Int32)), .val (.int x1)]) (pc' := 16) C X105 d13_15 rfl rfl ?_
    refine Go.iloadN (pc' := 17) C X105 d13_16 rfl rfl ?_
    refine Go.bipush (z := (32 : Int32)) (pc' := 19) C X105 d13_17 rfl rfl ?_
    by_cases hc19_106 : x1 = (32 : Int32)
    · refine Go.icmpYes (pc' := 41) C X105 d13_19 (teq (x := x1) (y := (32 : Int32)) hc19_106).1 (by decide) (by decide) ?_
      refine Go.iinc (Ls' := #[.val (.ref v), .val (.int (3 : Int32)), .val (.int ((1 : Int32) + (1 : Int32))), .val (.int x1)]) (z := (1 : Int32)) (pc' := 44) C X105 d13_41 rfl rfl rfl rfl ?_
      rw [show ((1 : Int32) + (1 : Int32)) = (2 : Int32) from by decide]
      refine Go.goto (pc' := 5) C X105 d13_44 (by decide) (by decide) ?_
      refine Go.iloadN (pc' := 6) C X105 d13_5 rfl rfl ?_
      refine Go.iloadN (pc' := 7) C X105 d13_6 rfl rfl ?_
      refine Go.icmpNo (pc' := 10) C X105 d13_7 (tlt (x := (2 : Int32)) (y := (3 : Int32)) (by decide)).2.1 rfl ?_
      refine Go.aloadN (pc' := 11) C X105 d13_10 rfl rfl rfl ?_
      refine Go.iloadN (pc' := 12) C X105 d13_11 rfl rfl ?_
      refine Go.callS (y := (⟨"java/lang/StringLatin1", "getChar", "([BI)C"⟩ : MethodName)) (pc' := 15) C X105 (tw hw 65 rfl) (tw hw 66 rfl) (by decide) (rm_gch l Z a0 hw v k ([x0, x1, x2]) ((2 : Int32)) 2 x2 h0 O0 Bx (by decide) (by decide) rfl hx2.r) (tw hw 67 rfl) (tw hw 63 rfl) e105 (argsL := [(.ref v), (.int (2 : Int32))]) (rest := []) (W := 0) rfl rfl pd_8 rfl (Nat.le_of_eq rfl) rfl (by decide) (by decide) (by decide) (by decide) d13_12 rfl ?_
      intro T108 v108 L108 X108 q108
      obtain ⟨rfl, rfl, e108⟩ := q108
      have N108 := Fr.app N105 (Fr.nil _)
      refine Go.istoreN (Ls' := #[.val (.ref v), .val (.int (3 : Int32)), .val (.int (2 : Int32)), .val (.int x2)]) (pc' := 16) C X108 d13_15 rfl rfl ?_
      refine Go.iloadN (pc' := 17) C X108 d13_16 rfl rfl ?_
      refine Go.bipush (z := (32 : Int32)) (pc' := 19) C X108 d13_17 rfl rfl ?_
      by_cases hc19_109 : x2 = (32 : Int32)
      · refine Go.icmpYes (pc' := 41) C X108 d13_19 (teq (x := x2) (y := (32 : Int32)) hc19_109).1 (by decide) (by decide) ?_
        refine Go.iinc (Ls' := #[.val (.ref v), .val (.int (3 : Int32)), .val (.int ((2 : Int32) + (1 : Int32))), .val (.int x2)]) (z := (1 : Int32)) (pc' := 44) C X108 d13_41 rfl rfl rfl rfl ?_
        rw [show ((2 : Int32) + (1 : Int32)) = (3 : Int32) from by decide]
        refine Go.goto (pc' := 5) C X108 d13_44 (by decide) (by decide) ?_
        refine Go.iloadN (pc' := 6) C X108 d13_5 rfl rfl ?_
        refine Go.iloadN (pc' := 7) C X108 d13_6 rfl rfl ?_
        refine Go.icmpYes (pc' := 47) C X108 d13_7 (flt (x := (3 : Int32)) (y := (3 : Int32)) (by decide)).2.1 (by decide) (by decide) ?_
        refine Go.iloadN (pc' := 48) C X108 d13_47 rfl rfl ?_
        exact Go.retI C X108 rfl d13_48 (by rw [e108]; exact ⟨(3 : Int32), rfl, (by simp), rfl, (absurd ⟨hc19_103, hc19_106, hc19_109⟩ hns)⟩) (by decide) (by decide)
      · refine Go.icmpNo (pc' := 22) C X108 d13_19 (feq (x := x2) (y := (32 : Int32)) hc19_109).1 rfl ?_
        refine Go.iloadN (pc' := 23) C X108 d13_22 rfl rfl ?_
        refine Go.bipush (z := (9 : Int32)) (pc' := 25) C X108 d13_23 rfl rfl ?_
        refine Go.icmpNo (pc' := 28) C X108 d13_25 (feq (x := x2) (y := (9 : Int32)) hx2.n9).1 rfl ?_
        refine Go.getS (pc' := 31) (host := "") C X108 (Or.inl (tw hw 68 rfl)) Via.refl e108 (SI.ext O0) d13_28 rfl ?_
        intro T112 X112 e112
        refine Go.iloadN (pc' := 32) C X112 d13_31 rfl rfl ?_
        refine Go.callV (y := (⟨"java/lang/CharacterDataLatin1", "isWhitespace", "(I)Z"⟩ : MethodName)) (z := (⟨"java/lang/CharacterDataLatin1", "isWhitespace", "(I)Z"⟩ : MethodName)) (a := ci) (pc' := 35) C X112 (tw hw 70 rfl) (tw hw 71 rfl) (notFace_at C.2.1 (tw hw 73 rfl)) (tw hw 73 rfl) (tw hw 72 rfl) (Exa.ext O0 Ec) (by decide) (rm_iw l Z a0 hw ci x2 ta tk ts h0 O0 Ec SA AA (hx2.g hc19_109) ht) (tw hw 74 rfl) (tw hw 69 rfl) e112 (argsL := [(.int x2)]) (rest := []) (W := 0) rfl rfl pd_11 rfl (Nat.le_of_eq rfl) rfl (by decide) (by decide) (by decide) (by decide) d13_32 rfl ?_
        intro T113 v113 L113 X113 q113
        obtain ⟨rfl, rfl, e113⟩ := q113
        have N113 := Fr.app N108 (Fr.nil _)
        refine Go.ifNo (pc' := 38) C X113 d13_35 ((if0 _ _).trans (teq (x := (0 : Int32)) (y := (0 : Int32)) (by decide)).2) rfl ?_
        refine Go.goto (pc' := 47) C X113 d13_38 (by decide) (by decide) ?_
        refine Go.iloadN (pc' := 48) C X113 d13_47 rfl rfl ?_
        exact Go.retI C X113 rfl d13_48 (by rw [e113]; exact ⟨(2 : Int32), rfl, (by simp), rfl, (by decide)⟩) (by decide) (by decide)
    · refine Go.icmpNo (pc' := 22) C X105 d13_19 (feq (x := x1) (y := (32 : Int32)) hc19_106).1 rfl ?_
      refine Go.iloadN (pc' := 23) C X105 d13_22 rfl rfl ?_
      refine Go.bipush (z := (9 : Int32)) (pc' := 25) C X105 d13_23 rfl rfl ?_
      refine Go.icmpNo (pc' := 28) C X105 d13_25 (feq (x := x1) (y := (9 : Int32)) hx1.n9).1 rfl ?_
      refine Go.getS (pc' := 31) (host := "") C X105 (Or.inl (tw hw 68 rfl)) Via.refl e105 (SI.ext O0) d13_28 rfl ?_
      intro T116 X116 e116
      refine Go.iloadN (pc' := 32) C X116 d13_31 rfl rfl ?_
      refine Go.callV (y := (⟨"java/lang/CharacterDataLatin1", "isWhitespace", "(I)Z"⟩ : MethodName)) (z := (⟨"java/lang/CharacterDataLatin1", "isWhitespace", "(I)Z"⟩ : MethodName)) (a := ci) (pc' := 35) C X116 (tw hw 70 rfl) (tw hw 71 rfl) (notFace_at C.2.1 (tw hw 73 rfl)) (tw hw 73 rfl) (tw hw 72 rfl) (Exa.ext O0 Ec) (by decide) (rm_iw l Z a0 hw ci x1 ta tk ts h0 O0 Ec SA AA (hx1.g hc19_106) ht) (tw hw 74 rfl) (tw hw 69 rfl) e116 (argsL := [(.int x1)]) (rest := []) (W := 0) rfl rfl pd_11 rfl (Nat.le_of_eq rfl) rfl (by decide) (by decide) (by decide) (by decide) d13_32 rfl ?_
      intro T117 v117 L117 X117 q117
      obtain ⟨rfl, rfl, e117⟩ := q117
      have N117 := Fr.app N105 (Fr.nil _)
      refine Go.ifNo (pc' := 38) C X117 d13_35 ((if0 _ _).trans (teq (x := (0 : Int32)) (y := (0 : Int32)) (by decide)).2) rfl ?_
      refine Go.goto (pc' := 47) C X117 d13_38 (by decide) (by decide) ?_
      refine Go.iloadN (pc' := 48) C X117 d13_47 rfl rfl ?_
      exact Go.retI C X117 rfl d13_48 (by rw [e117]; exact ⟨(1 : Int32), rfl, (by simp), rfl, (by decide)⟩) (by decide) (by decide)
  · refine Go.icmpNo (pc' := 22) C X102 d13_19 (feq (x := x0) (y := (32 : Int32)) hc19_103).1 rfl ?_
    refine Go.iloadN (pc' := 23) C X102 d13_22 rfl rfl ?_
    refine Go.bipush (z := (9 : Int32)) (pc' := 25) C X102 d13_23 rfl rfl ?_
    refine Go.icmpNo (pc' := 28) C X102 d13_25 (feq (x := x0) (y := (9 : Int32)) hx0.n9).1 rfl ?_
    refine Go.getS (pc' := 31) (host := "") C X102 (Or.inl (tw hw 68 rfl)) Via.refl e102 (SI.ext O0) d13_28 rfl ?_
    intro T120 X120 e120
    refine Go.iloadN (pc' := 32) C X120 d13_31 rfl rfl ?_
    refine Go.callV (y := (⟨"java/lang/CharacterDataLatin1", "isWhitespace", "(I)Z"⟩ : MethodName)) (z := (⟨"java/lang/CharacterDataLatin1", "isWhitespace", "(I)Z"⟩ : MethodName)) (a := ci) (pc' := 35) C X120 (tw hw 70 rfl) (tw hw 71 rfl) (notFace_at C.2.1 (tw hw 73 rfl)) (tw hw 73 rfl) (tw hw 72 rfl) (Exa.ext O0 Ec) (by decide) (rm_iw l Z a0 hw ci x0 ta tk ts h0 O0 Ec SA AA (hx0.g hc19_103) ht) (tw hw 74 rfl) (tw hw 69 rfl) e120 (argsL := [(.int x0)]) (rest := []) (W := 0) rfl rfl pd_11 rfl (Nat.le_of_eq rfl) rfl (by decide) (by decide) (by decide) (by decide) d13_32 rfl ?_
    intro T121 v121 L121 X121 q121
    obtain ⟨rfl, rfl, e121⟩ := q121
    have N121 := Fr.app N102 (Fr.nil _)
    refine Go.ifNo (pc' := 38) C X121 d13_35 ((if0 _ _).trans (teq (x := (0 : Int32)) (y := (0 : Int32)) (by decide)).2) rfl ?_
    refine Go.goto (pc' := 47) C X121 d13_38 (by decide) (by decide) ?_
    refine Go.iloadN (pc' := 48) C X121 d13_47 rfl rfl ?_
    exact Go.retI C X121 rfl d13_48 (by rw [e121]; exact ⟨(0 : Int32), rfl, (by simp), rfl, (by decide)⟩) (by decide) (by decide)
def Q_snw3 (Z : State) (s1 : Addr) (v : Addr) (k : ClassId) (cP : Int32) (x0 : Int32) (x1 : Int32) (x2 : Int32) (ci : Addr) (ta : Addr) (tk : ClassId) (ts : List Value) (h0 : Heap) (rv : Option Value) (h : Heap) (L : List Loc) : Prop := ∃ r : Int32, rv = some (.int r) ∧ L = [] ∧ h = h0 ∧ (¬ r = (3 : Int32))
set_option maxRecDepth 65536 in
set_option maxHeartbeats 40000000 in
theorem rm_snw3 (l : Launch) (Z : State) (a0 : Array Value) (hw : ∀ d ∈ tables_1, d.before a0 Z = true) (s1 : Addr) (v : Addr) (k : ClassId) (cP : Int32) (x0 : Int32) (x1 : Int32) (x2 : Int32) (ci : Addr) (ta : Addr) (tk : ClassId) (ts : List Value) (h0 : Heap) (O0 : Ext Z.heap h0) (E0 : Exa Z h0 s1 "java/lang/String") (Fv : Fld Z h0 s1 "java/lang/String" "value" "[B" (.ref v)) (Fc : Fld Z h0 s1 "java/lang/String" "coder" "B" (.int (0 : Int32))) (Bx : AL Z h0 v k .byte (by8 [x0, x1, x2])) (SC : Sta Z Z.heap "java/lang/String" "COMPACT_STRINGS" "Z" (.int cP)) (SI : Sta Z Z.heap "java/lang/CharacterDataLatin1" "instance" "Ljava/lang/CharacterDataLatin1;" (.ref ci)) (Ec : Exa Z Z.heap ci "java/lang/CharacterDataLatin1") (SA : Sta Z Z.heap "java/lang/CharacterDataLatin1" "A" "[I" (.ref ta)) (AA : AL Z Z.heap ta tk .int ts) (hx0 : Pr x0) (hx1 : Pr x1) (hx2 : Pr x2) (hns : ¬ (x0 = (32 : Int32) ∧ x1 = (32 : Int32) ∧ x2 = (32 : Int32))) (ht : ∀ i : Nat, 33 ≤ i → i < 256 → ∃ u : Int32, ts[i]? = some (.int u) ∧ ¬ (u &&& (28672 : Int32)) = (16384 : Int32)) (hP : ¬ cP = (0 : Int32)) :
    Met1 l Z (⟨"java/lang/String", "indexOfNonWhitespace", "()I"⟩ : MethodName) jdk_42_method_120_code 1 (some .int) ({ frames := 3, cells := 0, slots := 0, locals := 44 } : Room) #[(.ref s1)] h0 (Q_snw3 Z s1 v k cP x0 x1 x2 ci ta tk ts h0) := by
  refine Met1.of_body (Ls := #[.val (.ref s1)]) pf_11 (fun m => by first | (simp [entryFrame, mkF, argsToLocals, Value.category]; done) | rfl) ?_
  intro p e s m below meth c T0 C X0 e0
  have N0 : Fr Z.heap.size [] := Fr.nil _
  refine Go.aloadN (pc' := 1) C X0 d11_0 rfl rfl rfl ?_
  refine Go.callV (y := (⟨"java/lang/String", "isLatin1", "()Z"⟩ : MethodName)) (z := (⟨"java/lang/String", "isLatin1", "()Z"⟩ : MethodName)) (a := s1) (pc' := 4) C X0 (tw hw 56 rfl) (tw hw 57 rfl) (notFace_at C.2.1 (tw hw 59 rfl)) (tw hw 59 rfl) (tw hw 58 rfl) E0 (by decide) (rm_isL l Z a0 hw s1 cP h0 O0 Fc SC hP) (tw hw 60 rfl) (tw hw 7 rfl) e0 (argsL := []) (rest := []) (W := 0) rfl rfl pd_7 rfl (Nat.le_of_eq rfl) rfl (by decide) (by decide) (by decide) (by decide) d11_1 rfl ?_
  intro T101 v101 L101 X101 q101
  obtain ⟨rfl, rfl, e101⟩ := q101
  have N101 := Fr.app N0 (Fr.nil _)
  refine Go.ifNo (pc' := 7) C X101 d11_4 ((if0 _ _).trans (feq (x := (1 : Int32)) (y := (0 : Int32)) (by decide)).1) rfl ?_
  refine Go.aloadN (pc' := 8) C X101 d11_7 rfl rfl rfl ?_
  refine Go.getF (pc' := 11) (host := "") C X101 (Or.inl (tw hw 25 rfl)) Via.refl e101 Fv d11_8 rfl ?_
  intro T103 X103 e103
  refine Go.callS (y := (⟨"java/lang/StringLatin1", "indexOfNonWhitespace", "([B)I"⟩ : MethodName)) (pc' := 14) C X103 (tw hw 61 rfl) (tw hw 62 rfl) (by decide) (rm_lnw3 l Z a0 hw v k x0 x1 x2 ci ta tk ts h0 O0 Bx SI Ec SA AA hx0 hx1 hx2 hns ht) (tw hw 64 rfl) (tw hw 63 rfl) e103 (argsL := [(.ref v)]) (rest := []) (W := 0) rfl rfl pd_12 rfl (Nat.le_of_eq rfl) rfl (by decide) (by decide) (by decide) (by decide) d11_11 rfl ?_
  intro T104 v104 L104 X104 q104
  obtain ⟨r_104, rfl, rfl, e104, p104_0⟩ := q104
  have N104 := Fr.app N101 (Fr.nil _)
  refine Go.goto (pc' := 24) C X104 d11_14 (by decide) (by decide) ?_
  exact Go.retI C X104 rfl d11_24 (by rw [e104]; exact ⟨r_104, rfl, (by simp), rfl, p104_0⟩) (by decide) (by decide)
def Q_bl3 (Z : State) (s1 : Addr) (v : Addr) (k : ClassId) (cP : Int32) (x0 : Int32) (x1 : Int32) (x2 : Int32) (ci : Addr) (ta : Addr) (tk : ClassId) (ts : List Value) (h0 : Heap) (rv : Option Value) (h : Heap) (L : List Loc) : Prop := rv = some (.int (0 : Int32)) ∧ L = [] ∧ h = h0
set_option maxRecDepth 65536 in
set_option maxHeartbeats 40000000 in
theorem rm_bl3 (l : Launch) (Z : State) (a0 : Array Value) (hw : ∀ d ∈ tables_1, d.before a0 Z = true) (s1 : Addr) (v : Addr) (k : ClassId) (cP : Int32) (x0 : Int32) (x1 : Int32) (x2 : Int32) (ci : Addr) (ta : Addr) (tk : ClassId) (ts : List Value) (h0 : Heap) (O0 : Ext Z.heap h0) (E0 : Exa Z h0 s1 "java/lang/String") (Fv : Fld Z h0 s1 "java/lang/String" "value" "[B" (.ref v)) (Fc : Fld Z h0 s1 "java/lang/String" "coder" "B" (.int (0 : Int32))) (Bx : AL Z h0 v k .byte (by8 [x0, x1, x2])) (SC : Sta Z Z.heap "java/lang/String" "COMPACT_STRINGS" "Z" (.int cP)) (SI : Sta Z Z.heap "java/lang/CharacterDataLatin1" "instance" "Ljava/lang/CharacterDataLatin1;" (.ref ci)) (Ec : Exa Z Z.heap ci "java/lang/CharacterDataLatin1") (SA : Sta Z Z.heap "java/lang/CharacterDataLatin1" "A" "[I" (.ref ta)) (AA : AL Z Z.heap ta tk .int ts) (hx0 : Pr x0) (hx1 : Pr x1) (hx2 : Pr x2) (hns : ¬ (x0 = (32 : Int32) ∧ x1 = (32 : Int32) ∧ x2 = (32 : Int32))) (ht : ∀ i : Nat, 33 ≤ i → i < 256 → ∃ u : Int32, ts[i]? = some (.int u) ∧ ¬ (u &&& (28672 : Int32)) = (16384 : Int32)) (hP : ¬ cP = (0 : Int32)) :
    Met1 l Z (⟨"java/lang/String", "isBlank", "()Z"⟩ : MethodName) jdk_42_method_117_code 1 (some .boolean) ({ frames := 4, cells := 0, slots := 0, locals := 56 } : Room) #[(.ref s1)] h0 (Q_bl3 Z s1 v k cP x0 x1 x2 ci ta tk ts h0) := by
  refine Met1.of_body (Ls := #[.val (.ref s1)]) pf_10 (fun m => by first | (simp [entryFrame, mkF, argsToLocals, Value.category]; done) | rfl) ?_
  intro p e s m below meth c T0 C X0 e0
  have N0 : Fr Z.heap.size [] := Fr.nil _
  refine Go.aloadN (pc' := 1) C X0 d10_0 rfl rfl rfl ?_
  refine Go.callP (y := (⟨"java/lang/String", "indexOfNonWhitespace", "()I"⟩ : MethodName)) (a := s1) (pc' := 4) C X0 (tw hw 51 rfl) (tw hw 52 rfl) (tw hw 54 rfl) (tw hw 53 rfl) E0 (by decide) (rm_snw3 l Z a0 hw s1 v k cP x0 x1 x2 ci ta tk ts h0 O0 E0 Fv Fc Bx SC SI Ec SA AA hx0 hx1 hx2 hns ht hP) (tw hw 55 rfl) (tw hw 7 rfl) e0 (argsL := []) (rest := []) (W := 0) rfl rfl pd_13 rfl (Nat.le_of_eq rfl) rfl (by decide) (by decide) (by decide) (by decide) d10_1 rfl ?_
  intro T101 v101 L101 X101 q101
  obtain ⟨r_101, rfl, rfl, e101, p101_0⟩ := q101
  have N101 := Fr.app N0 (Fr.nil _)
  refine Go.aloadN (pc' := 5) C X101 d10_4 rfl rfl rfl ?_
  refine Go.callV (y := (⟨"java/lang/String", "length", "()I"⟩ : MethodName)) (z := (⟨"java/lang/String", "length", "()I"⟩ : MethodName)) (a := s1) (pc' := 8) C X101 (tw hw 81 rfl) (tw hw 82 rfl) (notFace_at C.2.1 (tw hw 84 rfl)) (tw hw 84 rfl) (tw hw 83 rfl) E0 (by decide) (rm_len l Z a0 hw s1 v k ([x0, x1, x2]) cP ((3 : Int32)) h0 O0 E0 Fv Fc Bx SC hP rfl) (tw hw 85 rfl) (tw hw 7 rfl) e101 (argsL := []) (rest := [(.int r_101)]) (W := 1) rfl rfl pd_13 rfl (Nat.le_of_eq rfl) rfl (by decide) (by decide) (by decide) (by decide) d10_5 rfl ?_
  intro T102 v102 L102 X102 q102
  obtain ⟨rfl, rfl, e102⟩ := q102
  have N102 := Fr.app N101 (Fr.nil _)
  refine Go.icmpYes (pc' := 15) C X102 d10_8 (feq (x := r_101) (y := (3 : Int32)) p101_0).2 (by decide) (by decide) ?_
  refine Go.iconst (z := (0 : Int32)) (pc' := 16) C X102 d10_15 rfl rfl ?_
  exact Go.retN C X102 rfl d10_16 (by simp) (by rw [e102]; exact ⟨rfl, (by simp), rfl⟩) (by decide) (by decide)
def Q_hc3 (Z : State) (s1 : Addr) (v : Addr) (k : ClassId) (cP : Int32) (fm : Value) (x0 : Int32) (x1 : Int32) (x2 : Int32) (h0 : Heap) (rv : Option Value) (h : Heap) (L : List Loc) : Prop := rv = some (.int (0 : Int32)) ∧ L = [] ∧ h = h0
set_option maxRecDepth 65536 in
set_option maxHeartbeats 40000000 in
theorem rm_hc3 (l : Launch) (Z : State) (a0 : Array Value) (hw : ∀ d ∈ tables_1, d.before a0 Z = true) (s1 : Addr) (v : Addr) (k : ClassId) (cP : Int32) (fm : Value) (x0 : Int32) (x1 : Int32) (x2 : Int32) (h0 : Heap) (O0 : Ext Z.heap h0) (E0 : Exa Z h0 s1 "java/lang/String") (Fv : Fld Z h0 s1 "java/lang/String" "value" "[B" (.ref v)) (Fc : Fld Z h0 s1 "java/lang/String" "coder" "B" (.int (0 : Int32))) (Bx : AL Z h0 v k .byte (by8 [x0, x1, x2])) (SC : Sta Z Z.heap "java/lang/String" "COMPACT_STRINGS" "Z" (.int cP)) (SF : Sta Z Z.heap "jdk/internal/util/Preconditions" "SIOOBE_FORMATTER" "Ljava/util/function/BiFunction;" fm) (hx0 : Pr x0) (hx1 : Pr x1) (hx2 : Pr x2) (hP : ¬ cP = (0 : Int32)) (hfm : fm.category = 1) :
    Met1 l Z (⟨"com/example/tranche/tranche/Notation", "holdsControl", "(Ljava/lang/String;)Z"⟩ : MethodName) prog_14_method_12_code 2 (some .boolean) ({ frames := 4, cells := 0, slots := 0, locals := 53 } : Room) #[(.ref s1)] h0 (Q_hc3 Z s1 v k cP fm x0 x1 x2 h0) := by
  refine Met1.of_body (Ls := #[.val (.ref s1), .unset]) pf_19 (fun m => by first | (simp [entryFrame, mkF, argsToLocals, Value.category]; done) | rfl) ?_
  intro p e s m below meth c T0 C X0 e0
  have N0 : Fr Z.heap.size [] := Fr.nil _
  refine Go.iconst (z := (0 : Int32)) (pc' := 1) C X0 d19_0 rfl rfl ?_
  refine Go.istoreN (Ls' := #[.val (.ref s1), .val (.int (0 : Int32))]) (pc' := 2) C X0 d19_1 rfl rfl ?_
  refine Go.iloadN (pc' := 3) C X0 d19_2 rfl rfl ?_
  refine Go.aloadN (pc' := 4) C X0 d19_3 rfl rfl rfl ?_
  refine Go.callV (y := (⟨"java/lang/String", "length", "()I"⟩ : MethodName)) (z := (⟨"java/lang/String", "length", "()I"⟩ : MethodName)) (a := s1) (pc' := 7) C X0 (tw hw 94 rfl) (tw hw 82 rfl) (notFace_at C.2.1 (tw hw 84 rfl)) (tw hw 84 rfl) (tw hw 83 rfl) E0 (by decide) (rm_len l Z a0 hw s1 v k ([x0, x1, x2]) cP ((3 : Int32)) h0 O0 E0 Fv Fc Bx SC hP rfl) (tw hw 85 rfl) (tw hw 7 rfl) e0 (argsL := []) (rest := [(.int (0 : Int32))]) (W := 1) rfl rfl pd_13 rfl (Nat.le_of_eq rfl) rfl (by decide) (by decide) (by decide) (by decide) d19_4 rfl ?_
  intro T101 v101 L101 X101 q101
  obtain ⟨rfl, rfl, e101⟩ := q101
  have N101 := Fr.app N0 (Fr.nil _)
  refine Go.icmpNo (pc' := 10) C X101 d19_7 (tlt (x := (0 : Int32)) (y := (3 : Int32)) (by decide)).2.1 rfl ?_
  refine Go.aloadN (pc' := 11) C X101 d19_10 rfl rfl rfl ?_
  refine Go.iloadN (pc' := 12) C X101 d19_11 rfl rfl ?_
  refine Go.callV (y := (⟨"java/lang/String", "charAt", "(I)C"⟩ : MethodName)) (z := (⟨"java/lang/String", "charAt", "(I)C"⟩ : MethodName)) (a := s1) (pc' := 15) C X101 (tw hw 95 rfl) (tw hw 96 rfl) (notFace_at C.2.1 (tw hw 98 rfl)) (tw hw 98 rfl) (tw hw 97 rfl) E0 (by decide) (rm_chA l Z a0 hw s1 cP v k ([x0, x1, x2]) ((0 : Int32)) 0 x0 fm ((3 : Int32)) h0 O0 E0 Fv Fc Bx SC SF hP (by decide) (by decide) rfl hx0.r (by decide) rfl hfm) (tw hw 99 rfl) (tw hw 7 rfl) e101 (argsL := [(.int (0 : Int32))]) (rest := []) (W := 0) rfl rfl pd_14 rfl (Nat.le_of_eq rfl) rfl (by decide) (by decide) (by decide) (by decide) d19_12 rfl ?_
  intro T103 v103 L103 X103 q103
  obtain ⟨rfl, rfl, e103⟩ := q103
  have N103 := Fr.app N101 (Fr.nil _)
  refine Go.bipush (z := (32 : Int32)) (pc' := 17) C X103 d19_15 rfl rfl ?_
  refine Go.icmpNo (pc' := 20) C X103 d19_17 (flt (x := x0) (y := (32 : Int32)) hx0.lt).1 rfl ?_
  refine Go.aloadN (pc' := 21) C X103 d19_20 rfl rfl rfl ?_
  refine Go.iloadN (pc' := 22) C X103 d19_21 rfl rfl ?_
  refine Go.callV (y := (⟨"java/lang/String", "charAt", "(I)C"⟩ : MethodName)) (z := (⟨"java/lang/String", "charAt", "(I)C"⟩ : MethodName)) (a := s1) (pc' := 25) C X103 (tw hw 95 rfl) (tw hw 96 rfl) (notFace_at C.2.1 (tw hw 98 rfl)) (tw hw 98 rfl) (tw hw 97 rfl) E0 (by decide) (rm_chA l Z a0 hw s1 cP v k ([x0, x1, x2]) ((0 : Int32)) 0 x0 fm ((3 : Int32)) h0 O0 E0 Fv Fc Bx SC SF hP (by decide) (by decide) rfl hx0.r (by decide) rfl hfm) (tw hw 99 rfl) (tw hw 7 rfl) e103 (argsL := [(.int (0 : Int32))]) (rest := []) (W := 0) rfl rfl pd_14 rfl (Nat.le_of_eq rfl) rfl (by decide) (by decide) (by decide) (by decide) d19_22 rfl ?_
  intro T105 v105 L105 X105 q105
  obtain ⟨rfl, rfl, e105⟩ := q105
  have N105 := Fr.app N103 (Fr.nil _)
  refine Go.bipush (z := (127 : Int32)) (pc' := 27) C X105 d19_25 rfl rfl ?_
  refine Go.icmpYes (pc' := 32) C X105 d19_27 (feq (x := x0) (y := (127 : Int32)) hx0.ne).2 (by decide) (by decide) ?_
  refine Go.iinc (Ls' := #[.val (.ref s1), .val (.int ((0 : Int32) + (1 : Int32)))]) (z := (1 : Int32)) (pc' := 35) C X105 d19_32 rfl rfl rfl rfl ?_
  rw [show ((0 : Int32) + (1 : Int32)) = (1 : Int32) from by decide]
  refine Go.goto (pc' := 2) C X105 d19_35 (by decide) (by decide) ?_
  refine Go.iloadN (pc' := 3) C X105 d19_2 rfl rfl ?_
  refine Go.aloadN (pc' := 4) C X105 d19_3 rfl rfl rfl ?_
  refine Go.callV (y := (⟨"java/lang/String", "length", "()I"⟩ : MethodName)) (z := (⟨"java/lang/String", "length", "()I"⟩ : MethodName)) (a := s1) (pc' := 7) C X105 (tw hw 94 rfl) (tw hw 82 rfl) (notFace_at C.2.1 (tw hw 84 rfl)) (tw hw 84 rfl) (tw hw 83 rfl) E0 (by decide) (rm_len l Z a0 hw s1 v k ([x0, x1, x2]) cP ((3 : Int32)) h0 O0 E0 Fv Fc Bx SC hP rfl) (tw hw 85 rfl) (tw hw 7 rfl) e105 (argsL := []) (rest := [(.int (1 : Int32))]) (W := 1) rfl rfl pd_13 rfl (Nat.le_of_eq rfl) rfl (by decide) (by decide) (by decide) (by decide) d19_4 rfl ?_
  intro T107 v107 L107 X107 q107
  obtain ⟨rfl, rfl, e107⟩ := q107
  have N107 := Fr.app N105 (Fr.nil _)
  refine Go.icmpNo (pc' := 10) C X107 d19_7 (tlt (x := (1 : Int32)) (y := (3 : Int32)) (by decide)).2.1 rfl ?_
  refine Go.aloadN (pc' := 11) C X107 d19_10 rfl rfl rfl ?_
  refine Go.iloadN (pc' := 12) C X107 d19_11 rfl rfl ?_
  refine Go.callV (y := (⟨"java/lang/String", "charAt", "(I)C"⟩ : MethodName)) (z := (⟨"java/lang/String", "charAt", "(I)C"⟩ : MethodName)) (a := s1) (pc' := 15) C X107 (tw hw 95 rfl) (tw hw 96 rfl) (notFace_at C.2.1 (tw hw 98 rfl)) (tw hw 98 rfl) (tw hw 97 rfl) E0 (by decide) (rm_chA l Z a0 hw s1 cP v k ([x0, x1, x2]) ((1 : Int32)) 1 x1 fm ((3 : Int32)) h0 O0 E0 Fv Fc Bx SC SF hP (by decide) (by decide) rfl hx1.r (by decide) rfl hfm) (tw hw 99 rfl) (tw hw 7 rfl) e107 (argsL := [(.int (1 : Int32))]) (rest := []) (W := 0) rfl rfl pd_14 rfl (Nat.le_of_eq rfl) rfl (by decide) (by decide) (by decide) (by decide) d19_12 rfl ?_
  intro T109 v109 L109 X109 q109
  obtain ⟨rfl, rfl, e109⟩ := q109
  have N109 := Fr.app N107 (Fr.nil _)
  refine Go.bipush (z := (32 : Int32)) (pc' := 17) C X109 d19_15 rfl rfl ?_
  refine Go.icmpNo (pc' := 20) C X109 d19_17 (flt (x := x1) (y := (32 : Int32)) hx1.lt).1 rfl ?_
  refine Go.aloadN (pc' := 21) C X109 d19_20 rfl rfl rfl ?_
  refine Go.iloadN (pc' := 22) C X109 d19_21 rfl rfl ?_
  refine Go.callV (y := (⟨"java/lang/String", "charAt", "(I)C"⟩ : MethodName)) (z := (⟨"java/lang/String", "charAt", "(I)C"⟩ : MethodName)) (a := s1) (pc' := 25) C X109 (tw hw 95 rfl) (tw hw 96 rfl) (notFace_at C.2.1 (tw hw 98 rfl)) (tw hw 98 rfl) (tw hw 97 rfl) E0 (by decide) (rm_chA l Z a0 hw s1 cP v k ([x0, x1, x2]) ((1 : Int32)) 1 x1 fm ((3 : Int32)) h0 O0 E0 Fv Fc Bx SC SF hP (by decide) (by decide) rfl hx1.r (by decide) rfl hfm) (tw hw 99 rfl) (tw hw 7 rfl) e109 (argsL := [(.int (1 : Int32))]) (rest := []) (W := 0) rfl rfl pd_14 rfl (Nat.le_of_eq rfl) rfl (by decide) (by decide) (by decide) (by decide) d19_22 rfl ?_
  intro T111 v111 L111 X111 q111
  obtain ⟨rfl, rfl, e111⟩ := q111
  have N111 := Fr.app N109 (Fr.nil _)
  refine Go.bipush (z := (127 : Int32)) (pc' := 27) C X111 d19_25 rfl rfl ?_
  refine Go.icmpYes (pc' := 32) C X111 d19_27 (feq (x := x1) (y := (127 : Int32)) hx1.ne).2 (by decide) (by decide) ?_
  refine Go.iinc (Ls' := #[.val (.ref s1), .val (.int ((1 : Int32) + (1 : Int32)))]) (z := (1 : Int32)) (pc' := 35) C X111 d19_32 rfl rfl rfl rfl ?_
  rw [show ((1 : Int32) + (1 : Int32)) = (2 : Int32) from by decide]
  refine Go.goto (pc' := 2) C X111 d19_35 (by decide) (by decide) ?_
  refine Go.iloadN (pc' := 3) C X111 d19_2 rfl rfl ?_
  refine Go.aloadN (pc' := 4) C X111 d19_3 rfl rfl rfl ?_
  refine Go.callV (y := (⟨"java/lang/String", "length", "()I"⟩ : MethodName)) (z := (⟨"java/lang/String", "length", "()I"⟩ : MethodName)) (a := s1) (pc' := 7) C X111 (tw hw 94 rfl) (tw hw 82 rfl) (notFace_at C.2.1 (tw hw 84 rfl)) (tw hw 84 rfl) (tw hw 83 rfl) E0 (by decide) (rm_len l Z a0 hw s1 v k ([x0, x1, x2]) cP ((3 : Int32)) h0 O0 E0 Fv Fc Bx SC hP rfl) (tw hw 85 rfl) (tw hw 7 rfl) e111 (argsL := []) (rest := [(.int (2 : Int32))]) (W := 1) rfl rfl pd_13 rfl (Nat.le_of_eq rfl) rfl (by decide) (by decide) (by decide) (by decide) d19_4 rfl ?_
  intro T113 v113 L113 X113 q113
  obtain ⟨rfl, rfl, e113⟩ := q113
  have N113 := Fr.app N111 (Fr.nil _)
  refine Go.icmpNo (pc' := 10) C X113 d19_7 (tlt (x := (2 : Int32)) (y := (3 : Int32)) (by decide)).2.1 rfl ?_
  refine Go.aloadN (pc' := 11) C X113 d19_10 rfl rfl rfl ?_
  refine Go.iloadN (pc' := 12) C X113 d19_11 rfl rfl ?_
  refine Go.callV (y := (⟨"java/lang/String", "charAt", "(I)C"⟩ : MethodName)) (z := (⟨"java/lang/String", "charAt", "(I)C"⟩ : MethodName)) (a := s1) (pc' := 15) C X113 (tw hw 95 rfl) (tw hw 96 rfl) (notFace_at C.2.1 (tw hw 98 rfl)) (tw hw 98 rfl) (tw hw 97 rfl) E0 (by decide) (rm_chA l Z a0 hw s1 cP v k ([x0, x1, x2]) ((2 : Int32)) 2 x2 fm ((3 : Int32)) h0 O0 E0 Fv Fc Bx SC SF hP (by decide) (by decide) rfl hx2.r (by decide) rfl hfm) (tw hw 99 rfl) (tw hw 7 rfl) e113 (argsL := [(.int (2 : Int32))]) (rest := []) (W := 0) rfl rfl pd_14 rfl (Nat.le_of_eq rfl) rfl (by decide) (by decide) (by decide) (by decide) d19_12 rfl ?_
  intro T115 v115 L115 X115 q115
  obtain ⟨rfl, rfl, e115⟩ := q115
  have N115 := Fr.app N113 (Fr.nil _)
  refine Go.bipush (z := (32 : Int32)) (pc' := 17) C X115 d19_15 rfl rfl ?_
  refine Go.icmpNo (pc' := 20) C X115 d19_17 (flt (x := x2) (y := (32 : Int32)) hx2.lt).1 rfl ?_
  refine Go.aloadN (pc' := 21) C X115 d19_20 rfl rfl rfl ?_
  refine Go.iloadN (pc' := 22) C X115 d19_21 rfl rfl ?_
  refine Go.callV (y := (⟨"java/lang/String", "charAt", "(I)C"⟩ : MethodName)) (z := (⟨"java/lang/String", "charAt", "(I)C"⟩ : MethodName)) (a := s1) (pc' := 25) C X115 (tw hw 95 rfl) (tw hw 96 rfl) (notFace_at C.2.1 (tw hw 98 rfl)) (tw hw 98 rfl) (tw hw 97 rfl) E0 (by decide) (rm_chA l Z a0 hw s1 cP v k ([x0, x1, x2]) ((2 : Int32)) 2 x2 fm ((3 : Int32)) h0 O0 E0 Fv Fc Bx SC SF hP (by decide) (by decide) rfl hx2.r (by decide) rfl hfm) (tw hw 99 rfl) (tw hw 7 rfl) e115 (argsL := [(.int (2 : Int32))]) (rest := []) (W := 0) rfl rfl pd_14 rfl (Nat.le_of_eq rfl) rfl (by decide) (by decide) (by decide) (by decide) d19_22 rfl ?_
  intro T117 v117 L117 X117 q117
  obtain ⟨rfl, rfl, e117⟩ := q117
  have N117 := Fr.app N115 (Fr.nil _)
  refine Go.bipush (z := (127 : Int32)) (pc' := 27) C X117 d19_25 rfl rfl ?_
  refine Go.icmpYes (pc' := 32) C X117 d19_27 (feq (x := x2) (y := (127 : Int32)) hx2.ne).2 (by decide) (by decide) ?_
  refine Go.iinc (Ls' := #[.val (.ref s1), .val (.int ((2 : Int32) + (1 : Int32)))]) (z := (1 : Int32)) (pc' := 35) C X117 d19_32 rfl rfl rfl rfl ?_
  rw [show ((2 : Int32) + (1 : Int32)) = (3 : Int32) from by decide]
  refine Go.goto (pc' := 2) C X117 d19_35 (by decide) (by decide) ?_
  refine Go.iloadN (pc' := 3) C X117 d19_2 rfl rfl ?_
  refine Go.aloadN (pc' := 4) C X117 d19_3 rfl rfl rfl ?_
  refine Go.callV (y := (⟨"java/lang/String", "length", "()I"⟩ : MethodName)) (z := (⟨"java/lang/String", "length", "()I"⟩ : MethodName)) (a := s1) (pc' := 7) C X117 (tw hw 94 rfl) (tw hw 82 rfl) (notFace_at C.2.1 (tw hw 84 rfl)) (tw hw 84 rfl) (tw hw 83 rfl) E0 (by decide) (rm_len l Z a0 hw s1 v k ([x0, x1, x2]) cP ((3 : Int32)) h0 O0 E0 Fv Fc Bx SC hP rfl) (tw hw 85 rfl) (tw hw 7 rfl) e117 (argsL := []) (rest := [(.int (3 : Int32))]) (W := 1) rfl rfl pd_13 rfl (Nat.le_of_eq rfl) rfl (by decide) (by decide) (by decide) (by decide) d19_4 rfl ?_
  intro T119 v119 L119 X119 q119
  obtain ⟨rfl, rfl, e119⟩ := q119
  have N119 := Fr.app N117 (Fr.nil _)
  refine Go.icmpYes (pc' := 38) C X119 d19_7 (flt (x := (3 : Int32)) (y := (3 : Int32)) (by decide)).2.1 (by decide) (by decide) ?_
  refine Go.iconst (z := (0 : Int32)) (pc' := 39) C X119 d19_38 rfl rfl ?_
  exact Go.retN C X119 rfl d19_39 (by simp) (by rw [e119]; exact ⟨rfl, (by simp), rfl⟩) (by decide) (by decide)
def Q_nm3 (Z : State) (kk : Addr) (s1 : Addr) (v : Addr) (k : ClassId) (cP : Int32) (fm : Value) (x0 : Int32) (x1 : Int32) (x2 : Int32) (ci : Addr) (ta : Addr) (tk : ClassId) (ts : List Value) (h0 : Heap) (rv : Option Value) (h : Heap) (L : List Loc) : Prop := rv = some (.ref s1) ∧ L = [] ∧ h = h0
set_option maxRecDepth 65536 in
set_option maxHeartbeats 40000000 in
theorem rm_nm3 (l : Launch) (Z : State) (a0 : Array Value) (hw : ∀ d ∈ tables_1, d.before a0 Z = true) (kk : Addr) (s1 : Addr) (v : Addr) (k : ClassId) (cP : Int32) (fm : Value) (x0 : Int32) (x1 : Int32) (x2 : Int32) (ci : Addr) (ta : Addr) (tk : ClassId) (ts : List Value) (h0 : Heap) (O0 : Ext Z.heap h0) (E0 : Exa Z h0 s1 "java/lang/String") (Fv : Fld Z h0 s1 "java/lang/String" "value" "[B" (.ref v)) (Fc : Fld Z h0 s1 "java/lang/String" "coder" "B" (.int (0 : Int32))) (Bx : AL Z h0 v k .byte (by8 [x0, x1, x2])) (SC : Sta Z Z.heap "java/lang/String" "COMPACT_STRINGS" "Z" (.int cP)) (SF : Sta Z Z.heap "jdk/internal/util/Preconditions" "SIOOBE_FORMATTER" "Ljava/util/function/BiFunction;" fm) (SI : Sta Z Z.heap "java/lang/CharacterDataLatin1" "instance" "Ljava/lang/CharacterDataLatin1;" (.ref ci)) (Ec : Exa Z Z.heap ci "java/lang/CharacterDataLatin1") (SA : Sta Z Z.heap "java/lang/CharacterDataLatin1" "A" "[I" (.ref ta)) (AA : AL Z Z.heap ta tk .int ts) (hx0 : Pr x0) (hx1 : Pr x1) (hx2 : Pr x2) (hns : ¬ (x0 = (32 : Int32) ∧ x1 = (32 : Int32) ∧ x2 = (32 : Int32))) (ht : ∀ i : Nat, 33 ≤ i → i < 256 → ∃ u : Int32, ts[i]? = some (.int u) ∧ ¬ (u &&& (28672 : Int32)) = (16384 : Int32)) (hP : ¬ cP = (0 : Int32)) (hfm : fm.category = 1) :
    Met1 l Z (⟨"com/example/tranche/tranche/Notation", "name", "(Ljava/lang/String;Ljava/lang/String;)Ljava/lang/String;"⟩ : MethodName) prog_14_method_2_code 2 (some (.object "java/lang/String")) ({ frames := 5, cells := 0, slots := 0, locals := 68 } : Room) #[(.ref kk), (.ref s1)] h0 (Q_nm3 Z kk s1 v k cP fm x0 x1 x2 ci ta tk ts h0) := by
  refine Met1.of_body (Ls := #[.val (.ref kk), .val (.ref s1)]) pf_9 (fun m => by first | (simp [entryFrame, mkF, argsToLocals, Value.category]; done) | rfl) ?_
  intro p e s m below meth c T0 C X0 e0
  have N0 : Fr Z.heap.size [] := Fr.nil _
  refine Go.aloadN (pc' := 1) C X0 d9_0 rfl rfl rfl ?_
  refine Go.ifnullNo (pc' := 4) C X0 d9_1 rfl ?_
  refine Go.aloadN (pc' := 5) C X0 d9_4 rfl rfl rfl ?_
  refine Go.callV (y := (⟨"java/lang/String", "isBlank", "()Z"⟩ : MethodName)) (z := (⟨"java/lang/String", "isBlank", "()Z"⟩ : MethodName)) (a := s1) (pc' := 8) C X0 (tw hw 46 rfl) (tw hw 47 rfl) (notFace_at C.2.1 (tw hw 49 rfl)) (tw hw 49 rfl) (tw hw 48 rfl) E0 (by decide) (rm_bl3 l Z a0 hw s1 v k cP x0 x1 x2 ci ta tk ts h0 O0 E0 Fv Fc Bx SC SI Ec SA AA hx0 hx1 hx2 hns ht hP) (tw hw 50 rfl) (tw hw 7 rfl) e0 (argsL := []) (rest := []) (W := 0) rfl rfl pd_7 rfl (Nat.le_of_eq rfl) rfl (by decide) (by decide) (by decide) (by decide) d9_5 rfl ?_
  intro T101 v101 L101 X101 q101
  obtain ⟨rfl, rfl, e101⟩ := q101
  have N101 := Fr.app N0 (Fr.nil _)
  refine Go.ifYes (pc' := 25) C X101 d9_8 ((if0 _ _).trans (teq (x := (0 : Int32)) (y := (0 : Int32)) (by decide)).1) (by decide) (by decide) ?_
  refine Go.aloadN (pc' := 26) C X101 d9_25 rfl rfl rfl ?_
  refine Go.callS (y := (⟨"com/example/tranche/tranche/Notation", "holdsControl", "(Ljava/lang/String;)Z"⟩ : MethodName)) (pc' := 29) C X101 (tw hw 91 rfl) (tw hw 92 rfl) (by decide) (rm_hc3 l Z a0 hw s1 v k cP fm x0 x1 x2 h0 O0 E0 Fv Fc Bx SC SF hx0 hx1 hx2 hP hfm) (tw hw 93 rfl) (tw hw 44 rfl) e101 (argsL := [(.ref s1)]) (rest := []) (W := 0) rfl rfl pd_15 rfl (Nat.le_of_eq rfl) rfl (by decide) (by decide) (by decide) (by decide) d9_26 rfl ?_
  intro T103 v103 L103 X103 q103
  obtain ⟨rfl, rfl, e103⟩ := q103
  have N103 := Fr.app N101 (Fr.nil _)
  refine Go.ifYes (pc' := 46) C X103 d9_29 ((if0 _ _).trans (teq (x := (0 : Int32)) (y := (0 : Int32)) (by decide)).1) (by decide) (by decide) ?_
  refine Go.aloadN (pc' := 47) C X103 d9_46 rfl rfl rfl ?_
  exact Go.retA C X103 rfl d9_47 rfl rfl rfl (by rw [e103]; exact ⟨rfl, (by simp), rfl⟩) (by decide) (by decide)
def Q_lnw4 (Z : State) (v : Addr) (k : ClassId) (x0 : Int32) (x1 : Int32) (x2 : Int32) (x3 : Int32) (ci : Addr) (ta : Addr) (tk : ClassId) (ts : List Value) (h0 : Heap) (rv : Option Value) (h : Heap) (L : List Loc) : Prop := ∃ r : Int32, rv = some (.int r) ∧ L = [] ∧ h = h0 ∧ (¬ r = (4 : Int32))
set_option maxRecDepth 65536 in
set_option maxHeartbeats 40000000 in
theorem rm_lnw4 (l : Launch) (Z : State) (a0 : Array Value) (hw : ∀ d ∈ tables_1, d.before a0 Z = true) (v : Addr) (k : ClassId) (x0 : Int32) (x1 : Int32) (x2 : Int32) (x3 : Int32) (ci : Addr) (ta : Addr) (tk : ClassId) (ts : List Value) (h0 : Heap) (O0 : Ext Z.heap h0) (Bx : AL Z h0 v k .byte (by8 [x0, x1, x2, x3])) (SI : Sta Z Z.heap "java/lang/CharacterDataLatin1" "instance" "Ljava/lang/CharacterDataLatin1;" (.ref ci)) (Ec : Exa Z Z.heap ci "java/lang/CharacterDataLatin1") (SA : Sta Z Z.heap "java/lang/CharacterDataLatin1" "A" "[I" (.ref ta)) (AA : AL Z Z.heap ta tk .int ts) (hx0 : Pr x0) (hx1 : Pr x1) (hx2 : Pr x2) (hx3 : Pr x3) (hns : ¬ (x0 = (32 : Int32) ∧ x1 = (32 : Int32) ∧ x2 = (32 : Int32) ∧ x3 = (32 : Int32))) (ht : ∀ i : Nat, 33 ≤ i → i < 256 → ∃ u : Int32, ts[i]? = some (.int u) ∧ ¬ (u &&& (28672 : Int32)) = (16384 : Int32)) :
    Met1 l Z (⟨"java/lang/StringLatin1", "indexOfNonWhitespace", "([B)I"⟩ : MethodName) jdk_43_method_37_code 4 (some .int) ({ frames := 2, cells := 0, slots := 0, locals := 29 } : Room) #[(.ref v)] h0 (Q_lnw4 Z v k x0 x1 x2 x3 ci ta tk ts h0) := by
  refine Met1.of_body (Ls := #[.val (.ref v), .unset, .unset, .unset]) pf_13 (fun m => by first | (simp [entryFrame, mkF, argsToLocals, Value.category]; done) | rfl) ?_
  intro p e s m below meth c T0 C X0 e0
  have N0 : Fr Z.heap.size [] := Fr.nil _
  refine Go.aloadN (pc' := 1) C X0 d13_0 rfl rfl rfl ?_
  refine Go.alen (z := (4 : Int32)) (pc' := 2) C X0 e0 Bx (by rw [by8_len]; rfl) d13_1 rfl ?_
  refine Go.istoreN (Ls' := #[.val (.ref v), .val (.int (4 : Int32)), .unset, .unset]) (pc' := 3) C X0 d13_2 rfl rfl ?_
  refine Go.iconst (z := (0 : Int32)) (pc' := 4) C X0 d13_3 rfl rfl ?_
  refine Go.istoreN (Ls' := #[.val (.ref v), .val (.int (4 : Int32)), .val (.int (0 : Int32)), .unset]) (pc' := 5) C X0 d13_4 rfl rfl ?_
  refine Go.iloadN (pc' := 6) C X0 d13_5 rfl rfl ?_
  refine Go.iloadN (pc' := 7) C X0 d13_6 rfl rfl ?_
  refine Go.icmpNo (pc' := 10) C X0 d13_7 (tlt (x := (0 : Int32)) (y := (4 : Int32)) (by decide)).2.1 rfl ?_
  refine Go.aloadN (pc' := 11) C X0 d13_10 rfl rfl rfl ?_
  refine Go.iloadN (pc' := 12) C X0 d13_11 rfl rfl ?_
  refine Go.callS (y := (⟨"java/lang/StringLatin1", "getChar", "([BI)C"⟩ : MethodName)) (pc' := 15) C X0 (tw hw 65 rfl) (tw hw 66 rfl) (by decide) (rm_gch l Z a0 hw v k ([x0, x1, x2, x3]) ((0 : Int32)) 0 x0 h0 O0 Bx (by decide) (by decide) rfl hx0.r) (tw hw 67 rfl) (tw hw 63 rfl) e0 (argsL := [(.ref v), (.int (0 : Int32))]) (rest := []) (W := 0) rfl rfl pd_8 rfl (Nat.le_of_eq rfl) rfl (by decide) (by decide) (by decide) (by decide) d13_12 rfl ?_
  intro T102 v102 L102 X102 q102
  obtain ⟨rfl, rfl, e102⟩ := q102
  have N102 := Fr.app N0 (Fr.nil _)
  refine Go.istoreN (Ls' := #[.val (.ref v), .val (.int (4 : Int32)), .val (.int (0 : Int32)), .val (.int x0)]) (pc' := 16) C X102 d13_15 rfl rfl ?_
  refine Go.iloadN (pc' := 17) C X102 d13_16 rfl rfl ?_
  refine Go.bipush (z := (32 : Int32)) (pc' := 19) C X102 d13_17 rfl rfl ?_
  by_cases hc19_103 : x0 = (32 : Int32)
  · refine Go.icmpYes (pc' := 41) C X102 d13_19 (teq (x := x0) (y := (32 : Int32)) hc19_103).1 (by decide) (by decide) ?_
    refine Go.iinc (Ls' := #[.val (.ref v), .val (.int (4 : Int32)), .val (.int ((0 : Int32) + (1 : Int32))), .val (.int x0)]) (z := (1 : Int32)) (pc' := 44) C X102 d13_41 rfl rfl rfl rfl ?_
    rw [show ((0 : Int32) + (1 : Int32)) = (1 : Int32) from by decide]
    refine Go.goto (pc' := 5) C X102 d13_44 (by decide) (by decide) ?_
    refine Go.iloadN (pc' := 6) C X102 d13_5 rfl rfl ?_
    refine Go.iloadN (pc' := 7) C X102 d13_6 rfl rfl ?_
    refine Go.icmpNo (pc' := 10) C X102 d13_7 (tlt (x := (1 : Int32)) (y := (4 : Int32)) (by decide)).2.1 rfl ?_
    refine Go.aloadN (pc' := 11) C X102 d13_10 rfl rfl rfl ?_
    refine Go.iloadN (pc' := 12) C X102 d13_11 rfl rfl ?_
    refine Go.callS (y := (⟨"java/lang/StringLatin1", "getChar", "([BI)C"⟩ : MethodName)) (pc' := 15) C X102 (tw hw 65 rfl) (tw hw 66 rfl) (by decide) (rm_gch l Z a0 hw v k ([x0, x1, x2, x3]) ((1 : Int32)) 1 x1 h0 O0 Bx (by decide) (by decide) rfl hx1.r) (tw hw 67 rfl) (tw hw 63 rfl) e102 (argsL := [(.ref v), (.int (1 : Int32))]) (rest := []) (W := 0) rfl rfl pd_8 rfl (Nat.le_of_eq rfl) rfl (by decide) (by decide) (by decide) (by decide) d13_12 rfl ?_
    intro T105 v105 L105 X105 q105
    obtain ⟨rfl, rfl, e105⟩ := q105
    have N105 := Fr.app N102 (Fr.nil _)
    refine Go.istoreN (Ls' := #[.val (.ref v), .val (.int (4 : Int32)), .val (.int (1 : Int32)), .val (.int x1)]) (pc' := 16) C X105 d13_15 rfl rfl ?_
    refine Go.iloadN (pc' := 17) C X105 d13_16 rfl rfl ?_
    refine Go.bipush (z := (32 : Int32)) (pc' := 19) C X105 d13_17 rfl rfl ?_
    by_cases hc19_106 : x1 = (32 : Int32)
    · refine Go.icmpYes (pc' := 41) C X105 d13_19 (teq (x := x1) (y := (32 : Int32)) hc19_106).1 (by decide) (by decide) ?_
      refine Go.iinc (Ls' := #[.val (.ref v), .val (.int (4 : Int32)), .val (.int ((1 : Int32) + (1 : Int32))), .val (.int x1)]) (z := (1 : Int32)) (pc' := 44) C X105 d13_41 rfl rfl rfl rfl ?_
      rw [show ((1 : Int32) + (1 : Int32)) = (2 : Int32) from by decide]
      refine Go.goto (pc' := 5) C X105 d13_44 (by decide) (by decide) ?_
      refine Go.iloadN (pc' := 6) C X105 d13_5 rfl rfl ?_
      refine Go.iloadN (pc' := 7) C X105 d13_6 rfl rfl ?_
      refine Go.icmpNo (pc' := 10) C X105 d13_7 (tlt (x := (2 : Int32)) (y := (4 : Int32)) (by decide)).2.1 rfl ?_
      refine Go.aloadN (pc' := 11) C X105 d13_10 rfl rfl rfl ?_
      refine Go.iloadN (pc' := 12) C X105 d13_11 rfl rfl ?_
      refine Go.callS (y := (⟨"java/lang/StringLatin1", "getChar", "([BI)C"⟩ : MethodName)) (pc' := 15) C X105 (tw hw 65 rfl) (tw hw 66 rfl) (by decide) (rm_gch l Z a0 hw v k ([x0, x1, x2, x3]) ((2 : Int32)) 2 x2 h0 O0 Bx (by decide) (by decide) rfl hx2.r) (tw hw 67 rfl) (tw hw 63 rfl) e105 (argsL := [(.ref v), (.int (2 : Int32))]) (rest := []) (W := 0) rfl rfl pd_8 rfl (Nat.le_of_eq rfl) rfl (by decide) (by decide) (by decide) (by decide) d13_12 rfl ?_
      intro T108 v108 L108 X108 q108
      obtain ⟨rfl, rfl, e108⟩ := q108
      have N108 := Fr.app N105 (Fr.nil _)
      refine Go.istoreN (Ls' := #[.val (.ref v), .val (.int (4 : Int32)), .val (.int (2 : Int32)), .val (.int x2)]) (pc' := 16) C X108 d13_15 rfl rfl ?_
      refine Go.iloadN (pc' := 17) C X108 d13_16 rfl rfl ?_
      refine Go.bipush (z := (32 : Int32)) (pc' := 19) C X108 d13_17 rfl rfl ?_
      by_cases hc19_109 : x2 = (32 : Int32)
      · refine Go.icmpYes (pc' := 41) C X108 d13_19 (teq (x := x2) (y := (32 : Int32)) hc19_109).1 (by decide) (by decide) ?_
        refine Go.iinc (Ls' := #[.val (.ref v), .val (.int (4 : Int32)), .val (.int ((2 : Int32) + (1 : Int32))), .val (.int x2)]) (z := (1 : Int32)) (pc' := 44) C X108 d13_41 rfl rfl rfl rfl ?_
        rw [show ((2 : Int32) + (1 : Int32)) = (3 : Int32) from by decide]
        refine Go.goto (pc' := 5) C X108 d13_44 (by decide) (by decide) ?_
        refine Go.iloadN (pc' := 6) C X108 d13_5 rfl rfl ?_
        refine Go.iloadN (pc' := 7) C X108 d13_6 rfl rfl ?_
        refine Go.icmpNo (pc' := 10) C X108 d13_7 (tlt (x := (3 : Int32)) (y := (4 : Int32)) (by decide)).2.1 rfl ?_
        refine Go.aloadN (pc' := 11) C X108 d13_10 rfl rfl rfl ?_
        refine Go.iloadN (pc' := 12) C X108 d13_11 rfl rfl ?_
        refine Go.callS (y := (⟨"java/lang/StringLatin1", "getChar", "([BI)C"⟩ : MethodName)) (pc' := 15) C X108 (tw hw 65 rfl) (tw hw 66 rfl) (by decide) (rm_gch l Z a0 hw v k ([x0, x1, x2, x3]) ((3 : Int32)) 3 x3 h0 O0 Bx (by decide) (by decide) rfl hx3.r) (tw hw 67 rfl) (tw hw 63 rfl) e108 (argsL := [(.ref v), (.int (3 : Int32))]) (rest := []) (W := 0) rfl rfl pd_8 rfl (Nat.le_of_eq rfl) rfl (by decide) (by decide) (by decide) (by decide) d13_12 rfl ?_
        intro T111 v111 L111 X111 q111
        obtain ⟨rfl, rfl, e111⟩ := q111
        have N111 := Fr.app N108 (Fr.nil _)
        refine Go.istoreN (Ls' := #[.val (.ref v), .val (.int (4 : Int32)), .val (.int (3 : Int32)), .val (.int x3)]) (pc' := 16) C X111 d13_15 rfl rfl ?_
        refine Go.iloadN (pc' := 17) C X111 d13_16 rfl rfl ?_
        refine Go.bipush (z := (32 : Int32)) (pc' := 19) C X111 d13_17 rfl rfl ?_
        by_cases hc19_112 : x3 = (32 : Int32)
        · refine Go.icmpYes (pc' := 41) C X111 d13_19 (teq (x := x3) (y := (32 : Int32)) hc19_112).1 (by decide) (by decide) ?_
          refine Go.iinc (Ls' := #[.val (.ref v), .val (.int (4 : Int32)), .val (.int ((3 : Int32) + (1 : Int32))), .val (.int x3)]) (z := (1 : Int32)) (pc' := 44) C X111 d13_41 rfl rfl rfl rfl ?_
          rw [show ((3 : Int32) + (1 : Int32)) = (4 : Int32) from by decide]
          refine Go.goto (pc' := 5) C X111 d13_44 (by decide) (by decide) ?_
          refine Go.iloadN (pc' := 6) C X111 d13_5 rfl rfl ?_
          refine Go.iloadN (pc' := 7) C X111 d13_6 rfl rfl ?_
          refine Go.icmpYes (pc' := 47) C X111 d13_7 (flt (x := (4 : Int32)) (y := (4 : Int32)) (by decide)).2.1 (by decide) (by decide) ?_
          refine Go.iloadN (pc' := 48) C X111 d13_47 rfl rfl ?_
          exact Go.retI C X111 rfl d13_48 (by rw [e111]; exact ⟨(4 : Int32), rfl, (by simp), rfl, (absurd ⟨hc19_103, hc19_106, hc19_109, hc19_112⟩ hns)⟩) (by decide) (by decide)
        · refine Go.icmpNo (pc' := 22) C X111 d13_19 (feq (x := x3) (y := (32 : Int32)) hc19_112).1 rfl ?_
          refine Go.iloadN (pc' := 23) C X111 d13_22 rfl rfl ?_
          refine Go.bipush (z := (9 : Int32)) (pc' := 25) C X111 d13_23 rfl rfl ?_
          refine Go.icmpNo (pc' := 28) C X111 d13_25 (feq (x := x3) (y := (9 : Int32)) hx3.n9).1 rfl ?_
          refine Go.getS (pc' := 31) (host := "") C X111 (Or.inl (tw hw 68 rfl)) Via.refl e111 (SI.ext O0) d13_28 rfl ?_
          intro T115 X115 e115
          refine Go.iloadN (pc' := 32) C X115 d13_31 rfl rfl ?_
          refine Go.callV (y := (⟨"java/lang/CharacterDataLatin1", "isWhitespace", "(I)Z"⟩ : MethodName)) (z := (⟨"java/lang/CharacterDataLatin1", "isWhitespace", "(I)Z"⟩ : MethodName)) (a := ci) (pc' := 35) C X115 (tw hw 70 rfl) (tw hw 71 rfl) (notFace_at C.2.1 (tw hw 73 rfl)) (tw hw 73 rfl) (tw hw 72 rfl) (Exa.ext O0 Ec) (by decide) (rm_iw l Z a0 hw ci x3 ta tk ts h0 O0 Ec SA AA (hx3.g hc19_112) ht) (tw hw 74 rfl) (tw hw 69 rfl) e115 (argsL := [(.int x3)]) (rest := []) (W := 0) rfl rfl pd_11 rfl (Nat.le_of_eq rfl) rfl (by decide) (by decide) (by decide) (by decide) d13_32 rfl ?_
          intro T116 v116 L116 X116 q116
          obtain ⟨rfl, rfl, e116⟩ := q116
          have N116 := Fr.app N111 (Fr.nil _)
          refine Go.ifNo (pc' := 38) C X116 d13_35 ((if0 _ _).trans (teq (x := (0 : Int32)) (y := (0 : Int32)) (by decide)).2) rfl ?_
          refine Go.goto (pc' := 47) C X116 d13_38 (by decide) (by decide) ?_
          refine Go.iloadN (pc' := 48) C X116 d13_47 rfl rfl ?_
          exact Go.retI C X116 rfl d13_48 (by rw [e116]; exact ⟨(3 : Int32), rfl, (by simp), rfl, (by decide)⟩) (by decide) (by decide)
      · refine Go.icmpNo (pc' := 22) C X108 d13_19 (feq (x := x2) (y := (32 : Int32)) hc19_109).1 rfl ?_
        refine Go.iloadN (pc' := 23) C X108 d13_22 rfl rfl ?_
        refine Go.bipush (z := (9 : Int32)) (pc' := 25) C X108 d13_23 rfl rfl ?_
        refine Go.icmpNo (pc' := 28) C X108 d13_25 (feq (x := x2) (y := (9 : Int32)) hx2.n9).1 rfl ?_
        refine Go.getS (pc' := 31) (host := "") C X108 (Or.inl (tw hw 68 rfl)) Via.refl e108 (SI.ext O0) d13_28 rfl ?_
        intro T119 X119 e119
        refine Go.iloadN (pc' := 32) C X119 d13_31 rfl rfl ?_
        refine Go.callV (y := (⟨"java/lang/CharacterDataLatin1", "isWhitespace", "(I)Z"⟩ : MethodName)) (z := (⟨"java/lang/CharacterDataLatin1", "isWhitespace", "(I)Z"⟩ : MethodName)) (a := ci) (pc' := 35) C X119 (tw hw 70 rfl) (tw hw 71 rfl) (notFace_at C.2.1 (tw hw 73 rfl)) (tw hw 73 rfl) (tw hw 72 rfl) (Exa.ext O0 Ec) (by decide) (rm_iw l Z a0 hw ci x2 ta tk ts h0 O0 Ec SA AA (hx2.g hc19_109) ht) (tw hw 74 rfl) (tw hw 69 rfl) e119 (argsL := [(.int x2)]) (rest := []) (W := 0) rfl rfl pd_11 rfl (Nat.le_of_eq rfl) rfl (by decide) (by decide) (by decide) (by decide) d13_32 rfl ?_
        intro T120 v120 L120 X120 q120
        obtain ⟨rfl, rfl, e120⟩ := q120
        have N120 := Fr.app N108 (Fr.nil _)
        refine Go.ifNo (pc' := 38) C X120 d13_35 ((if0 _ _).trans (teq (x := (0 : Int32)) (y := (0 : Int32)) (by decide)).2) rfl ?_
        refine Go.goto (pc' := 47) C X120 d13_38 (by decide) (by decide) ?_
        refine Go.iloadN (pc' := 48) C X120 d13_47 rfl rfl ?_
        exact Go.retI C X120 rfl d13_48 (by rw [e120]; exact ⟨(2 : Int32), rfl, (by simp), rfl, (by decide)⟩) (by decide) (by decide)
    · refine Go.icmpNo (pc' := 22) C X105 d13_19 (feq (x := x1) (y := (32 : Int32)) hc19_106).1 rfl ?_
      refine Go.iloadN (pc' := 23) C X105 d13_22 rfl rfl ?_
      refine Go.bipush (z := (9 : Int32)) (pc' := 25) C X105 d13_23 rfl rfl ?_
      refine Go.icmpNo (pc' := 28) C X105 d13_25 (feq (x := x1) (y := (9 : Int32)) hx1.n9).1 rfl ?_
      refine Go.getS (pc' := 31) (host := "") C X105 (Or.inl (tw hw 68 rfl)) Via.refl e105 (SI.ext O0) d13_28 rfl ?_
      intro T123 X123 e123
      refine Go.iloadN (pc' := 32) C X123 d13_31 rfl rfl ?_
      refine Go.callV (y := (⟨"java/lang/CharacterDataLatin1", "isWhitespace", "(I)Z"⟩ : MethodName)) (z := (⟨"java/lang/CharacterDataLatin1", "isWhitespace", "(I)Z"⟩ : MethodName)) (a := ci) (pc' := 35) C X123 (tw hw 70 rfl) (tw hw 71 rfl) (notFace_at C.2.1 (tw hw 73 rfl)) (tw hw 73 rfl) (tw hw 72 rfl) (Exa.ext O0 Ec) (by decide) (rm_iw l Z a0 hw ci x1 ta tk ts h0 O0 Ec SA AA (hx1.g hc19_106) ht) (tw hw 74 rfl) (tw hw 69 rfl) e123 (argsL := [(.int x1)]) (rest := []) (W := 0) rfl rfl pd_11 rfl (Nat.le_of_eq rfl) rfl (by decide) (by decide) (by decide) (by decide) d13_32 rfl ?_
      intro T124 v124 L124 X124 q124
      obtain ⟨rfl, rfl, e124⟩ := q124
      have N124 := Fr.app N105 (Fr.nil _)
      refine Go.ifNo (pc' := 38) C X124 d13_35 ((if0 _ _).trans (teq (x := (0 : Int32)) (y := (0 : Int32)) (by decide)).2) rfl ?_
      refine Go.goto (pc' := 47) C X124 d13_38 (by decide) (by decide) ?_
      refine Go.iloadN (pc' := 48) C X124 d13_47 rfl rfl ?_
      exact Go.retI C X124 rfl d13_48 (by rw [e124]; exact ⟨(1 : Int32), rfl, (by simp), rfl, (by decide)⟩) (by decide) (by decide)
  · refine Go.icmpNo (pc' := 22) C X102 d13_19 (feq (x := x0) (y := (32 : Int32)) hc19_103).1 rfl ?_
    refine Go.iloadN (pc' := 23) C X102 d13_22 rfl rfl ?_
    refine Go.bipush (z := (9 : Int32)) (pc' := 25) C X102 d13_23 rfl rfl ?_
    refine Go.icmpNo (pc' := 28) C X102 d13_25 (feq (x := x0) (y := (9 : Int32)) hx0.n9).1 rfl ?_
    refine Go.getS (pc' := 31) (host := "") C X102 (Or.inl (tw hw 68 rfl)) Via.refl e102 (SI.ext O0) d13_28 rfl ?_
    intro T127 X127 e127
    refine Go.iloadN (pc' := 32) C X127 d13_31 rfl rfl ?_
    refine Go.callV (y := (⟨"java/lang/CharacterDataLatin1", "isWhitespace", "(I)Z"⟩ : MethodName)) (z := (⟨"java/lang/CharacterDataLatin1", "isWhitespace", "(I)Z"⟩ : MethodName)) (a := ci) (pc' := 35) C X127 (tw hw 70 rfl) (tw hw 71 rfl) (notFace_at C.2.1 (tw hw 73 rfl)) (tw hw 73 rfl) (tw hw 72 rfl) (Exa.ext O0 Ec) (by decide) (rm_iw l Z a0 hw ci x0 ta tk ts h0 O0 Ec SA AA (hx0.g hc19_103) ht) (tw hw 74 rfl) (tw hw 69 rfl) e127 (argsL := [(.int x0)]) (rest := []) (W := 0) rfl rfl pd_11 rfl (Nat.le_of_eq rfl) rfl (by decide) (by decide) (by decide) (by decide) d13_32 rfl ?_
    intro T128 v128 L128 X128 q128
    obtain ⟨rfl, rfl, e128⟩ := q128
    have N128 := Fr.app N102 (Fr.nil _)
    refine Go.ifNo (pc' := 38) C X128 d13_35 ((if0 _ _).trans (teq (x := (0 : Int32)) (y := (0 : Int32)) (by decide)).2) rfl ?_
    refine Go.goto (pc' := 47) C X128 d13_38 (by decide) (by decide) ?_
    refine Go.iloadN (pc' := 48) C X128 d13_47 rfl rfl ?_
    exact Go.retI C X128 rfl d13_48 (by rw [e128]; exact ⟨(0 : Int32), rfl, (by simp), rfl, (by decide)⟩) (by decide) (by decide)
def Q_snw4 (Z : State) (s1 : Addr) (v : Addr) (k : ClassId) (cP : Int32) (x0 : Int32) (x1 : Int32) (x2 : Int32) (x3 : Int32) (ci : Addr) (ta : Addr) (tk : ClassId) (ts : List Value) (h0 : Heap) (rv : Option Value) (h : Heap) (L : List Loc) : Prop := ∃ r : Int32, rv = some (.int r) ∧ L = [] ∧ h = h0 ∧ (¬ r = (4 : Int32))
set_option maxRecDepth 65536 in
set_option maxHeartbeats 40000000 in
theorem rm_snw4 (l : Launch) (Z : State) (a0 : Array Value) (hw : ∀ d ∈ tables_1, d.before a0 Z = true) (s1 : Addr) (v : Addr) (k : ClassId) (cP : Int32) (x0 : Int32) (x1 : Int32) (x2 : Int32) (x3 : Int32) (ci : Addr) (ta : Addr) (tk : ClassId) (ts : List Value) (h0 : Heap) (O0 : Ext Z.heap h0) (E0 : Exa Z h0 s1 "java/lang/String") (Fv : Fld Z h0 s1 "java/lang/String" "value" "[B" (.ref v)) (Fc : Fld Z h0 s1 "java/lang/String" "coder" "B" (.int (0 : Int32))) (Bx : AL Z h0 v k .byte (by8 [x0, x1, x2, x3])) (SC : Sta Z Z.heap "java/lang/String" "COMPACT_STRINGS" "Z" (.int cP)) (SI : Sta Z Z.heap "java/lang/CharacterDataLatin1" "instance" "Ljava/lang/CharacterDataLatin1;" (.ref ci)) (Ec : Exa Z Z.heap ci "java/lang/CharacterDataLatin1") (SA : Sta Z Z.heap "java/lang/CharacterDataLatin1" "A" "[I" (.ref ta)) (AA : AL Z Z.heap ta tk .int ts) (hx0 : Pr x0) (hx1 : Pr x1) (hx2 : Pr x2) (hx3 : Pr x3) (hns : ¬ (x0 = (32 : Int32) ∧ x1 = (32 : Int32) ∧ x2 = (32 : Int32) ∧ x3 = (32 : Int32))) (ht : ∀ i : Nat, 33 ≤ i → i < 256 → ∃ u : Int32, ts[i]? = some (.int u) ∧ ¬ (u &&& (28672 : Int32)) = (16384 : Int32)) (hP : ¬ cP = (0 : Int32)) :
    Met1 l Z (⟨"java/lang/String", "indexOfNonWhitespace", "()I"⟩ : MethodName) jdk_42_method_120_code 1 (some .int) ({ frames := 3, cells := 0, slots := 0, locals := 44 } : Room) #[(.ref s1)] h0 (Q_snw4 Z s1 v k cP x0 x1 x2 x3 ci ta tk ts h0) := by
  refine Met1.of_body (Ls := #[.val (.ref s1)]) pf_11 (fun m => by first | (simp [entryFrame, mkF, argsToLocals, Value.category]; done) | rfl) ?_
  intro p e s m below meth c T0 C X0 e0
  have N0 : Fr Z.heap.size [] := Fr.nil _
  refine Go.aloadN (pc' := 1) C X0 d11_0 rfl rfl rfl ?_
  refine Go.callV (y := (⟨"java/lang/String", "isLatin1", "()Z"⟩ : MethodName)) (z := (⟨"java/lang/String", "isLatin1", "()Z"⟩ : MethodName)) (a := s1) (pc' := 4) C X0 (tw hw 56 rfl) (tw hw 57 rfl) (notFace_at C.2.1 (tw hw 59 rfl)) (tw hw 59 rfl) (tw hw 58 rfl) E0 (by decide) (rm_isL l Z a0 hw s1 cP h0 O0 Fc SC hP) (tw hw 60 rfl) (tw hw 7 rfl) e0 (argsL := []) (rest := []) (W := 0) rfl rfl pd_7 rfl (Nat.le_of_eq rfl) rfl (by decide) (by decide) (by decide) (by decide) d11_1 rfl ?_
  intro T101 v101 L101 X101 q101
  obtain ⟨rfl, rfl, e101⟩ := q101
  have N101 := Fr.app N0 (Fr.nil _)
  refine Go.ifNo (pc' := 7) C X101 d11_4 ((if0 _ _).trans (feq (x := (1 : Int32)) (y := (0 : Int32)) (by decide)).1) rfl ?_
  refine Go.aloadN (pc' := 8) C X101 d11_7 rfl rfl rfl ?_
  refine Go.getF (pc' := 11) (host := "") C X101 (Or.inl (tw hw 25 rfl)) Via.refl e101 Fv d11_8 rfl ?_
  intro T103 X103 e103
  refine Go.callS (y := (⟨"java/lang/StringLatin1", "indexOfNonWhitespace", "([B)I"⟩ : MethodName)) (pc' := 14) C X103 (tw hw 61 rfl) (tw hw 62 rfl) (by decide) (rm_lnw4 l Z a0 hw v k x0 x1 x2 x3 ci ta tk ts h0 O0 Bx SI Ec SA AA hx0 hx1 hx2 hx3 hns ht) (tw hw 64 rfl) (tw hw 63 rfl) e103 (argsL := [(.ref v)]) (rest := []) (W := 0) rfl rfl pd_12 rfl (Nat.le_of_eq rfl) rfl (by decide) (by decide) (by decide) (by decide) d11_11 rfl ?_
  intro T104 v104 L104 X104 q104
  obtain ⟨r_104, rfl, rfl, e104, p104_0⟩ := q104
  have N104 := Fr.app N101 (Fr.nil _)
  refine Go.goto (pc' := 24) C X104 d11_14 (by decide) (by decide) ?_
  exact Go.retI C X104 rfl d11_24 (by rw [e104]; exact ⟨r_104, rfl, (by simp), rfl, p104_0⟩) (by decide) (by decide)
def Q_bl4 (Z : State) (s1 : Addr) (v : Addr) (k : ClassId) (cP : Int32) (x0 : Int32) (x1 : Int32) (x2 : Int32) (x3 : Int32) (ci : Addr) (ta : Addr) (tk : ClassId) (ts : List Value) (h0 : Heap) (rv : Option Value) (h : Heap) (L : List Loc) : Prop := rv = some (.int (0 : Int32)) ∧ L = [] ∧ h = h0
set_option maxRecDepth 65536 in
set_option maxHeartbeats 40000000 in
theorem rm_bl4 (l : Launch) (Z : State) (a0 : Array Value) (hw : ∀ d ∈ tables_1, d.before a0 Z = true) (s1 : Addr) (v : Addr) (k : ClassId) (cP : Int32) (x0 : Int32) (x1 : Int32) (x2 : Int32) (x3 : Int32) (ci : Addr) (ta : Addr) (tk : ClassId) (ts : List Value) (h0 : Heap) (O0 : Ext Z.heap h0) (E0 : Exa Z h0 s1 "java/lang/String") (Fv : Fld Z h0 s1 "java/lang/String" "value" "[B" (.ref v)) (Fc : Fld Z h0 s1 "java/lang/String" "coder" "B" (.int (0 : Int32))) (Bx : AL Z h0 v k .byte (by8 [x0, x1, x2, x3])) (SC : Sta Z Z.heap "java/lang/String" "COMPACT_STRINGS" "Z" (.int cP)) (SI : Sta Z Z.heap "java/lang/CharacterDataLatin1" "instance" "Ljava/lang/CharacterDataLatin1;" (.ref ci)) (Ec : Exa Z Z.heap ci "java/lang/CharacterDataLatin1") (SA : Sta Z Z.heap "java/lang/CharacterDataLatin1" "A" "[I" (.ref ta)) (AA : AL Z Z.heap ta tk .int ts) (hx0 : Pr x0) (hx1 : Pr x1) (hx2 : Pr x2) (hx3 : Pr x3) (hns : ¬ (x0 = (32 : Int32) ∧ x1 = (32 : Int32) ∧ x2 = (32 : Int32) ∧ x3 = (32 : Int32))) (ht : ∀ i : Nat, 33 ≤ i → i < 256 → ∃ u : Int32, ts[i]? = some (.int u) ∧ ¬ (u &&& (28672 : Int32)) = (16384 : Int32)) (hP : ¬ cP = (0 : Int32)) :
    Met1 l Z (⟨"java/lang/String", "isBlank", "()Z"⟩ : MethodName) jdk_42_method_117_code 1 (some .boolean) ({ frames := 4, cells := 0, slots := 0, locals := 56 } : Room) #[(.ref s1)] h0 (Q_bl4 Z s1 v k cP x0 x1 x2 x3 ci ta tk ts h0) := by
  refine Met1.of_body (Ls := #[.val (.ref s1)]) pf_10 (fun m => by first | (simp [entryFrame, mkF, argsToLocals, Value.category]; done) | rfl) ?_
  intro p e s m below meth c T0 C X0 e0
  have N0 : Fr Z.heap.size [] := Fr.nil _
  refine Go.aloadN (pc' := 1) C X0 d10_0 rfl rfl rfl ?_
  refine Go.callP (y := (⟨"java/lang/String", "indexOfNonWhitespace", "()I"⟩ : MethodName)) (a := s1) (pc' := 4) C X0 (tw hw 51 rfl) (tw hw 52 rfl) (tw hw 54 rfl) (tw hw 53 rfl) E0 (by decide) (rm_snw4 l Z a0 hw s1 v k cP x0 x1 x2 x3 ci ta tk ts h0 O0 E0 Fv Fc Bx SC SI Ec SA AA hx0 hx1 hx2 hx3 hns ht hP) (tw hw 55 rfl) (tw hw 7 rfl) e0 (argsL := []) (rest := []) (W := 0) rfl rfl pd_13 rfl (Nat.le_of_eq rfl) rfl (by decide) (by decide) (by decide) (by decide) d10_1 rfl ?_
  intro T101 v101 L101 X101 q101
  obtain ⟨r_101, rfl, rfl, e101, p101_0⟩ := q101
  have N101 := Fr.app N0 (Fr.nil _)
  refine Go.aloadN (pc' := 5) C X101 d10_4 rfl rfl rfl ?_
  refine Go.callV (y := (⟨"java/lang/String", "length", "()I"⟩ : MethodName)) (z := (⟨"java/lang/String", "length", "()I"⟩ : MethodName)) (a := s1) (pc' := 8) C X101 (tw hw 81 rfl) (tw hw 82 rfl) (notFace_at C.2.1 (tw hw 84 rfl)) (tw hw 84 rfl) (tw hw 83 rfl) E0 (by decide) (rm_len l Z a0 hw s1 v k ([x0, x1, x2, x3]) cP ((4 : Int32)) h0 O0 E0 Fv Fc Bx SC hP rfl) (tw hw 85 rfl) (tw hw 7 rfl) e101 (argsL := []) (rest := [(.int r_101)]) (W := 1) rfl rfl pd_13 rfl (Nat.le_of_eq rfl) rfl (by decide) (by decide) (by decide) (by decide) d10_5 rfl ?_
  intro T102 v102 L102 X102 q102
  obtain ⟨rfl, rfl, e102⟩ := q102
  have N102 := Fr.app N101 (Fr.nil _)
  refine Go.icmpYes (pc' := 15) C X102 d10_8 (feq (x := r_101) (y := (4 : Int32)) p101_0).2 (by decide) (by decide) ?_
  refine Go.iconst (z := (0 : Int32)) (pc' := 16) C X102 d10_15 rfl rfl ?_
  exact Go.retN C X102 rfl d10_16 (by simp) (by rw [e102]; exact ⟨rfl, (by simp), rfl⟩) (by decide) (by decide)
def Q_hc4 (Z : State) (s1 : Addr) (v : Addr) (k : ClassId) (cP : Int32) (fm : Value) (x0 : Int32) (x1 : Int32) (x2 : Int32) (x3 : Int32) (h0 : Heap) (rv : Option Value) (h : Heap) (L : List Loc) : Prop := rv = some (.int (0 : Int32)) ∧ L = [] ∧ h = h0
set_option maxRecDepth 65536 in
set_option maxHeartbeats 40000000 in
theorem rm_hc4 (l : Launch) (Z : State) (a0 : Array Value) (hw : ∀ d ∈ tables_1, d.before a0 Z = true) (s1 : Addr) (v : Addr) (k : ClassId) (cP : Int32) (fm : Value) (x0 : Int32) (x1 : Int32) (x2 : Int32) (x3 : Int32) (h0 : Heap) (O0 : Ext Z.heap h0) (E0 : Exa Z h0 s1 "java/lang/String") (Fv : Fld Z h0 s1 "java/lang/String" "value" "[B" (.ref v)) (Fc : Fld Z h0 s1 "java/lang/String" "coder" "B" (.int (0 : Int32))) (Bx : AL Z h0 v k .byte (by8 [x0, x1, x2, x3])) (SC : Sta Z Z.heap "java/lang/String" "COMPACT_STRINGS" "Z" (.int cP)) (SF : Sta Z Z.heap "jdk/internal/util/Preconditions" "SIOOBE_FORMATTER" "Ljava/util/function/BiFunction;" fm) (hx0 : Pr x0) (hx1 : Pr x1) (hx2 : Pr x2) (hx3 : Pr x3) (hP : ¬ cP = (0 : Int32)) (hfm : fm.category = 1) :
    Met1 l Z (⟨"com/example/tranche/tranche/Notation", "holdsControl", "(Ljava/lang/String;)Z"⟩ : MethodName) prog_14_method_12_code 2 (some .boolean) ({ frames := 4, cells := 0, slots := 0, locals := 53 } : Room) #[(.ref s1)] h0 (Q_hc4 Z s1 v k cP fm x0 x1 x2 x3 h0) := by
  refine Met1.of_body (Ls := #[.val (.ref s1), .unset]) pf_19 (fun m => by first | (simp [entryFrame, mkF, argsToLocals, Value.category]; done) | rfl) ?_
  intro p e s m below meth c T0 C X0 e0
  have N0 : Fr Z.heap.size [] := Fr.nil _
  refine Go.iconst (z := (0 : Int32)) (pc' := 1) C X0 d19_0 rfl rfl ?_
  refine Go.istoreN (Ls' := #[.val (.ref s1), .val (.int (0 : Int32))]) (pc' := 2) C X0 d19_1 rfl rfl ?_
  refine Go.iloadN (pc' := 3) C X0 d19_2 rfl rfl ?_
  refine Go.aloadN (pc' := 4) C X0 d19_3 rfl rfl rfl ?_
  refine Go.callV (y := (⟨"java/lang/String", "length", "()I"⟩ : MethodName)) (z := (⟨"java/lang/String", "length", "()I"⟩ : MethodName)) (a := s1) (pc' := 7) C X0 (tw hw 94 rfl) (tw hw 82 rfl) (notFace_at C.2.1 (tw hw 84 rfl)) (tw hw 84 rfl) (tw hw 83 rfl) E0 (by decide) (rm_len l Z a0 hw s1 v k ([x0, x1, x2, x3]) cP ((4 : Int32)) h0 O0 E0 Fv Fc Bx SC hP rfl) (tw hw 85 rfl) (tw hw 7 rfl) e0 (argsL := []) (rest := [(.int (0 : Int32))]) (W := 1) rfl rfl pd_13 rfl (Nat.le_of_eq rfl) rfl (by decide) (by decide) (by decide) (by decide) d19_4 rfl ?_
  intro T101 v101 L101 X101 q101
  obtain ⟨rfl, rfl, e101⟩ := q101
  have N101 := Fr.app N0 (Fr.nil _)
  refine Go.icmpNo (pc' := 10) C X101 d19_7 (tlt (x := (0 : Int32)) (y := (4 : Int32)) (by decide)).2.1 rfl ?_
  refine Go.aloadN (pc' := 11) C X101 d19_10 rfl rfl rfl ?_
  refine Go.iloadN (pc' := 12) C X101 d19_11 rfl rfl ?_
  refine Go.callV (y := (⟨"java/lang/String", "charAt", "(I)C"⟩ : MethodName)) (z := (⟨"java/lang/String", "charAt", "(I)C"⟩ : MethodName)) (a := s1) (pc' := 15) C X101 (tw hw 95 rfl) (tw hw 96 rfl) (notFace_at C.2.1 (tw hw 98 rfl)) (tw hw 98 rfl) (tw hw 97 rfl) E0 (by decide) (rm_chA l Z a0 hw s1 cP v k ([x0, x1, x2, x3]) ((0 : Int32)) 0 x0 fm ((4 : Int32)) h0 O0 E0 Fv Fc Bx SC SF hP (by decide) (by decide) rfl hx0.r (by decide) rfl hfm) (tw hw 99 rfl) (tw hw 7 rfl) e101 (argsL := [(.int (0 : Int32))]) (rest := []) (W := 0) rfl rfl pd_14 rfl (Nat.le_of_eq rfl) rfl (by decide) (by decide) (by decide) (by decide) d19_12 rfl ?_
  intro T103 v103 L103 X103 q103
  obtain ⟨rfl, rfl, e103⟩ := q103
  have N103 := Fr.app N101 (Fr.nil _)
  refine Go.bipush (z := (32 : Int32)) (pc' := 17) C X103 d19_15 rfl rfl ?_
  refine Go.icmpNo (pc' := 20) C X103 d19_17 (flt (x := x0) (y := (32 : Int32)) hx0.lt).1 rfl ?_
  refine Go.aloadN (pc' := 21) C X103 d19_20 rfl rfl rfl ?_
  refine Go.iloadN (pc' := 22) C X103 d19_21 rfl rfl ?_
  refine Go.callV (y := (⟨"java/lang/String", "charAt", "(I)C"⟩ : MethodName)) (z := (⟨"java/lang/String", "charAt", "(I)C"⟩ : MethodName)) (a := s1) (pc' := 25) C X103 (tw hw 95 rfl) (tw hw 96 rfl) (notFace_at C.2.1 (tw hw 98 rfl)) (tw hw 98 rfl) (tw hw 97 rfl) E0 (by decide) (rm_chA l Z a0 hw s1 cP v k ([x0, x1, x2, x3]) ((0 : Int32)) 0 x0 fm ((4 : Int32)) h0 O0 E0 Fv Fc Bx SC SF hP (by decide) (by decide) rfl hx0.r (by decide) rfl hfm) (tw hw 99 rfl) (tw hw 7 rfl) e103 (argsL := [(.int (0 : Int32))]) (rest := []) (W := 0) rfl rfl pd_14 rfl (Nat.le_of_eq rfl) rfl (by decide) (by decide) (by decide) (by decide) d19_22 rfl ?_
  intro T105 v105 L105 X105 q105
  obtain ⟨rfl, rfl, e105⟩ := q105
  have N105 := Fr.app N103 (Fr.nil _)
  refine Go.bipush (z := (127 : Int32)) (pc' := 27) C X105 d19_25 rfl rfl ?_
  refine Go.icmpYes (pc' := 32) C X105 d19_27 (feq (x := x0) (y := (127 : Int32)) hx0.ne).2 (by decide) (by decide) ?_
  refine Go.iinc (Ls' := #[.val (.ref s1), .val (.int ((0 : Int32) + (1 : Int32)))]) (z := (1 : Int32)) (pc' := 35) C X105 d19_32 rfl rfl rfl rfl ?_
  rw [show ((0 : Int32) + (1 : Int32)) = (1 : Int32) from by decide]
  refine Go.goto (pc' := 2) C X105 d19_35 (by decide) (by decide) ?_
  refine Go.iloadN (pc' := 3) C X105 d19_2 rfl rfl ?_
  refine Go.aloadN (pc' := 4) C X105 d19_3 rfl rfl rfl ?_
  refine Go.callV (y := (⟨"java/lang/String", "length", "()I"⟩ : MethodName)) (z := (⟨"java/lang/String", "length", "()I"⟩ : MethodName)) (a := s1) (pc' := 7) C X105 (tw hw 94 rfl) (tw hw 82 rfl) (notFace_at C.2.1 (tw hw 84 rfl)) (tw hw 84 rfl) (tw hw 83 rfl) E0 (by decide) (rm_len l Z a0 hw s1 v k ([x0, x1, x2, x3]) cP ((4 : Int32)) h0 O0 E0 Fv Fc Bx SC hP rfl) (tw hw 85 rfl) (tw hw 7 rfl) e105 (argsL := []) (rest := [(.int (1 : Int32))]) (W := 1) rfl rfl pd_13 rfl (Nat.le_of_eq rfl) rfl (by decide) (by decide) (by decide) (by decide) d19_4 rfl ?_
  intro T107 v107 L107 X107 q107
  obtain ⟨rfl, rfl, e107⟩ := q107
  have N107 := Fr.app N105 (Fr.nil _)
  refine Go.icmpNo (pc' := 10) C X107 d19_7 (tlt (x := (1 : Int32)) (y := (4 : Int32)) (by decide)).2.1 rfl ?_
  refine Go.aloadN (pc' := 11) C X107 d19_10 rfl rfl rfl ?_
  refine Go.iloadN (pc' := 12) C X107 d19_11 rfl rfl ?_
  refine Go.callV (y := (⟨"java/lang/String", "charAt", "(I)C"⟩ : MethodName)) (z := (⟨"java/lang/String", "charAt", "(I)C"⟩ : MethodName)) (a := s1) (pc' := 15) C X107 (tw hw 95 rfl) (tw hw 96 rfl) (notFace_at C.2.1 (tw hw 98 rfl)) (tw hw 98 rfl) (tw hw 97 rfl) E0 (by decide) (rm_chA l Z a0 hw s1 cP v k ([x0, x1, x2, x3]) ((1 : Int32)) 1 x1 fm ((4 : Int32)) h0 O0 E0 Fv Fc Bx SC SF hP (by decide) (by decide) rfl hx1.r (by decide) rfl hfm) (tw hw 99 rfl) (tw hw 7 rfl) e107 (argsL := [(.int (1 : Int32))]) (rest := []) (W := 0) rfl rfl pd_14 rfl (Nat.le_of_eq rfl) rfl (by decide) (by decide) (by decide) (by decide) d19_12 rfl ?_
  intro T109 v109 L109 X109 q109
  obtain ⟨rfl, rfl, e109⟩ := q109
  have N109 := Fr.app N107 (Fr.nil _)
  refine Go.bipush (z := (32 : Int32)) (pc' := 17) C X109 d19_15 rfl rfl ?_
  refine Go.icmpNo (pc' := 20) C X109 d19_17 (flt (x := x1) (y := (32 : Int32)) hx1.lt).1 rfl ?_
  refine Go.aloadN (pc' := 21) C X109 d19_20 rfl rfl rfl ?_
  refine Go.iloadN (pc' := 22) C X109 d19_21 rfl rfl ?_
  refine Go.callV (y := (⟨"java/lang/String", "charAt", "(I)C"⟩ : MethodName)) (z := (⟨"java/lang/String", "charAt", "(I)C"⟩ : MethodName)) (a := s1) (pc' := 25) C X109 (tw hw 95 rfl) (tw hw 96 rfl) (notFace_at C.2.1 (tw hw 98 rfl)) (tw hw 98 rfl) (tw hw 97 rfl) E0 (by decide) (rm_chA l Z a0 hw s1 cP v k ([x0, x1, x2, x3]) ((1 : Int32)) 1 x1 fm ((4 : Int32)) h0 O0 E0 Fv Fc Bx SC SF hP (by decide) (by decide) rfl hx1.r (by decide) rfl hfm) (tw hw 99 rfl) (tw hw 7 rfl) e109 (argsL := [(.int (1 : Int32))]) (rest := []) (W := 0) rfl rfl pd_14 rfl (Nat.le_of_eq rfl) rfl (by decide) (by decide) (by decide) (by decide) d19_22 rfl ?_
  intro T111 v111 L111 X111 q111
  obtain ⟨rfl, rfl, e111⟩ := q111
  have N111 := Fr.app N109 (Fr.nil _)
  refine Go.bipush (z := (127 : Int32)) (pc' := 27) C X111 d19_25 rfl rfl ?_
  refine Go.icmpYes (pc' := 32) C X111 d19_27 (feq (x := x1) (y := (127 : Int32)) hx1.ne).2 (by decide) (by decide) ?_
  refine Go.iinc (Ls' := #[.val (.ref s1), .val (.int ((1 : Int32) + (1 : Int32)))]) (z := (1 : Int32)) (pc' := 35) C X111 d19_32 rfl rfl rfl rfl ?_
  rw [show ((1 : Int32) + (1 : Int32)) = (2 : Int32) from by decide]
  refine Go.goto (pc' := 2) C X111 d19_35 (by decide) (by decide) ?_
  refine Go.iloadN (pc' := 3) C X111 d19_2 rfl rfl ?_
  refine Go.aloadN (pc' := 4) C X111 d19_3 rfl rfl rfl ?_
  refine Go.callV (y := (⟨"java/lang/String", "length", "()I"⟩ : MethodName)) (z := (⟨"java/lang/String", "length", "()I"⟩ : MethodName)) (a := s1) (pc' := 7) C X111 (tw hw 94 rfl) (tw hw 82 rfl) (notFace_at C.2.1 (tw hw 84 rfl)) (tw hw 84 rfl) (tw hw 83 rfl) E0 (by decide) (rm_len l Z a0 hw s1 v k ([x0, x1, x2, x3]) cP ((4 : Int32)) h0 O0 E0 Fv Fc Bx SC hP rfl) (tw hw 85 rfl) (tw hw 7 rfl) e111 (argsL := []) (rest := [(.int (2 : Int32))]) (W := 1) rfl rfl pd_13 rfl (Nat.le_of_eq rfl) rfl (by decide) (by decide) (by decide) (by decide) d19_4 rfl ?_
  intro T113 v113 L113 X113 q113
  obtain ⟨rfl, rfl, e113⟩ := q113
  have N113 := Fr.app N111 (Fr.nil _)
  refine Go.icmpNo (pc' := 10) C X113 d19_7 (tlt (x := (2 : Int32)) (y := (4 : Int32)) (by decide)).2.1 rfl ?_
  refine Go.aloadN (pc' := 11) C X113 d19_10 rfl rfl rfl ?_
  refine Go.iloadN (pc' := 12) C X113 d19_11 rfl rfl ?_
  refine Go.callV (y := (⟨"java/lang/String", "charAt", "(I)C"⟩ : MethodName)) (z := (⟨"java/lang/String", "charAt", "(I)C"⟩ : MethodName)) (a := s1) (pc' := 15) C X113 (tw hw 95 rfl) (tw hw 96 rfl) (notFace_at C.2.1 (tw hw 98 rfl)) (tw hw 98 rfl) (tw hw 97 rfl) E0 (by decide) (rm_chA l Z a0 hw s1 cP v k ([x0, x1, x2, x3]) ((2 : Int32)) 2 x2 fm ((4 : Int32)) h0 O0 E0 Fv Fc Bx SC SF hP (by decide) (by decide) rfl hx2.r (by decide) rfl hfm) (tw hw 99 rfl) (tw hw 7 rfl) e113 (argsL := [(.int (2 : Int32))]) (rest := []) (W := 0) rfl rfl pd_14 rfl (Nat.le_of_eq rfl) rfl (by decide) (by decide) (by decide) (by decide) d19_12 rfl ?_
  intro T115 v115 L115 X115 q115
  obtain ⟨rfl, rfl, e115⟩ := q115
  have N115 := Fr.app N113 (Fr.nil _)
  refine Go.bipush (z := (32 : Int32)) (pc' := 17) C X115 d19_15 rfl rfl ?_
  refine Go.icmpNo (pc' := 20) C X115 d19_17 (flt (x := x2) (y := (32 : Int32)) hx2.lt).1 rfl ?_
  refine Go.aloadN (pc' := 21) C X115 d19_20 rfl rfl rfl ?_
  refine Go.iloadN (pc' := 22) C X115 d19_21 rfl rfl ?_
  refine Go.callV (y := (⟨"java/lang/String", "charAt", "(I)C"⟩ : MethodName)) (z := (⟨"java/lang/String", "charAt", "(I)C"⟩ : MethodName)) (a := s1) (pc' := 25) C X115 (tw hw 95 rfl) (tw hw 96 rfl) (notFace_at C.2.1 (tw hw 98 rfl)) (tw hw 98 rfl) (tw hw 97 rfl) E0 (by decide) (rm_chA l Z a0 hw s1 cP v k ([x0, x1, x2, x3]) ((2 : Int32)) 2 x2 fm ((4 : Int32)) h0 O0 E0 Fv Fc Bx SC SF hP (by decide) (by decide) rfl hx2.r (by decide) rfl hfm) (tw hw 99 rfl) (tw hw 7 rfl) e115 (argsL := [(.int (2 : Int32))]) (rest := []) (W := 0) rfl rfl pd_14 rfl (Nat.le_of_eq rfl) rfl (by decide) (by decide) (by decide) (by decide) d19_22 rfl ?_
  intro T117 v117 L117 X117 q117
  obtain ⟨rfl, rfl, e117⟩ := q117
  have N117 := Fr.app N115 (Fr.nil _)
  refine Go.bipush (z := (127 : Int32)) (pc' := 27) C X117 d19_25 rfl rfl ?_
  refine Go.icmpYes (pc' := 32) C X117 d19_27 (feq (x := x2) (y := (127 : Int32)) hx2.ne).2 (by decide) (by decide) ?_
  refine Go.iinc (Ls' := #[.val (.ref s1), .val (.int ((2 : Int32) + (1 : Int32)))]) (z := (1 : Int32)) (pc' := 35) C X117 d19_32 rfl rfl rfl rfl ?_
  rw [show ((2 : Int32) + (1 : Int32)) = (3 : Int32) from by decide]
  refine Go.goto (pc' := 2) C X117 d19_35 (by decide) (by decide) ?_
  refine Go.iloadN (pc' := 3) C X117 d19_2 rfl rfl ?_
  refine Go.aloadN (pc' := 4) C X117 d19_3 rfl rfl rfl ?_
  refine Go.callV (y := (⟨"java/lang/String", "length", "()I"⟩ : MethodName)) (z := (⟨"java/lang/String", "length", "()I"⟩ : MethodName)) (a := s1) (pc' := 7) C X117 (tw hw 94 rfl) (tw hw 82 rfl) (notFace_at C.2.1 (tw hw 84 rfl)) (tw hw 84 rfl) (tw hw 83 rfl) E0 (by decide) (rm_len l Z a0 hw s1 v k ([x0, x1, x2, x3]) cP ((4 : Int32)) h0 O0 E0 Fv Fc Bx SC hP rfl) (tw hw 85 rfl) (tw hw 7 rfl) e117 (argsL := []) (rest := [(.int (3 : Int32))]) (W := 1) rfl rfl pd_13 rfl (Nat.le_of_eq rfl) rfl (by decide) (by decide) (by decide) (by decide) d19_4 rfl ?_
  intro T119 v119 L119 X119 q119
  obtain ⟨rfl, rfl, e119⟩ := q119
  have N119 := Fr.app N117 (Fr.nil _)
  refine Go.icmpNo (pc' := 10) C X119 d19_7 (tlt (x := (3 : Int32)) (y := (4 : Int32)) (by decide)).2.1 rfl ?_
  refine Go.aloadN (pc' := 11) C X119 d19_10 rfl rfl rfl ?_
  refine Go.iloadN (pc' := 12) C X119 d19_11 rfl rfl ?_
  refine Go.callV (y := (⟨"java/lang/String", "charAt", "(I)C"⟩ : MethodName)) (z := (⟨"java/lang/String", "charAt", "(I)C"⟩ : MethodName)) (a := s1) (pc' := 15) C X119 (tw hw 95 rfl) (tw hw 96 rfl) (notFace_at C.2.1 (tw hw 98 rfl)) (tw hw 98 rfl) (tw hw 97 rfl) E0 (by decide) (rm_chA l Z a0 hw s1 cP v k ([x0, x1, x2, x3]) ((3 : Int32)) 3 x3 fm ((4 : Int32)) h0 O0 E0 Fv Fc Bx SC SF hP (by decide) (by decide) rfl hx3.r (by decide) rfl hfm) (tw hw 99 rfl) (tw hw 7 rfl) e119 (argsL := [(.int (3 : Int32))]) (rest := []) (W := 0) rfl rfl pd_14 rfl (Nat.le_of_eq rfl) rfl (by decide) (by decide) (by decide) (by decide) d19_12 rfl ?_
  intro T121 v121 L121 X121 q121
  obtain ⟨rfl, rfl, e121⟩ := q121
  have N121 := Fr.app N119 (Fr.nil _)
  refine Go.bipush (z := (32 : Int32)) (pc' := 17) C X121 d19_15 rfl rfl ?_
  refine Go.icmpNo (pc' := 20) C X121 d19_17 (flt (x := x3) (y := (32 : Int32)) hx3.lt).1 rfl ?_
  refine Go.aloadN (pc' := 21) C X121 d19_20 rfl rfl rfl ?_
  refine Go.iloadN (pc' := 22) C X121 d19_21 rfl rfl ?_
  refine Go.callV (y := (⟨"java/lang/String", "charAt", "(I)C"⟩ : MethodName)) (z := (⟨"java/lang/String", "charAt", "(I)C"⟩ : MethodName)) (a := s1) (pc' := 25) C X121 (tw hw 95 rfl) (tw hw 96 rfl) (notFace_at C.2.1 (tw hw 98 rfl)) (tw hw 98 rfl) (tw hw 97 rfl) E0 (by decide) (rm_chA l Z a0 hw s1 cP v k ([x0, x1, x2, x3]) ((3 : Int32)) 3 x3 fm ((4 : Int32)) h0 O0 E0 Fv Fc Bx SC SF hP (by decide) (by decide) rfl hx3.r (by decide) rfl hfm) (tw hw 99 rfl) (tw hw 7 rfl) e121 (argsL := [(.int (3 : Int32))]) (rest := []) (W := 0) rfl rfl pd_14 rfl (Nat.le_of_eq rfl) rfl (by decide) (by decide) (by decide) (by decide) d19_22 rfl ?_
  intro T123 v123 L123 X123 q123
  obtain ⟨rfl, rfl, e123⟩ := q123
  have N123 := Fr.app N121 (Fr.nil _)
  refine Go.bipush (z := (127 : Int32)) (pc' := 27) C X123 d19_25 rfl rfl ?_
  refine Go.icmpYes (pc' := 32) C X123 d19_27 (feq (x := x3) (y := (127 : Int32)) hx3.ne).2 (by decide) (by decide) ?_
  refine Go.iinc (Ls' := #[.val (.ref s1), .val (.int ((3 : Int32) + (1 : Int32)))]) (z := (1 : Int32)) (pc' := 35) C X123 d19_32 rfl rfl rfl rfl ?_
  rw [show ((3 : Int32) + (1 : Int32)) = (4 : Int32) from by decide]
  refine Go.goto (pc' := 2) C X123 d19_35 (by decide) (by decide) ?_
  refine Go.iloadN (pc' := 3) C X123 d19_2 rfl rfl ?_
  refine Go.aloadN (pc' := 4) C X123 d19_3 rfl rfl rfl ?_
  refine Go.callV (y := (⟨"java/lang/String", "length", "()I"⟩ : MethodName)) (z := (⟨"java/lang/String", "length", "()I"⟩ : MethodName)) (a := s1) (pc' := 7) C X123 (tw hw 94 rfl) (tw hw 82 rfl) (notFace_at C.2.1 (tw hw 84 rfl)) (tw hw 84 rfl) (tw hw 83 rfl) E0 (by decide) (rm_len l Z a0 hw s1 v k ([x0, x1, x2, x3]) cP ((4 : Int32)) h0 O0 E0 Fv Fc Bx SC hP rfl) (tw hw 85 rfl) (tw hw 7 rfl) e123 (argsL := []) (rest := [(.int (4 : Int32))]) (W := 1) rfl rfl pd_13 rfl (Nat.le_of_eq rfl) rfl (by decide) (by decide) (by decide) (by decide) d19_4 rfl ?_
  intro T125 v125 L125 X125 q125
  obtain ⟨rfl, rfl, e125⟩ := q125
  have N125 := Fr.app N123 (Fr.nil _)
  refine Go.icmpYes (pc' := 38) C X125 d19_7 (flt (x := (4 : Int32)) (y := (4 : Int32)) (by decide)).2.1 (by decide) (by decide) ?_
  refine Go.iconst (z := (0 : Int32)) (pc' := 39) C X125 d19_38 rfl rfl ?_
  exact Go.retN C X125 rfl d19_39 (by simp) (by rw [e125]; exact ⟨rfl, (by simp), rfl⟩) (by decide) (by decide)
def Q_nm4 (Z : State) (kk : Addr) (s1 : Addr) (v : Addr) (k : ClassId) (cP : Int32) (fm : Value) (x0 : Int32) (x1 : Int32) (x2 : Int32) (x3 : Int32) (ci : Addr) (ta : Addr) (tk : ClassId) (ts : List Value) (h0 : Heap) (rv : Option Value) (h : Heap) (L : List Loc) : Prop := rv = some (.ref s1) ∧ L = [] ∧ h = h0
set_option maxRecDepth 65536 in
set_option maxHeartbeats 40000000 in
theorem rm_nm4 (l : Launch) (Z : State) (a0 : Array Value) (hw : ∀ d ∈ tables_1, d.before a0 Z = true) (kk : Addr) (s1 : Addr) (v : Addr) (k : ClassId) (cP : Int32) (fm : Value) (x0 : Int32) (x1 : Int32) (x2 : Int32) (x3 : Int32) (ci : Addr) (ta : Addr) (tk : ClassId) (ts : List Value) (h0 : Heap) (O0 : Ext Z.heap h0) (E0 : Exa Z h0 s1 "java/lang/String") (Fv : Fld Z h0 s1 "java/lang/String" "value" "[B" (.ref v)) (Fc : Fld Z h0 s1 "java/lang/String" "coder" "B" (.int (0 : Int32))) (Bx : AL Z h0 v k .byte (by8 [x0, x1, x2, x3])) (SC : Sta Z Z.heap "java/lang/String" "COMPACT_STRINGS" "Z" (.int cP)) (SF : Sta Z Z.heap "jdk/internal/util/Preconditions" "SIOOBE_FORMATTER" "Ljava/util/function/BiFunction;" fm) (SI : Sta Z Z.heap "java/lang/CharacterDataLatin1" "instance" "Ljava/lang/CharacterDataLatin1;" (.ref ci)) (Ec : Exa Z Z.heap ci "java/lang/CharacterDataLatin1") (SA : Sta Z Z.heap "java/lang/CharacterDataLatin1" "A" "[I" (.ref ta)) (AA : AL Z Z.heap ta tk .int ts) (hx0 : Pr x0) (hx1 : Pr x1) (hx2 : Pr x2) (hx3 : Pr x3) (hns : ¬ (x0 = (32 : Int32) ∧ x1 = (32 : Int32) ∧ x2 = (32 : Int32) ∧ x3 = (32 : Int32))) (ht : ∀ i : Nat, 33 ≤ i → i < 256 → ∃ u : Int32, ts[i]? = some (.int u) ∧ ¬ (u &&& (28672 : Int32)) = (16384 : Int32)) (hP : ¬ cP = (0 : Int32)) (hfm : fm.category = 1) :
    Met1 l Z (⟨"com/example/tranche/tranche/Notation", "name", "(Ljava/lang/String;Ljava/lang/String;)Ljava/lang/String;"⟩ : MethodName) prog_14_method_2_code 2 (some (.object "java/lang/String")) ({ frames := 5, cells := 0, slots := 0, locals := 68 } : Room) #[(.ref kk), (.ref s1)] h0 (Q_nm4 Z kk s1 v k cP fm x0 x1 x2 x3 ci ta tk ts h0) := by
  refine Met1.of_body (Ls := #[.val (.ref kk), .val (.ref s1)]) pf_9 (fun m => by first | (simp [entryFrame, mkF, argsToLocals, Value.category]; done) | rfl) ?_
  intro p e s m below meth c T0 C X0 e0
  have N0 : Fr Z.heap.size [] := Fr.nil _
  refine Go.aloadN (pc' := 1) C X0 d9_0 rfl rfl rfl ?_
  refine Go.ifnullNo (pc' := 4) C X0 d9_1 rfl ?_
  refine Go.aloadN (pc' := 5) C X0 d9_4 rfl rfl rfl ?_
  refine Go.callV (y := (⟨"java/lang/String", "isBlank", "()Z"⟩ : MethodName)) (z := (⟨"java/lang/String", "isBlank", "()Z"⟩ : MethodName)) (a := s1) (pc' := 8) C X0 (tw hw 46 rfl) (tw hw 47 rfl) (notFace_at C.2.1 (tw hw 49 rfl)) (tw hw 49 rfl) (tw hw 48 rfl) E0 (by decide) (rm_bl4 l Z a0 hw s1 v k cP x0 x1 x2 x3 ci ta tk ts h0 O0 E0 Fv Fc Bx SC SI Ec SA AA hx0 hx1 hx2 hx3 hns ht hP) (tw hw 50 rfl) (tw hw 7 rfl) e0 (argsL := []) (rest := []) (W := 0) rfl rfl pd_7 rfl (Nat.le_of_eq rfl) rfl (by decide) (by decide) (by decide) (by decide) d9_5 rfl ?_
  intro T101 v101 L101 X101 q101
  obtain ⟨rfl, rfl, e101⟩ := q101
  have N101 := Fr.app N0 (Fr.nil _)
  refine Go.ifYes (pc' := 25) C X101 d9_8 ((if0 _ _).trans (teq (x := (0 : Int32)) (y := (0 : Int32)) (by decide)).1) (by decide) (by decide) ?_
  refine Go.aloadN (pc' := 26) C X101 d9_25 rfl rfl rfl ?_
  refine Go.callS (y := (⟨"com/example/tranche/tranche/Notation", "holdsControl", "(Ljava/lang/String;)Z"⟩ : MethodName)) (pc' := 29) C X101 (tw hw 91 rfl) (tw hw 92 rfl) (by decide) (rm_hc4 l Z a0 hw s1 v k cP fm x0 x1 x2 x3 h0 O0 E0 Fv Fc Bx SC SF hx0 hx1 hx2 hx3 hP hfm) (tw hw 93 rfl) (tw hw 44 rfl) e101 (argsL := [(.ref s1)]) (rest := []) (W := 0) rfl rfl pd_15 rfl (Nat.le_of_eq rfl) rfl (by decide) (by decide) (by decide) (by decide) d9_26 rfl ?_
  intro T103 v103 L103 X103 q103
  obtain ⟨rfl, rfl, e103⟩ := q103
  have N103 := Fr.app N101 (Fr.nil _)
  refine Go.ifYes (pc' := 46) C X103 d9_29 ((if0 _ _).trans (teq (x := (0 : Int32)) (y := (0 : Int32)) (by decide)).1) (by decide) (by decide) ?_
  refine Go.aloadN (pc' := 47) C X103 d9_46 rfl rfl rfl ?_
  exact Go.retA C X103 rfl d9_47 rfl rfl rfl (by rw [e103]; exact ⟨rfl, (by simp), rfl⟩) (by decide) (by decide)
theorem pd_16 : parseMethodDescriptor "(ICCCC)Ljava/lang/String;" = some ⟨[.int, .char, .char, .char, .char], some (.object "java/lang/String")⟩ := by decide +kernel
theorem pd_17 : parseMethodDescriptor "(Ljava/lang/String;Ljava/lang/String;)Ljava/lang/String;" = some ⟨[(.object "java/lang/String"), (.object "java/lang/String")], some (.object "java/lang/String")⟩ := by decide +kernel
theorem pd_18 : parseMethodDescriptor "(C)Z" = some ⟨[.char], some .boolean⟩ := by decide +kernel
theorem pf_0 : plainFor x = true := plainFor_of_name (by first | (simp [plainName, overriddenIn, x]; done) | decide +kernel)
def Q_law (Z : State) (p1 : Int32) (p2 : Int32) (p3 : Int32) (p4 : Int32) (p5 : Int32) (cP : Int32) (fm : Value) (ci : Addr) (ta : Addr) (tk : ClassId) (ts : List Value) (h0 : Heap) (rv : Option Value) (h : Heap) (L : List Loc) : Prop := rv = some (.int (1 : Int32)) ∧ Fr Z.heap.size L ∧ Keep h0 h []
set_option maxRecDepth 65536 in
set_option maxHeartbeats 40000000 in
theorem rm_law (l : Launch) (Z : State) (a0 : Array Value) (hw : ∀ d ∈ tables_1, d.before a0 Z = true) (p1 : Int32) (p2 : Int32) (p3 : Int32) (p4 : Int32) (p5 : Int32) (cP : Int32) (fm : Value) (ci : Addr) (ta : Addr) (tk : ClassId) (ts : List Value) (h0 : Heap) (O0 : Ext Z.heap h0) (SC : Sta Z Z.heap "java/lang/String" "COMPACT_STRINGS" "Z" (.int cP)) (SF : Sta Z Z.heap "jdk/internal/util/Preconditions" "SIOOBE_FORMATTER" "Ljava/util/function/BiFunction;" fm) (SI : Sta Z Z.heap "java/lang/CharacterDataLatin1" "instance" "Ljava/lang/CharacterDataLatin1;" (.ref ci)) (Ec : Exa Z Z.heap ci "java/lang/CharacterDataLatin1") (SA : Sta Z Z.heap "java/lang/CharacterDataLatin1" "A" "[I" (.ref ta)) (AA : AL Z Z.heap ta tk .int ts) (hP : ¬ cP = (0 : Int32)) (ht : ∀ i : Nat, 33 ≤ i → i < 256 → ∃ u : Int32, ts[i]? = some (.int u) ∧ ¬ (u &&& (28672 : Int32)) = (16384 : Int32)) (hfm : fm.category = 1) :
    Met1H consts_1 [] l Z x code maxLocals ret room_1 #[(.int p1), (.int p2), (.int p3), (.int p4), (.int p5)] h0 (Q_law Z p1 p2 p3 p4 p5 cP fm ci ta tk ts h0) := by
  refine Met1H.of_body (Ls := #[.val (.int p1), .val (.int p2), .val (.int p3), .val (.int p4), .val (.int p5), .unset, .unset, .unset, .unset, .unset, .unset, .unset, .unset, .unset]) pf_0 (fun m => by first | (simp [entryFrame, mkF, argsToLocals, Value.category, maxLocals]; done) | rfl) ?_
  intro p e s m below meth c T0 C X0 e0 hH0 hsf0
  have Hr0 := CHr.refl hH0
  have N0 : Fr Z.heap.size [] := Fr.nil _
  have Si0 : Sin s s h0 := Sin.start s h0
  refine Go.iloadN (pc' := 1) C X0 at_0 rfl rfl ?_
  refine Go.ldcI (pc' := 3) C X0 at_1 (tw hw 0 rfl) rfl ?_
  refine Go.iand (pc' := 4) C X0 at_3 rfl ?_
  refine Go.iconst (z := (5 : Int32)) (pc' := 5) C X0 at_4 rfl rfl ?_
  refine Go.irem (pc' := 6) C X0 at_5 (by decide) rfl ?_
  rcases own_m5 p1 with hl | hl | hl | hl | hl
  · rw [hl]
    refine Go.istore (Ls' := #[.val (.int p1), .val (.int p2), .val (.int p3), .val (.int p4), .val (.int p5), .val (.int (0 : Int32)), .unset, .unset, .unset, .unset, .unset, .unset, .unset, .unset]) (pc' := 8) C X0 at_6 rfl rfl ?_
    refine Go.iloadN (pc' := 9) C X0 at_8 rfl rfl ?_
    refine Go.sipush (z := (255 : Int32)) (pc' := 12) C X0 at_9 rfl rfl ?_
    refine Go.iand (pc' := 13) C X0 at_12 rfl ?_
    refine Go.i2c (pc' := 14) C X0 at_13 rfl ?_
    rw [i2cr (r255 p2)]
    refine Go.istore (Ls' := #[.val (.int p1), .val (.int p2), .val (.int p3), .val (.int p4), .val (.int p5), .val (.int (0 : Int32)), .val (.int (p2 &&& (255 : Int32))), .unset, .unset, .unset, .unset, .unset, .unset, .unset]) (pc' := 16) C X0 at_14 rfl rfl ?_
    refine Go.iloadN (pc' := 17) C X0 at_16 rfl rfl ?_
    refine Go.sipush (z := (255 : Int32)) (pc' := 20) C X0 at_17 rfl rfl ?_
    refine Go.iand (pc' := 21) C X0 at_20 rfl ?_
    refine Go.i2c (pc' := 22) C X0 at_21 rfl ?_
    rw [i2cr (r255 p3)]
    refine Go.istore (Ls' := #[.val (.int p1), .val (.int p2), .val (.int p3), .val (.int p4), .val (.int p5), .val (.int (0 : Int32)), .val (.int (p2 &&& (255 : Int32))), .val (.int (p3 &&& (255 : Int32))), .unset, .unset, .unset, .unset, .unset, .unset]) (pc' := 24) C X0 at_22 rfl rfl ?_
    refine Go.iloadN (pc' := 25) C X0 at_24 rfl rfl ?_
    refine Go.sipush (z := (255 : Int32)) (pc' := 28) C X0 at_25 rfl rfl ?_
    refine Go.iand (pc' := 29) C X0 at_28 rfl ?_
    refine Go.i2c (pc' := 30) C X0 at_29 rfl ?_
    rw [i2cr (r255 p4)]
    refine Go.istore (Ls' := #[.val (.int p1), .val (.int p2), .val (.int p3), .val (.int p4), .val (.int p5), .val (.int (0 : Int32)), .val (.int (p2 &&& (255 : Int32))), .val (.int (p3 &&& (255 : Int32))), .val (.int (p4 &&& (255 : Int32))), .unset, .unset, .unset, .unset, .unset]) (pc' := 32) C X0 at_30 rfl rfl ?_
    refine Go.iload (pc' := 34) C X0 at_32 rfl rfl ?_
    refine Go.sipush (z := (255 : Int32)) (pc' := 37) C X0 at_34 rfl rfl ?_
    refine Go.iand (pc' := 38) C X0 at_37 rfl ?_
    refine Go.i2c (pc' := 39) C X0 at_38 rfl ?_
    rw [i2cr (r255 p5)]
    refine Go.istore (Ls' := #[.val (.int p1), .val (.int p2), .val (.int p3), .val (.int p4), .val (.int p5), .val (.int (0 : Int32)), .val (.int (p2 &&& (255 : Int32))), .val (.int (p3 &&& (255 : Int32))), .val (.int (p4 &&& (255 : Int32))), .val (.int (p5 &&& (255 : Int32))), .unset, .unset, .unset, .unset]) (pc' := 41) C X0 at_39 rfl rfl ?_
    refine Go.iload (pc' := 43) C X0 at_41 rfl rfl ?_
    refine Go.iload (pc' := 45) C X0 at_43 rfl rfl ?_
    refine Go.iload (pc' := 47) C X0 at_45 rfl rfl ?_
    refine Go.iload (pc' := 49) C X0 at_47 rfl rfl ?_
    refine Go.iload (pc' := 51) C X0 at_49 rfl rfl ?_
    refine Go.callSH (y := (⟨"com/example/tranche/tranche/NotationNamePinLaw", "text", "(ICCCC)Ljava/lang/String;"⟩ : MethodName)) (pc' := 54) C X0 Si0 (EWc hw) Hr0.1 (tw hw 1 rfl) (tw hw 2 rfl) (by decide) all0 (rm_tx0 l Z a0 hw ((p2 &&& (255 : Int32))) ((p3 &&& (255 : Int32))) ((p4 &&& (255 : Int32))) ((p5 &&& (255 : Int32))) h0 O0 ) (tw hw 4 rfl) (tw hw 3 rfl) e0 (argsL := [(.int (0 : Int32)), (.int (p2 &&& (255 : Int32))), (.int (p3 &&& (255 : Int32))), (.int (p4 &&& (255 : Int32))), (.int (p5 &&& (255 : Int32)))]) (rest := []) (W := 0) rfl rfl pd_16 rfl (Nat.le_of_eq rfl) rfl (by decide) (by decide) (by decide) (by decide) at_51 rfl ?_
    intro T101 v101 L101 sC101 C101 X101 Si101 hR101 q101
    obtain ⟨r_101, rfl, N101q, K101, B101_0, P101_0⟩ := q101
    have N101 := Fr.app N0 N101q
    have Hr102 := CHr.trans Hr0 hR101
    have n_r_101 : Z.heap.size ≤ r_101 := Nat.le_trans O0.1 B101_0
    have z_r_101 : h0.size ≤ r_101 := Nat.le_trans (Nat.le_refl _) B101_0
    refine Go.astore (Ls' := #[.val (.int p1), .val (.int p2), .val (.int p3), .val (.int p4), .val (.int p5), .val (.int (0 : Int32)), .val (.int (p2 &&& (255 : Int32))), .val (.int (p3 &&& (255 : Int32))), .val (.int (p4 &&& (255 : Int32))), .val (.int (p5 &&& (255 : Int32))), .val (.ref r_101), .unset, .unset, .unset]) (pc' := 56) C101 X101 at_54 rfl rfl rfl ?_
    refine Go.iload (pc' := 58) C101 X101 at_56 rfl rfl ?_
    refine Go.ifYes (pc' := 69) C101 X101 at_58 ((if0 _ _).trans (flt (x := (0 : Int32)) (y := (0 : Int32)) (by decide)).2.2.2) (by decide) (by decide) ?_
    refine Go.iload (pc' := 71) C101 X101 at_69 rfl rfl ?_
    refine Go.iconst (z := (1 : Int32)) (pc' := 72) C101 X101 at_71 rfl rfl ?_
    refine Go.icmpYes (pc' := 83) C101 X101 at_72 (flt (x := (1 : Int32)) (y := (0 : Int32)) (by decide)).2.2.2 (by decide) (by decide) ?_
    refine Go.iload (pc' := 85) C101 X101 at_83 rfl rfl ?_
    refine Go.iconst (z := (2 : Int32)) (pc' := 86) C101 X101 at_85 rfl rfl ?_
    refine Go.icmpYes (pc' := 97) C101 X101 at_86 (flt (x := (2 : Int32)) (y := (0 : Int32)) (by decide)).2.2.2 (by decide) (by decide) ?_
    refine Go.iload (pc' := 99) C101 X101 at_97 rfl rfl ?_
    refine Go.iconst (z := (3 : Int32)) (pc' := 100) C101 X101 at_99 rfl rfl ?_
    refine Go.icmpYes (pc' := 115) C101 X101 at_100 (flt (x := (3 : Int32)) (y := (0 : Int32)) (by decide)).2.2.2 (by decide) (by decide) ?_
    refine Go.iconst (z := (0 : Int32)) (pc' := 116) C101 X101 at_115 rfl rfl ?_
    refine Go.istore (Ls' := #[.val (.int p1), .val (.int p2), .val (.int p3), .val (.int p4), .val (.int p5), .val (.int (0 : Int32)), .val (.int (p2 &&& (255 : Int32))), .val (.int (p3 &&& (255 : Int32))), .val (.int (p4 &&& (255 : Int32))), .val (.int (p5 &&& (255 : Int32))), .val (.ref r_101), .val (.int (0 : Int32)), .unset, .unset]) (pc' := 118) C101 X101 at_116 rfl rfl ?_
    refine Go.iload (pc' := 120) C101 X101 at_118 rfl rfl ?_
    refine Go.iconst (z := (1 : Int32)) (pc' := 121) C101 X101 at_120 rfl rfl ?_
    refine Go.icmpYes (pc' := 131) C101 X101 at_121 (tlt (x := (0 : Int32)) (y := (1 : Int32)) (by decide)).1 (by decide) (by decide) ?_
    refine Go.iload (pc' := 133) C101 X101 at_131 rfl rfl ?_
    refine Go.iconst (z := (2 : Int32)) (pc' := 134) C101 X101 at_133 rfl rfl ?_
    refine Go.icmpYes (pc' := 144) C101 X101 at_134 (tlt (x := (0 : Int32)) (y := (2 : Int32)) (by decide)).1 (by decide) (by decide) ?_
    refine Go.iload (pc' := 146) C101 X101 at_144 rfl rfl ?_
    refine Go.iconst (z := (3 : Int32)) (pc' := 147) C101 X101 at_146 rfl rfl ?_
    refine Go.icmpYes (pc' := 157) C101 X101 at_147 (tlt (x := (0 : Int32)) (y := (3 : Int32)) (by decide)).1 (by decide) (by decide) ?_
    refine Go.iload (pc' := 159) C101 X101 at_157 rfl rfl ?_
    refine Go.iconst (z := (4 : Int32)) (pc' := 160) C101 X101 at_159 rfl rfl ?_
    refine Go.icmpYes (pc' := 170) C101 X101 at_160 (tlt (x := (0 : Int32)) (y := (4 : Int32)) (by decide)).1 (by decide) (by decide) ?_
    refine Go.iconst (z := (1 : Int32)) (pc' := 171) C101 X101 at_170 rfl rfl ?_
    refine Go.goto (pc' := 175) C101 X101 at_171 (by decide) (by decide) ?_
    refine Go.istore (Ls' := #[.val (.int p1), .val (.int p2), .val (.int p3), .val (.int p4), .val (.int p5), .val (.int (0 : Int32)), .val (.int (p2 &&& (255 : Int32))), .val (.int (p3 &&& (255 : Int32))), .val (.int (p4 &&& (255 : Int32))), .val (.int (p5 &&& (255 : Int32))), .val (.ref r_101), .val (.int (0 : Int32)), .val (.int (1 : Int32)), .unset]) (pc' := 177) C101 X101 at_175 rfl rfl ?_
    refine Go.iload (pc' := 179) C101 X101 at_177 rfl rfl ?_
    refine Go.ifYes (pc' := 192) C101 X101 at_179 ((if0 _ _).trans (teq (x := (0 : Int32)) (y := (0 : Int32)) (by decide)).1) (by decide) (by decide) ?_
    refine Go.iconst (z := (1 : Int32)) (pc' := 193) C101 X101 at_192 rfl rfl ?_
    have K112 : Keep h0 T101.heap [] := ((Keep.refl h0 []).trans K101 all0)
    exact Go.retNH C101 X101 Si101 (EWc hw) Hr102 rfl at_193 (by simp) ⟨rfl, N101, K112⟩ (by decide) (by decide)
  · rw [hl]
    refine Go.istore (Ls' := #[.val (.int p1), .val (.int p2), .val (.int p3), .val (.int p4), .val (.int p5), .val (.int (1 : Int32)), .unset, .unset, .unset, .unset, .unset, .unset, .unset, .unset]) (pc' := 8) C X0 at_6 rfl rfl ?_
    refine Go.iloadN (pc' := 9) C X0 at_8 rfl rfl ?_
    refine Go.sipush (z := (255 : Int32)) (pc' := 12) C X0 at_9 rfl rfl ?_
    refine Go.iand (pc' := 13) C X0 at_12 rfl ?_
    refine Go.i2c (pc' := 14) C X0 at_13 rfl ?_
    rw [i2cr (r255 p2)]
    refine Go.istore (Ls' := #[.val (.int p1), .val (.int p2), .val (.int p3), .val (.int p4), .val (.int p5), .val (.int (1 : Int32)), .val (.int (p2 &&& (255 : Int32))), .unset, .unset, .unset, .unset, .unset, .unset, .unset]) (pc' := 16) C X0 at_14 rfl rfl ?_
    refine Go.iloadN (pc' := 17) C X0 at_16 rfl rfl ?_
    refine Go.sipush (z := (255 : Int32)) (pc' := 20) C X0 at_17 rfl rfl ?_
    refine Go.iand (pc' := 21) C X0 at_20 rfl ?_
    refine Go.i2c (pc' := 22) C X0 at_21 rfl ?_
    rw [i2cr (r255 p3)]
    refine Go.istore (Ls' := #[.val (.int p1), .val (.int p2), .val (.int p3), .val (.int p4), .val (.int p5), .val (.int (1 : Int32)), .val (.int (p2 &&& (255 : Int32))), .val (.int (p3 &&& (255 : Int32))), .unset, .unset, .unset, .unset, .unset, .unset]) (pc' := 24) C X0 at_22 rfl rfl ?_
    refine Go.iloadN (pc' := 25) C X0 at_24 rfl rfl ?_
    refine Go.sipush (z := (255 : Int32)) (pc' := 28) C X0 at_25 rfl rfl ?_
    refine Go.iand (pc' := 29) C X0 at_28 rfl ?_
    refine Go.i2c (pc' := 30) C X0 at_29 rfl ?_
    rw [i2cr (r255 p4)]
    refine Go.istore (Ls' := #[.val (.int p1), .val (.int p2), .val (.int p3), .val (.int p4), .val (.int p5), .val (.int (1 : Int32)), .val (.int (p2 &&& (255 : Int32))), .val (.int (p3 &&& (255 : Int32))), .val (.int (p4 &&& (255 : Int32))), .unset, .unset, .unset, .unset, .unset]) (pc' := 32) C X0 at_30 rfl rfl ?_
    refine Go.iload (pc' := 34) C X0 at_32 rfl rfl ?_
    refine Go.sipush (z := (255 : Int32)) (pc' := 37) C X0 at_34 rfl rfl ?_
    refine Go.iand (pc' := 38) C X0 at_37 rfl ?_
    refine Go.i2c (pc' := 39) C X0 at_38 rfl ?_
    rw [i2cr (r255 p5)]
    refine Go.istore (Ls' := #[.val (.int p1), .val (.int p2), .val (.int p3), .val (.int p4), .val (.int p5), .val (.int (1 : Int32)), .val (.int (p2 &&& (255 : Int32))), .val (.int (p3 &&& (255 : Int32))), .val (.int (p4 &&& (255 : Int32))), .val (.int (p5 &&& (255 : Int32))), .unset, .unset, .unset, .unset]) (pc' := 41) C X0 at_39 rfl rfl ?_
    refine Go.iload (pc' := 43) C X0 at_41 rfl rfl ?_
    refine Go.iload (pc' := 45) C X0 at_43 rfl rfl ?_
    refine Go.iload (pc' := 47) C X0 at_45 rfl rfl ?_
    refine Go.iload (pc' := 49) C X0 at_47 rfl rfl ?_
    refine Go.iload (pc' := 51) C X0 at_49 rfl rfl ?_
    refine Go.callS (y := (⟨"com/example/tranche/tranche/NotationNamePinLaw", "text", "(ICCCC)Ljava/lang/String;"⟩ : MethodName)) (pc' := 54) C X0 (tw hw 1 rfl) (tw hw 2 rfl) (by decide) (rm_tx1 l Z a0 hw ((p2 &&& (255 : Int32))) ((p3 &&& (255 : Int32))) ((p4 &&& (255 : Int32))) ((p5 &&& (255 : Int32))) cP h0 O0 SC hP (r255 p2) (r255 p3) (r255 p4) (r255 p5)) (tw hw 4 rfl) (tw hw 3 rfl) e0 (argsL := [(.int (1 : Int32)), (.int (p2 &&& (255 : Int32))), (.int (p3 &&& (255 : Int32))), (.int (p4 &&& (255 : Int32))), (.int (p5 &&& (255 : Int32)))]) (rest := []) (W := 0) rfl rfl pd_16 rfl (Nat.le_of_eq rfl) rfl (by decide) (by decide) (by decide) (by decide) at_51 rfl ?_
    intro T113 v113 L113 X113 q113
    obtain ⟨r_113, v_113, kv_113, rfl, N113q, K113, B113_0, B113_1, P113_0, P113_1, P113_2, P113_3⟩ := q113
    have N113 := Fr.app N0 N113q
    have Hr114 := CHr.trans Hr0 (CHr.keep K113 all0 Hr0.1)
    have n_r_113 : Z.heap.size ≤ r_113 := Nat.le_trans O0.1 B113_0
    have z_r_113 : h0.size ≤ r_113 := Nat.le_trans (Nat.le_refl _) B113_0
    have s_r_113 : Safe Z consts_1 s.vm T113.heap r_113 := Safe.keep K113 all0 Hr0.1 (Safe.new B113_0)
    have n_v_113 : Z.heap.size ≤ v_113 := Nat.le_trans O0.1 B113_1
    have z_v_113 : h0.size ≤ v_113 := Nat.le_trans (Nat.le_refl _) B113_1
    have s_v_113 : Safe Z consts_1 s.vm T113.heap v_113 := Safe.keep K113 all0 Hr0.1 (Safe.new B113_1)
    refine Go.astore (Ls' := #[.val (.int p1), .val (.int p2), .val (.int p3), .val (.int p4), .val (.int p5), .val (.int (1 : Int32)), .val (.int (p2 &&& (255 : Int32))), .val (.int (p3 &&& (255 : Int32))), .val (.int (p4 &&& (255 : Int32))), .val (.int (p5 &&& (255 : Int32))), .val (.ref r_113), .unset, .unset, .unset]) (pc' := 56) C X113 at_54 rfl rfl rfl ?_
    have K177 : ∀ (T115 : State) (L115 : List Loc), Stand p l e room_1 s m #[(.int p1), (.int p2), (.int p3), (.int p4), (.int p5)] below meth c T115 L115 3 9 → T115.heap = T113.heap → Fr Z.heap.size L115 → ∀ (cf : Int32) (sf : Int32), (cf = (0 : Int32) → Pr (p2 &&& (255 : Int32))) → (sf = (0 : Int32) → ¬ ((p2 &&& (255 : Int32)) = (32 : Int32))) → Go p e below (FnH Z consts_1 s h0 room_1.cells room_1.slots (Q_law Z p1 p2 p3 p4 p5 cP fm ci ta tk ts h0)) T115 (mkF m 177 #[.val (.int p1), .val (.int p2), .val (.int p3), .val (.int p4), .val (.int p5), .val (.int (1 : Int32)), .val (.int (p2 &&& (255 : Int32))), .val (.int (p3 &&& (255 : Int32))), .val (.int (p4 &&& (255 : Int32))), .val (.int (p5 &&& (255 : Int32))), .val (.ref r_113), .val (.int cf), .val (.int sf), .unset] []) := by
      intro T115 L115 X115 e115 N115 cf sf hq0 hsq
      refine Go.iload (pc' := 179) C X115 at_177 rfl rfl ?_
      refine Go.ifNo (pc' := 182) C X115 at_179 ((if0 _ _).trans (feq (x := (1 : Int32)) (y := (0 : Int32)) (by decide)).1) rfl ?_
      refine Go.iload (pc' := 184) C X115 at_182 rfl rfl ?_
      by_cases hc184_117 : cf = (0 : Int32)
      · refine Go.ifNo (pc' := 187) C X115 at_184 ((if0 _ _).trans (teq (x := cf) (y := (0 : Int32)) hc184_117).2) rfl ?_
        refine Go.iload (pc' := 189) C X115 at_187 rfl rfl ?_
        by_cases hc189_118 : sf = (0 : Int32)
        · refine Go.ifYes (pc' := 194) C X115 at_189 ((if0 _ _).trans (teq (x := sf) (y := (0 : Int32)) hc189_118).1) (by decide) (by decide) ?_
          have O120 : Ext Z.heap T113.heap := (Ext.keep O0 K113 all0)
          have Si121 : Sin s s T113.heap := Sin.mono Si0 (Nat.le_trans (Nat.le_refl _) K113.1)
          refine Go.ldcH (pc' := 196) (n := 12) (vs := [(.int (107 : Int32)), (.int (101 : Int32)), (.int (121 : Int32))]) (z := (3 : Int32)) C X115 Si121 (EWc hw) Hr114.1 (tw hw 41 rfl) (wS hw) e115 (by decide) (by decide) (by decide) (by decide) (by decide) (by decide) (by decide) (by decide) at_194 rfl ?_
          intro T119 h119 b119 sC119 v119 k119 C119 X119 e119 Si119 E119 hR119 A119 F119c F119v B119 hne119
          have Hr122 := CHr.trans Hr114 hR119
          have sa123 : Safe Z consts_1 sC119.vm h119 r_113 := (CHr.safe hR119 (Nat.lt_of_lt_of_le P113_0.lt (Nat.le_refl _)) s_r_113)
          have hx119_r_113 := hne119 r_113 sa123
          have sa124 : Safe Z consts_1 sC119.vm h119 v_113 := (CHr.safe hR119 (Nat.lt_of_lt_of_le P113_3.lt (Nat.le_refl _)) s_v_113)
          have hx119_v_113 := hne119 v_113 sa124
          refine Go.aload (pc' := 198) C119 X119 at_196 rfl rfl rfl ?_
          have c126 : Exa Z h119 r_113 "java/lang/String" := (Exa.ext E119 P113_0)
          have c127 : Fld Z h119 r_113 "java/lang/String" "value" "[B" (.ref v_113) := (Fld.ext E119 P113_1)
          have c128 : Fld Z h119 r_113 "java/lang/String" "coder" "B" (.int (0 : Int32)) := (Fld.ext E119 P113_2)
          have c129 : AL Z h119 v_113 kv_113 .byte (by8 [(p2 &&& (255 : Int32))]) := (AL.ext E119 P113_3)
          have O130 : Ext Z.heap h119 := (Ext.trans O120 E119)
          refine Go.callS (y := (⟨"com/example/tranche/tranche/Notation", "name", "(Ljava/lang/String;Ljava/lang/String;)Ljava/lang/String;"⟩ : MethodName)) (pc' := 201) C119 X119 (tw hw 42 rfl) (tw hw 43 rfl) (by decide) (rm_nm1 l Z a0 hw b119 r_113 v_113 kv_113 cP fm ((p2 &&& (255 : Int32))) ci ta tk ts h119 O130 c126 c127 c128 c129 SC SF SI Ec SA AA (hq0 hc184_117) (hsq hc189_118) ht hP hfm) (tw hw 45 rfl) (tw hw 44 rfl) e119 (argsL := [(.ref b119), (.ref r_113)]) (rest := []) (W := 0) rfl rfl pd_17 rfl (Nat.le_of_eq rfl) rfl (by decide) (by decide) (by decide) (by decide) at_198 rfl ?_
          intro T125 v125 L125 X125 q125
          obtain ⟨rfl, rfl, e125⟩ := q125
          have N125 := Fr.app N115 (Fr.nil _)
          refine Go.astore (Ls' := #[.val (.int p1), .val (.int p2), .val (.int p3), .val (.int p4), .val (.int p5), .val (.int (1 : Int32)), .val (.int (p2 &&& (255 : Int32))), .val (.int (p3 &&& (255 : Int32))), .val (.int (p4 &&& (255 : Int32))), .val (.int (p5 &&& (255 : Int32))), .val (.ref r_113), .val (.int cf), .val (.int sf), .val (.ref r_113)]) (pc' := 203) C119 X125 at_201 rfl rfl rfl ?_
          refine Go.aload (pc' := 205) C119 X125 at_203 rfl rfl rfl ?_
          refine Go.aload (pc' := 207) C119 X125 at_205 rfl rfl rfl ?_
          refine Go.acmpNo (pc' := 210) C119 X125 at_207 rfl rfl (XT.aa_ne_f rfl) rfl ?_
          refine Go.iconst (z := (1 : Int32)) (pc' := 211) C119 X125 at_210 rfl rfl ?_
          refine Go.goto (pc' := 215) C119 X125 at_211 (by decide) (by decide) ?_
          have K131 : Keep h0 h119 [] := (((Keep.refl h0 []).trans K113 all0).ext E119)
          exact Go.retNH C119 X125 (by rw [e125]; exact Si119) (EWc hw) (by rw [e125]; exact Hr122) rfl at_215 (by simp) (by rw [e125]; exact ⟨rfl, N125, K131⟩) (by decide) (by decide)
        · refine Go.ifNo (pc' := 192) C X115 at_189 ((if0 _ _).trans (feq (x := sf) (y := (0 : Int32)) hc189_118).1) rfl ?_
          refine Go.iconst (z := (1 : Int32)) (pc' := 193) C X115 at_192 rfl rfl ?_
          have K132 : Keep h0 T113.heap [] := ((Keep.refl h0 []).trans K113 all0)
          have Si133 : Sin s s T113.heap := Sin.mono Si0 (Nat.le_trans (Nat.le_refl _) K113.1)
          exact Go.retNH C X115 (by rw [e115]; exact Si133) (EWc hw) (by rw [e115]; exact Hr114) rfl at_193 (by simp) (by rw [e115]; exact ⟨rfl, N115, K132⟩) (by decide) (by decide)
      · refine Go.ifYes (pc' := 192) C X115 at_184 ((if0 _ _).trans (feq (x := cf) (y := (0 : Int32)) hc184_117).2) (by decide) (by decide) ?_
        refine Go.iconst (z := (1 : Int32)) (pc' := 193) C X115 at_192 rfl rfl ?_
        have K134 : Keep h0 T113.heap [] := ((Keep.refl h0 []).trans K113 all0)
        have Si135 : Sin s s T113.heap := Sin.mono Si0 (Nat.le_trans (Nat.le_refl _) K113.1)
        exact Go.retNH C X115 (by rw [e115]; exact Si135) (EWc hw) (by rw [e115]; exact Hr114) rfl at_193 (by simp) (by rw [e115]; exact ⟨rfl, N115, K134⟩) (by decide) (by decide)
    have K118 : ∀ (T136 : State) (L136 : List Loc), Stand p l e room_1 s m #[(.int p1), (.int p2), (.int p3), (.int p4), (.int p5)] below meth c T136 L136 3 9 → T136.heap = T113.heap → Fr Z.heap.size L136 → ∀ (cf : Int32), (cf = (0 : Int32) → Pr (p2 &&& (255 : Int32))) → Go p e below (FnH Z consts_1 s h0 room_1.cells room_1.slots (Q_law Z p1 p2 p3 p4 p5 cP fm ci ta tk ts h0)) T136 (mkF m 118 #[.val (.int p1), .val (.int p2), .val (.int p3), .val (.int p4), .val (.int p5), .val (.int (1 : Int32)), .val (.int (p2 &&& (255 : Int32))), .val (.int (p3 &&& (255 : Int32))), .val (.int (p4 &&& (255 : Int32))), .val (.int (p5 &&& (255 : Int32))), .val (.ref r_113), .val (.int cf), .unset, .unset] []) := by
      intro T136 L136 X136 e136 N136 cf hq0
      refine Go.iload (pc' := 120) C X136 at_118 rfl rfl ?_
      refine Go.iconst (z := (1 : Int32)) (pc' := 121) C X136 at_120 rfl rfl ?_
      refine Go.icmpNo (pc' := 124) C X136 at_121 (flt (x := (1 : Int32)) (y := (1 : Int32)) (by decide)).1 rfl ?_
      refine Go.iload (pc' := 126) C X136 at_124 rfl rfl ?_
      refine Go.bipush (z := (32 : Int32)) (pc' := 128) C X136 at_126 rfl rfl ?_
      by_cases hc128_138 : (p2 &&& (255 : Int32)) = (32 : Int32)
      · refine Go.icmpNo (pc' := 131) C X136 at_128 (teq (x := (p2 &&& (255 : Int32))) (y := (32 : Int32)) hc128_138).2 rfl ?_
        refine Go.iload (pc' := 133) C X136 at_131 rfl rfl ?_
        refine Go.iconst (z := (2 : Int32)) (pc' := 134) C X136 at_133 rfl rfl ?_
        refine Go.icmpYes (pc' := 144) C X136 at_134 (tlt (x := (1 : Int32)) (y := (2 : Int32)) (by decide)).1 (by decide) (by decide) ?_
        refine Go.iload (pc' := 146) C X136 at_144 rfl rfl ?_
        refine Go.iconst (z := (3 : Int32)) (pc' := 147) C X136 at_146 rfl rfl ?_
        refine Go.icmpYes (pc' := 157) C X136 at_147 (tlt (x := (1 : Int32)) (y := (3 : Int32)) (by decide)).1 (by decide) (by decide) ?_
        refine Go.iload (pc' := 159) C X136 at_157 rfl rfl ?_
        refine Go.iconst (z := (4 : Int32)) (pc' := 160) C X136 at_159 rfl rfl ?_
        refine Go.icmpYes (pc' := 170) C X136 at_160 (tlt (x := (1 : Int32)) (y := (4 : Int32)) (by decide)).1 (by decide) (by decide) ?_
        refine Go.iconst (z := (1 : Int32)) (pc' := 171) C X136 at_170 rfl rfl ?_
        refine Go.goto (pc' := 175) C X136 at_171 (by decide) (by decide) ?_
        refine Go.istore (Ls' := #[.val (.int p1), .val (.int p2), .val (.int p3), .val (.int p4), .val (.int p5), .val (.int (1 : Int32)), .val (.int (p2 &&& (255 : Int32))), .val (.int (p3 &&& (255 : Int32))), .val (.int (p4 &&& (255 : Int32))), .val (.int (p5 &&& (255 : Int32))), .val (.ref r_113), .val (.int cf), .val (.int (1 : Int32)), .unset]) (pc' := 177) C X136 at_175 rfl rfl ?_
        exact K177 _ _ X136 e136 N136 cf (1 : Int32) hq0 (fun q => absurd q (by decide))
      · refine Go.icmpYes (pc' := 174) C X136 at_128 (feq (x := (p2 &&& (255 : Int32))) (y := (32 : Int32)) hc128_138).2 (by decide) (by decide) ?_
        refine Go.iconst (z := (0 : Int32)) (pc' := 175) C X136 at_174 rfl rfl ?_
        refine Go.istore (Ls' := #[.val (.int p1), .val (.int p2), .val (.int p3), .val (.int p4), .val (.int p5), .val (.int (1 : Int32)), .val (.int (p2 &&& (255 : Int32))), .val (.int (p3 &&& (255 : Int32))), .val (.int (p4 &&& (255 : Int32))), .val (.int (p5 &&& (255 : Int32))), .val (.ref r_113), .val (.int cf), .val (.int (0 : Int32)), .unset]) (pc' := 177) C X136 at_175 rfl rfl ?_
        exact K177 _ _ X136 e136 N136 cf (0 : Int32) hq0 (fun _ q => hc128_138 q)
    refine Go.iload (pc' := 58) C X113 at_56 rfl rfl ?_
    refine Go.ifNo (pc' := 61) C X113 at_58 ((if0 _ _).trans (tlt (x := (0 : Int32)) (y := (1 : Int32)) (by decide)).2.2.2) rfl ?_
    refine Go.iload (pc' := 63) C X113 at_61 rfl rfl ?_
    have O144 : Ext Z.heap T113.heap := (Ext.keep O0 K113 all0)
    refine Go.callS (y := (⟨"com/example/tranche/tranche/NotationNamePinLaw", "isControl", "(C)Z"⟩ : MethodName)) (pc' := 66) C X113 (tw hw 38 rfl) (tw hw 39 rfl) (by decide) (rm_isc l Z a0 hw ((p2 &&& (255 : Int32))) T113.heap O144 (r255 p2)) (tw hw 40 rfl) (tw hw 3 rfl) rfl (argsL := [(.int (p2 &&& (255 : Int32)))]) (rest := []) (W := 0) rfl rfl pd_18 rfl (Nat.le_of_eq rfl) rfl (by decide) (by decide) (by decide) (by decide) at_63 rfl ?_
    intro T143 v143 L143 X143 q143
    obtain ⟨r_143, rfl, rfl, e143, p143_0⟩ := q143
    have N143 := Fr.app N113 (Fr.nil _)
    by_cases hc66_145 : r_143 = (0 : Int32)
    · refine Go.ifNo (pc' := 69) C X143 at_66 ((if0 _ _).trans (teq (x := r_143) (y := (0 : Int32)) hc66_145).2) rfl ?_
      refine Go.iload (pc' := 71) C X143 at_69 rfl rfl ?_
      refine Go.iconst (z := (1 : Int32)) (pc' := 72) C X143 at_71 rfl rfl ?_
      refine Go.icmpYes (pc' := 83) C X143 at_72 (flt (x := (1 : Int32)) (y := (1 : Int32)) (by decide)).2.2.2 (by decide) (by decide) ?_
      refine Go.iload (pc' := 85) C X143 at_83 rfl rfl ?_
      refine Go.iconst (z := (2 : Int32)) (pc' := 86) C X143 at_85 rfl rfl ?_
      refine Go.icmpYes (pc' := 97) C X143 at_86 (flt (x := (2 : Int32)) (y := (1 : Int32)) (by decide)).2.2.2 (by decide) (by decide) ?_
      refine Go.iload (pc' := 99) C X143 at_97 rfl rfl ?_
      refine Go.iconst (z := (3 : Int32)) (pc' := 100) C X143 at_99 rfl rfl ?_
      refine Go.icmpYes (pc' := 115) C X143 at_100 (flt (x := (3 : Int32)) (y := (1 : Int32)) (by decide)).2.2.2 (by decide) (by decide) ?_
      refine Go.iconst (z := (0 : Int32)) (pc' := 116) C X143 at_115 rfl rfl ?_
      refine Go.istore (Ls' := #[.val (.int p1), .val (.int p2), .val (.int p3), .val (.int p4), .val (.int p5), .val (.int (1 : Int32)), .val (.int (p2 &&& (255 : Int32))), .val (.int (p3 &&& (255 : Int32))), .val (.int (p4 &&& (255 : Int32))), .val (.int (p5 &&& (255 : Int32))), .val (.ref r_113), .val (.int (0 : Int32)), .unset, .unset]) (pc' := 118) C X143 at_116 rfl rfl ?_
      exact K118 _ _ X143 e143 N143 (0 : Int32) (fun _ => p143_0 hc66_145)
    · refine Go.ifYes (pc' := 111) C X143 at_66 ((if0 _ _).trans (feq (x := r_143) (y := (0 : Int32)) hc66_145).2) (by decide) (by decide) ?_
      refine Go.iconst (z := (1 : Int32)) (pc' := 112) C X143 at_111 rfl rfl ?_
      refine Go.goto (pc' := 116) C X143 at_112 (by decide) (by decide) ?_
      refine Go.istore (Ls' := #[.val (.int p1), .val (.int p2), .val (.int p3), .val (.int p4), .val (.int p5), .val (.int (1 : Int32)), .val (.int (p2 &&& (255 : Int32))), .val (.int (p3 &&& (255 : Int32))), .val (.int (p4 &&& (255 : Int32))), .val (.int (p5 &&& (255 : Int32))), .val (.ref r_113), .val (.int (1 : Int32)), .unset, .unset]) (pc' := 118) C X143 at_116 rfl rfl ?_
      exact K118 _ _ X143 e143 N143 (1 : Int32) (fun q => absurd q (by decide))
  · rw [hl]
    refine Go.istore (Ls' := #[.val (.int p1), .val (.int p2), .val (.int p3), .val (.int p4), .val (.int p5), .val (.int (2 : Int32)), .unset, .unset, .unset, .unset, .unset, .unset, .unset, .unset]) (pc' := 8) C X0 at_6 rfl rfl ?_
    refine Go.iloadN (pc' := 9) C X0 at_8 rfl rfl ?_
    refine Go.sipush (z := (255 : Int32)) (pc' := 12) C X0 at_9 rfl rfl ?_
    refine Go.iand (pc' := 13) C X0 at_12 rfl ?_
    refine Go.i2c (pc' := 14) C X0 at_13 rfl ?_
    rw [i2cr (r255 p2)]
    refine Go.istore (Ls' := #[.val (.int p1), .val (.int p2), .val (.int p3), .val (.int p4), .val (.int p5), .val (.int (2 : Int32)), .val (.int (p2 &&& (255 : Int32))), .unset, .unset, .unset, .unset, .unset, .unset, .unset]) (pc' := 16) C X0 at_14 rfl rfl ?_
    refine Go.iloadN (pc' := 17) C X0 at_16 rfl rfl ?_
    refine Go.sipush (z := (255 : Int32)) (pc' := 20) C X0 at_17 rfl rfl ?_
    refine Go.iand (pc' := 21) C X0 at_20 rfl ?_
    refine Go.i2c (pc' := 22) C X0 at_21 rfl ?_
    rw [i2cr (r255 p3)]
    refine Go.istore (Ls' := #[.val (.int p1), .val (.int p2), .val (.int p3), .val (.int p4), .val (.int p5), .val (.int (2 : Int32)), .val (.int (p2 &&& (255 : Int32))), .val (.int (p3 &&& (255 : Int32))), .unset, .unset, .unset, .unset, .unset, .unset]) (pc' := 24) C X0 at_22 rfl rfl ?_
    refine Go.iloadN (pc' := 25) C X0 at_24 rfl rfl ?_
    refine Go.sipush (z := (255 : Int32)) (pc' := 28) C X0 at_25 rfl rfl ?_
    refine Go.iand (pc' := 29) C X0 at_28 rfl ?_
    refine Go.i2c (pc' := 30) C X0 at_29 rfl ?_
    rw [i2cr (r255 p4)]
    refine Go.istore (Ls' := #[.val (.int p1), .val (.int p2), .val (.int p3), .val (.int p4), .val (.int p5), .val (.int (2 : Int32)), .val (.int (p2 &&& (255 : Int32))), .val (.int (p3 &&& (255 : Int32))), .val (.int (p4 &&& (255 : Int32))), .unset, .unset, .unset, .unset, .unset]) (pc' := 32) C X0 at_30 rfl rfl ?_
    refine Go.iload (pc' := 34) C X0 at_32 rfl rfl ?_
    refine Go.sipush (z := (255 : Int32)) (pc' := 37) C X0 at_34 rfl rfl ?_
    refine Go.iand (pc' := 38) C X0 at_37 rfl ?_
    refine Go.i2c (pc' := 39) C X0 at_38 rfl ?_
    rw [i2cr (r255 p5)]
    refine Go.istore (Ls' := #[.val (.int p1), .val (.int p2), .val (.int p3), .val (.int p4), .val (.int p5), .val (.int (2 : Int32)), .val (.int (p2 &&& (255 : Int32))), .val (.int (p3 &&& (255 : Int32))), .val (.int (p4 &&& (255 : Int32))), .val (.int (p5 &&& (255 : Int32))), .unset, .unset, .unset, .unset]) (pc' := 41) C X0 at_39 rfl rfl ?_
    refine Go.iload (pc' := 43) C X0 at_41 rfl rfl ?_
    refine Go.iload (pc' := 45) C X0 at_43 rfl rfl ?_
    refine Go.iload (pc' := 47) C X0 at_45 rfl rfl ?_
    refine Go.iload (pc' := 49) C X0 at_47 rfl rfl ?_
    refine Go.iload (pc' := 51) C X0 at_49 rfl rfl ?_
    refine Go.callS (y := (⟨"com/example/tranche/tranche/NotationNamePinLaw", "text", "(ICCCC)Ljava/lang/String;"⟩ : MethodName)) (pc' := 54) C X0 (tw hw 1 rfl) (tw hw 2 rfl) (by decide) (rm_tx2 l Z a0 hw ((p2 &&& (255 : Int32))) ((p3 &&& (255 : Int32))) ((p4 &&& (255 : Int32))) ((p5 &&& (255 : Int32))) cP h0 O0 SC hP (r255 p2) (r255 p3) (r255 p4) (r255 p5)) (tw hw 4 rfl) (tw hw 3 rfl) e0 (argsL := [(.int (2 : Int32)), (.int (p2 &&& (255 : Int32))), (.int (p3 &&& (255 : Int32))), (.int (p4 &&& (255 : Int32))), (.int (p5 &&& (255 : Int32)))]) (rest := []) (W := 0) rfl rfl pd_16 rfl (Nat.le_of_eq rfl) rfl (by decide) (by decide) (by decide) (by decide) at_51 rfl ?_
    intro T149 v149 L149 X149 q149
    obtain ⟨r_149, v_149, kv_149, rfl, N149q, K149, B149_0, B149_1, P149_0, P149_1, P149_2, P149_3⟩ := q149
    have N149 := Fr.app N0 N149q
    have Hr150 := CHr.trans Hr0 (CHr.keep K149 all0 Hr0.1)
    have n_r_149 : Z.heap.size ≤ r_149 := Nat.le_trans O0.1 B149_0
    have z_r_149 : h0.size ≤ r_149 := Nat.le_trans (Nat.le_refl _) B149_0
    have s_r_149 : Safe Z consts_1 s.vm T149.heap r_149 := Safe.keep K149 all0 Hr0.1 (Safe.new B149_0)
    have n_v_149 : Z.heap.size ≤ v_149 := Nat.le_trans O0.1 B149_1
    have z_v_149 : h0.size ≤ v_149 := Nat.le_trans (Nat.le_refl _) B149_1
    have s_v_149 : Safe Z consts_1 s.vm T149.heap v_149 := Safe.keep K149 all0 Hr0.1 (Safe.new B149_1)
    refine Go.astore (Ls' := #[.val (.int p1), .val (.int p2), .val (.int p3), .val (.int p4), .val (.int p5), .val (.int (2 : Int32)), .val (.int (p2 &&& (255 : Int32))), .val (.int (p3 &&& (255 : Int32))), .val (.int (p4 &&& (255 : Int32))), .val (.int (p5 &&& (255 : Int32))), .val (.ref r_149), .unset, .unset, .unset]) (pc' := 56) C X149 at_54 rfl rfl rfl ?_
    have K177 : ∀ (T151 : State) (L151 : List Loc), Stand p l e room_1 s m #[(.int p1), (.int p2), (.int p3), (.int p4), (.int p5)] below meth c T151 L151 3 10 → T151.heap = T149.heap → Fr Z.heap.size L151 → ∀ (cf : Int32) (sf : Int32), (cf = (0 : Int32) → Pr (p2 &&& (255 : Int32))) → (cf = (0 : Int32) → Pr (p3 &&& (255 : Int32))) → (sf = (0 : Int32) → ¬ ((p2 &&& (255 : Int32)) = (32 : Int32) ∧ (p3 &&& (255 : Int32)) = (32 : Int32))) → Go p e below (FnH Z consts_1 s h0 room_1.cells room_1.slots (Q_law Z p1 p2 p3 p4 p5 cP fm ci ta tk ts h0)) T151 (mkF m 177 #[.val (.int p1), .val (.int p2), .val (.int p3), .val (.int p4), .val (.int p5), .val (.int (2 : Int32)), .val (.int (p2 &&& (255 : Int32))), .val (.int (p3 &&& (255 : Int32))), .val (.int (p4 &&& (255 : Int32))), .val (.int (p5 &&& (255 : Int32))), .val (.ref r_149), .val (.int cf), .val (.int sf), .unset] []) := by
      intro T151 L151 X151 e151 N151 cf sf hq0 hq1 hsq
      refine Go.iload (pc' := 179) C X151 at_177 rfl rfl ?_
      refine Go.ifNo (pc' := 182) C X151 at_179 ((if0 _ _).trans (feq (x := (2 : Int32)) (y := (0 : Int32)) (by decide)).1) rfl ?_
      refine Go.iload (pc' := 184) C X151 at_182 rfl rfl ?_
      by_cases hc184_153 : cf = (0 : Int32)
      · refine Go.ifNo (pc' := 187) C X151 at_184 ((if0 _ _).trans (teq (x := cf) (y := (0 : Int32)) hc184_153).2) rfl ?_
        refine Go.iload (pc' := 189) C X151 at_187 rfl rfl ?_
        by_cases hc189_154 : sf = (0 : Int32)
        · refine Go.ifYes (pc' := 194) C X151 at_189 ((if0 _ _).trans (teq (x := sf) (y := (0 : Int32)) hc189_154).1) (by decide) (by decide) ?_
          have O156 : Ext Z.heap T149.heap := (Ext.keep O0 K149 all0)
          have Si157 : Sin s s T149.heap := Sin.mono Si0 (Nat.le_trans (Nat.le_refl _) K149.1)
          refine Go.ldcH (pc' := 196) (n := 12) (vs := [(.int (107 : Int32)), (.int (101 : Int32)), (.int (121 : Int32))]) (z := (3 : Int32)) C X151 Si157 (EWc hw) Hr150.1 (tw hw 41 rfl) (wS hw) e151 (by decide) (by decide) (by decide) (by decide) (by decide) (by decide) (by decide) (by decide) at_194 rfl ?_
          intro T155 h155 b155 sC155 v155 k155 C155 X155 e155 Si155 E155 hR155 A155 F155c F155v B155 hne155
          have Hr158 := CHr.trans Hr150 hR155
          have sa159 : Safe Z consts_1 sC155.vm h155 r_149 := (CHr.safe hR155 (Nat.lt_of_lt_of_le P149_0.lt (Nat.le_refl _)) s_r_149)
          have hx155_r_149 := hne155 r_149 sa159
          have sa160 : Safe Z consts_1 sC155.vm h155 v_149 := (CHr.safe hR155 (Nat.lt_of_lt_of_le P149_3.lt (Nat.le_refl _)) s_v_149)
          have hx155_v_149 := hne155 v_149 sa160
          refine Go.aload (pc' := 198) C155 X155 at_196 rfl rfl rfl ?_
          have c162 : Exa Z h155 r_149 "java/lang/String" := (Exa.ext E155 P149_0)
          have c163 : Fld Z h155 r_149 "java/lang/String" "value" "[B" (.ref v_149) := (Fld.ext E155 P149_1)
          have c164 : Fld Z h155 r_149 "java/lang/String" "coder" "B" (.int (0 : Int32)) := (Fld.ext E155 P149_2)
          have c165 : AL Z h155 v_149 kv_149 .byte (by8 [(p2 &&& (255 : Int32)), (p3 &&& (255 : Int32))]) := (AL.ext E155 P149_3)
          have O166 : Ext Z.heap h155 := (Ext.trans O156 E155)
          refine Go.callS (y := (⟨"com/example/tranche/tranche/Notation", "name", "(Ljava/lang/String;Ljava/lang/String;)Ljava/lang/String;"⟩ : MethodName)) (pc' := 201) C155 X155 (tw hw 42 rfl) (tw hw 43 rfl) (by decide) (rm_nm2 l Z a0 hw b155 r_149 v_149 kv_149 cP fm ((p2 &&& (255 : Int32))) ((p3 &&& (255 : Int32))) ci ta tk ts h155 O166 c162 c163 c164 c165 SC SF SI Ec SA AA (hq0 hc184_153) (hq1 hc184_153) (hsq hc189_154) ht hP hfm) (tw hw 45 rfl) (tw hw 44 rfl) e155 (argsL := [(.ref b155), (.ref r_149)]) (rest := []) (W := 0) rfl rfl pd_17 rfl (Nat.le_of_eq rfl) rfl (by decide) (by decide) (by decide) (by decide) at_198 rfl ?_
          intro T161 v161 L161 X161 q161
          obtain ⟨rfl, rfl, e161⟩ := q161
          have N161 := Fr.app N151 (Fr.nil _)
          refine Go.astore (Ls' := #[.val (.int p1), .val (.int p2), .val (.int p3), .val (.int p4), .val (.int p5), .val (.int (2 : Int32)), .val (.int (p2 &&& (255 : Int32))), .val (.int (p3 &&& (255 : Int32))), .val (.int (p4 &&& (255 : Int32))), .val (.int (p5 &&& (255 : Int32))), .val (.ref r_149), .val (.int cf), .val (.int sf), .val (.ref r_149)]) (pc' := 203) C155 X161 at_201 rfl rfl rfl ?_
          refine Go.aload (pc' := 205) C155 X161 at_203 rfl rfl rfl ?_
          refine Go.aload (pc' := 207) C155 X161 at_205 rfl rfl rfl ?_
          refine Go.acmpNo (pc' := 210) C155 X161 at_207 rfl rfl (XT.aa_ne_f rfl) rfl ?_
          refine Go.iconst (z := (1 : Int32)) (pc' := 211) C155 X161 at_210 rfl rfl ?_
          refine Go.goto (pc' := 215) C155 X161 at_211 (by decide) (by decide) ?_
          have K167 : Keep h0 h155 [] := (((Keep.refl h0 []).trans K149 all0).ext E155)
          exact Go.retNH C155 X161 (by rw [e161]; exact Si155) (EWc hw) (by rw [e161]; exact Hr158) rfl at_215 (by simp) (by rw [e161]; exact ⟨rfl, N161, K167⟩) (by decide) (by decide)
        · refine Go.ifNo (pc' := 192) C X151 at_189 ((if0 _ _).trans (feq (x := sf) (y := (0 : Int32)) hc189_154).1) rfl ?_
          refine Go.iconst (z := (1 : Int32)) (pc' := 193) C X151 at_192 rfl rfl ?_
          have K168 : Keep h0 T149.heap [] := ((Keep.refl h0 []).trans K149 all0)
          have Si169 : Sin s s T149.heap := Sin.mono Si0 (Nat.le_trans (Nat.le_refl _) K149.1)
          exact Go.retNH C X151 (by rw [e151]; exact Si169) (EWc hw) (by rw [e151]; exact Hr150) rfl at_193 (by simp) (by rw [e151]; exact ⟨rfl, N151, K168⟩) (by decide) (by decide)
      · refine Go.ifYes (pc' := 192) C X151 at_184 ((if0 _ _).trans (feq (x := cf) (y := (0 : Int32)) hc184_153).2) (by decide) (by decide) ?_
        refine Go.iconst (z := (1 : Int32)) (pc' := 193) C X151 at_192 rfl rfl ?_
        have K170 : Keep h0 T149.heap [] := ((Keep.refl h0 []).trans K149 all0)
        have Si171 : Sin s s T149.heap := Sin.mono Si0 (Nat.le_trans (Nat.le_refl _) K149.1)
        exact Go.retNH C X151 (by rw [e151]; exact Si171) (EWc hw) (by rw [e151]; exact Hr150) rfl at_193 (by simp) (by rw [e151]; exact ⟨rfl, N151, K170⟩) (by decide) (by decide)
    have K118 : ∀ (T172 : State) (L172 : List Loc), Stand p l e room_1 s m #[(.int p1), (.int p2), (.int p3), (.int p4), (.int p5)] below meth c T172 L172 3 10 → T172.heap = T149.heap → Fr Z.heap.size L172 → ∀ (cf : Int32), (cf = (0 : Int32) → Pr (p2 &&& (255 : Int32))) → (cf = (0 : Int32) → Pr (p3 &&& (255 : Int32))) → Go p e below (FnH Z consts_1 s h0 room_1.cells room_1.slots (Q_law Z p1 p2 p3 p4 p5 cP fm ci ta tk ts h0)) T172 (mkF m 118 #[.val (.int p1), .val (.int p2), .val (.int p3), .val (.int p4), .val (.int p5), .val (.int (2 : Int32)), .val (.int (p2 &&& (255 : Int32))), .val (.int (p3 &&& (255 : Int32))), .val (.int (p4 &&& (255 : Int32))), .val (.int (p5 &&& (255 : Int32))), .val (.ref r_149), .val (.int cf), .unset, .unset] []) := by
      intro T172 L172 X172 e172 N172 cf hq0 hq1
      refine Go.iload (pc' := 120) C X172 at_118 rfl rfl ?_
      refine Go.iconst (z := (1 : Int32)) (pc' := 121) C X172 at_120 rfl rfl ?_
      refine Go.icmpNo (pc' := 124) C X172 at_121 (flt (x := (2 : Int32)) (y := (1 : Int32)) (by decide)).1 rfl ?_
      refine Go.iload (pc' := 126) C X172 at_124 rfl rfl ?_
      refine Go.bipush (z := (32 : Int32)) (pc' := 128) C X172 at_126 rfl rfl ?_
      by_cases hc128_174 : (p2 &&& (255 : Int32)) = (32 : Int32)
      · refine Go.icmpNo (pc' := 131) C X172 at_128 (teq (x := (p2 &&& (255 : Int32))) (y := (32 : Int32)) hc128_174).2 rfl ?_
        refine Go.iload (pc' := 133) C X172 at_131 rfl rfl ?_
        refine Go.iconst (z := (2 : Int32)) (pc' := 134) C X172 at_133 rfl rfl ?_
        refine Go.icmpNo (pc' := 137) C X172 at_134 (flt (x := (2 : Int32)) (y := (2 : Int32)) (by decide)).1 rfl ?_
        refine Go.iload (pc' := 139) C X172 at_137 rfl rfl ?_
        refine Go.bipush (z := (32 : Int32)) (pc' := 141) C X172 at_139 rfl rfl ?_
        by_cases hc141_176 : (p3 &&& (255 : Int32)) = (32 : Int32)
        · refine Go.icmpNo (pc' := 144) C X172 at_141 (teq (x := (p3 &&& (255 : Int32))) (y := (32 : Int32)) hc141_176).2 rfl ?_
          refine Go.iload (pc' := 146) C X172 at_144 rfl rfl ?_
          refine Go.iconst (z := (3 : Int32)) (pc' := 147) C X172 at_146 rfl rfl ?_
          refine Go.icmpYes (pc' := 157) C X172 at_147 (tlt (x := (2 : Int32)) (y := (3 : Int32)) (by decide)).1 (by decide) (by decide) ?_
          refine Go.iload (pc' := 159) C X172 at_157 rfl rfl ?_
          refine Go.iconst (z := (4 : Int32)) (pc' := 160) C X172 at_159 rfl rfl ?_
          refine Go.icmpYes (pc' := 170) C X172 at_160 (tlt (x := (2 : Int32)) (y := (4 : Int32)) (by decide)).1 (by decide) (by decide) ?_
          refine Go.iconst (z := (1 : Int32)) (pc' := 171) C X172 at_170 rfl rfl ?_
          refine Go.goto (pc' := 175) C X172 at_171 (by decide) (by decide) ?_
          refine Go.istore (Ls' := #[.val (.int p1), .val (.int p2), .val (.int p3), .val (.int p4), .val (.int p5), .val (.int (2 : Int32)), .val (.int (p2 &&& (255 : Int32))), .val (.int (p3 &&& (255 : Int32))), .val (.int (p4 &&& (255 : Int32))), .val (.int (p5 &&& (255 : Int32))), .val (.ref r_149), .val (.int cf), .val (.int (1 : Int32)), .unset]) (pc' := 177) C X172 at_175 rfl rfl ?_
          exact K177 _ _ X172 e172 N172 cf (1 : Int32) hq0 hq1 (fun q => absurd q (by decide))
        · refine Go.icmpYes (pc' := 174) C X172 at_141 (feq (x := (p3 &&& (255 : Int32))) (y := (32 : Int32)) hc141_176).2 (by decide) (by decide) ?_
          refine Go.iconst (z := (0 : Int32)) (pc' := 175) C X172 at_174 rfl rfl ?_
          refine Go.istore (Ls' := #[.val (.int p1), .val (.int p2), .val (.int p3), .val (.int p4), .val (.int p5), .val (.int (2 : Int32)), .val (.int (p2 &&& (255 : Int32))), .val (.int (p3 &&& (255 : Int32))), .val (.int (p4 &&& (255 : Int32))), .val (.int (p5 &&& (255 : Int32))), .val (.ref r_149), .val (.int cf), .val (.int (0 : Int32)), .unset]) (pc' := 177) C X172 at_175 rfl rfl ?_
          exact K177 _ _ X172 e172 N172 cf (0 : Int32) hq0 hq1 (fun _ q => hc141_176 q.2)
      · refine Go.icmpYes (pc' := 174) C X172 at_128 (feq (x := (p2 &&& (255 : Int32))) (y := (32 : Int32)) hc128_174).2 (by decide) (by decide) ?_
        refine Go.iconst (z := (0 : Int32)) (pc' := 175) C X172 at_174 rfl rfl ?_
        refine Go.istore (Ls' := #[.val (.int p1), .val (.int p2), .val (.int p3), .val (.int p4), .val (.int p5), .val (.int (2 : Int32)), .val (.int (p2 &&& (255 : Int32))), .val (.int (p3 &&& (255 : Int32))), .val (.int (p4 &&& (255 : Int32))), .val (.int (p5 &&& (255 : Int32))), .val (.ref r_149), .val (.int cf), .val (.int (0 : Int32)), .unset]) (pc' := 177) C X172 at_175 rfl rfl ?_
        exact K177 _ _ X172 e172 N172 cf (0 : Int32) hq0 hq1 (fun _ q => hc128_174 q.1)
    refine Go.iload (pc' := 58) C X149 at_56 rfl rfl ?_
    refine Go.ifNo (pc' := 61) C X149 at_58 ((if0 _ _).trans (tlt (x := (0 : Int32)) (y := (2 : Int32)) (by decide)).2.2.2) rfl ?_
    refine Go.iload (pc' := 63) C X149 at_61 rfl rfl ?_
    have O181 : Ext Z.heap T149.heap := (Ext.keep O0 K149 all0)
    refine Go.callS (y := (⟨"com/example/tranche/tranche/NotationNamePinLaw", "isControl", "(C)Z"⟩ : MethodName)) (pc' := 66) C X149 (tw hw 38 rfl) (tw hw 39 rfl) (by decide) (rm_isc l Z a0 hw ((p2 &&& (255 : Int32))) T149.heap O181 (r255 p2)) (tw hw 40 rfl) (tw hw 3 rfl) rfl (argsL := [(.int (p2 &&& (255 : Int32)))]) (rest := []) (W := 0) rfl rfl pd_18 rfl (Nat.le_of_eq rfl) rfl (by decide) (by decide) (by decide) (by decide) at_63 rfl ?_
    intro T180 v180 L180 X180 q180
    obtain ⟨r_180, rfl, rfl, e180, p180_0⟩ := q180
    have N180 := Fr.app N149 (Fr.nil _)
    by_cases hc66_182 : r_180 = (0 : Int32)
    · refine Go.ifNo (pc' := 69) C X180 at_66 ((if0 _ _).trans (teq (x := r_180) (y := (0 : Int32)) hc66_182).2) rfl ?_
      refine Go.iload (pc' := 71) C X180 at_69 rfl rfl ?_
      refine Go.iconst (z := (1 : Int32)) (pc' := 72) C X180 at_71 rfl rfl ?_
      refine Go.icmpNo (pc' := 75) C X180 at_72 (tlt (x := (1 : Int32)) (y := (2 : Int32)) (by decide)).2.2.2 rfl ?_
      refine Go.iload (pc' := 77) C X180 at_75 rfl rfl ?_
      refine Go.callS (y := (⟨"com/example/tranche/tranche/NotationNamePinLaw", "isControl", "(C)Z"⟩ : MethodName)) (pc' := 80) C X180 (tw hw 38 rfl) (tw hw 39 rfl) (by decide) (rm_isc l Z a0 hw ((p3 &&& (255 : Int32))) T149.heap O181 (r255 p3)) (tw hw 40 rfl) (tw hw 3 rfl) e180 (argsL := [(.int (p3 &&& (255 : Int32)))]) (rest := []) (W := 0) rfl rfl pd_18 rfl (Nat.le_of_eq rfl) rfl (by decide) (by decide) (by decide) (by decide) at_77 rfl ?_
      intro T184 v184 L184 X184 q184
      obtain ⟨r_184, rfl, rfl, e184, p184_0⟩ := q184
      have N184 := Fr.app N180 (Fr.nil _)
      by_cases hc80_185 : r_184 = (0 : Int32)
      · refine Go.ifNo (pc' := 83) C X184 at_80 ((if0 _ _).trans (teq (x := r_184) (y := (0 : Int32)) hc80_185).2) rfl ?_
        refine Go.iload (pc' := 85) C X184 at_83 rfl rfl ?_
        refine Go.iconst (z := (2 : Int32)) (pc' := 86) C X184 at_85 rfl rfl ?_
        refine Go.icmpYes (pc' := 97) C X184 at_86 (flt (x := (2 : Int32)) (y := (2 : Int32)) (by decide)).2.2.2 (by decide) (by decide) ?_
        refine Go.iload (pc' := 99) C X184 at_97 rfl rfl ?_
        refine Go.iconst (z := (3 : Int32)) (pc' := 100) C X184 at_99 rfl rfl ?_
        refine Go.icmpYes (pc' := 115) C X184 at_100 (flt (x := (3 : Int32)) (y := (2 : Int32)) (by decide)).2.2.2 (by decide) (by decide) ?_
        refine Go.iconst (z := (0 : Int32)) (pc' := 116) C X184 at_115 rfl rfl ?_
        refine Go.istore (Ls' := #[.val (.int p1), .val (.int p2), .val (.int p3), .val (.int p4), .val (.int p5), .val (.int (2 : Int32)), .val (.int (p2 &&& (255 : Int32))), .val (.int (p3 &&& (255 : Int32))), .val (.int (p4 &&& (255 : Int32))), .val (.int (p5 &&& (255 : Int32))), .val (.ref r_149), .val (.int (0 : Int32)), .unset, .unset]) (pc' := 118) C X184 at_116 rfl rfl ?_
        exact K118 _ _ X184 e184 N184 (0 : Int32) (fun _ => p180_0 hc66_182) (fun _ => p184_0 hc80_185)
      · refine Go.ifYes (pc' := 111) C X184 at_80 ((if0 _ _).trans (feq (x := r_184) (y := (0 : Int32)) hc80_185).2) (by decide) (by decide) ?_
        refine Go.iconst (z := (1 : Int32)) (pc' := 112) C X184 at_111 rfl rfl ?_
        refine Go.goto (pc' := 116) C X184 at_112 (by decide) (by decide) ?_
        refine Go.istore (Ls' := #[.val (.int p1), .val (.int p2), .val (.int p3), .val (.int p4), .val (.int p5), .val (.int (2 : Int32)), .val (.int (p2 &&& (255 : Int32))), .val (.int (p3 &&& (255 : Int32))), .val (.int (p4 &&& (255 : Int32))), .val (.int (p5 &&& (255 : Int32))), .val (.ref r_149), .val (.int (1 : Int32)), .unset, .unset]) (pc' := 118) C X184 at_116 rfl rfl ?_
        exact K118 _ _ X184 e184 N184 (1 : Int32) (fun q => absurd q (by decide)) (fun q => absurd q (by decide))
    · refine Go.ifYes (pc' := 111) C X180 at_66 ((if0 _ _).trans (feq (x := r_180) (y := (0 : Int32)) hc66_182).2) (by decide) (by decide) ?_
      refine Go.iconst (z := (1 : Int32)) (pc' := 112) C X180 at_111 rfl rfl ?_
      refine Go.goto (pc' := 116) C X180 at_112 (by decide) (by decide) ?_
      refine Go.istore (Ls' := #[.val (.int p1), .val (.int p2), .val (.int p3), .val (.int p4), .val (.int p5), .val (.int (2 : Int32)), .val (.int (p2 &&& (255 : Int32))), .val (.int (p3 &&& (255 : Int32))), .val (.int (p4 &&& (255 : Int32))), .val (.int (p5 &&& (255 : Int32))), .val (.ref r_149), .val (.int (1 : Int32)), .unset, .unset]) (pc' := 118) C X180 at_116 rfl rfl ?_
      exact K118 _ _ X180 e180 N180 (1 : Int32) (fun q => absurd q (by decide)) (fun q => absurd q (by decide))
  · rw [hl]
    refine Go.istore (Ls' := #[.val (.int p1), .val (.int p2), .val (.int p3), .val (.int p4), .val (.int p5), .val (.int (3 : Int32)), .unset, .unset, .unset, .unset, .unset, .unset, .unset, .unset]) (pc' := 8) C X0 at_6 rfl rfl ?_
    refine Go.iloadN (pc' := 9) C X0 at_8 rfl rfl ?_
    refine Go.sipush (z := (255 : Int32)) (pc' := 12) C X0 at_9 rfl rfl ?_
    refine Go.iand (pc' := 13) C X0 at_12 rfl ?_
    refine Go.i2c (pc' := 14) C X0 at_13 rfl ?_
    rw [i2cr (r255 p2)]
    refine Go.istore (Ls' := #[.val (.int p1), .val (.int p2), .val (.int p3), .val (.int p4), .val (.int p5), .val (.int (3 : Int32)), .val (.int (p2 &&& (255 : Int32))), .unset, .unset, .unset, .unset, .unset, .unset, .unset]) (pc' := 16) C X0 at_14 rfl rfl ?_
    refine Go.iloadN (pc' := 17) C X0 at_16 rfl rfl ?_
    refine Go.sipush (z := (255 : Int32)) (pc' := 20) C X0 at_17 rfl rfl ?_
    refine Go.iand (pc' := 21) C X0 at_20 rfl ?_
    refine Go.i2c (pc' := 22) C X0 at_21 rfl ?_
    rw [i2cr (r255 p3)]
    refine Go.istore (Ls' := #[.val (.int p1), .val (.int p2), .val (.int p3), .val (.int p4), .val (.int p5), .val (.int (3 : Int32)), .val (.int (p2 &&& (255 : Int32))), .val (.int (p3 &&& (255 : Int32))), .unset, .unset, .unset, .unset, .unset, .unset]) (pc' := 24) C X0 at_22 rfl rfl ?_
    refine Go.iloadN (pc' := 25) C X0 at_24 rfl rfl ?_
    refine Go.sipush (z := (255 : Int32)) (pc' := 28) C X0 at_25 rfl rfl ?_
    refine Go.iand (pc' := 29) C X0 at_28 rfl ?_
    refine Go.i2c (pc' := 30) C X0 at_29 rfl ?_
    rw [i2cr (r255 p4)]
    refine Go.istore (Ls' := #[.val (.int p1), .val (.int p2), .val (.int p3), .val (.int p4), .val (.int p5), .val (.int (3 : Int32)), .val (.int (p2 &&& (255 : Int32))), .val (.int (p3 &&& (255 : Int32))), .val (.int (p4 &&& (255 : Int32))), .unset, .unset, .unset, .unset, .unset]) (pc' := 32) C X0 at_30 rfl rfl ?_
    refine Go.iload (pc' := 34) C X0 at_32 rfl rfl ?_
    refine Go.sipush (z := (255 : Int32)) (pc' := 37) C X0 at_34 rfl rfl ?_
    refine Go.iand (pc' := 38) C X0 at_37 rfl ?_
    refine Go.i2c (pc' := 39) C X0 at_38 rfl ?_
    rw [i2cr (r255 p5)]
    refine Go.istore (Ls' := #[.val (.int p1), .val (.int p2), .val (.int p3), .val (.int p4), .val (.int p5), .val (.int (3 : Int32)), .val (.int (p2 &&& (255 : Int32))), .val (.int (p3 &&& (255 : Int32))), .val (.int (p4 &&& (255 : Int32))), .val (.int (p5 &&& (255 : Int32))), .unset, .unset, .unset, .unset]) (pc' := 41) C X0 at_39 rfl rfl ?_
    refine Go.iload (pc' := 43) C X0 at_41 rfl rfl ?_
    refine Go.iload (pc' := 45) C X0 at_43 rfl rfl ?_
    refine Go.iload (pc' := 47) C X0 at_45 rfl rfl ?_
    refine Go.iload (pc' := 49) C X0 at_47 rfl rfl ?_
    refine Go.iload (pc' := 51) C X0 at_49 rfl rfl ?_
    refine Go.callS (y := (⟨"com/example/tranche/tranche/NotationNamePinLaw", "text", "(ICCCC)Ljava/lang/String;"⟩ : MethodName)) (pc' := 54) C X0 (tw hw 1 rfl) (tw hw 2 rfl) (by decide) (rm_tx3 l Z a0 hw ((p2 &&& (255 : Int32))) ((p3 &&& (255 : Int32))) ((p4 &&& (255 : Int32))) ((p5 &&& (255 : Int32))) cP h0 O0 SC hP (r255 p2) (r255 p3) (r255 p4) (r255 p5)) (tw hw 4 rfl) (tw hw 3 rfl) e0 (argsL := [(.int (3 : Int32)), (.int (p2 &&& (255 : Int32))), (.int (p3 &&& (255 : Int32))), (.int (p4 &&& (255 : Int32))), (.int (p5 &&& (255 : Int32)))]) (rest := []) (W := 0) rfl rfl pd_16 rfl (Nat.le_of_eq rfl) rfl (by decide) (by decide) (by decide) (by decide) at_51 rfl ?_
    intro T188 v188 L188 X188 q188
    obtain ⟨r_188, v_188, kv_188, rfl, N188q, K188, B188_0, B188_1, P188_0, P188_1, P188_2, P188_3⟩ := q188
    have N188 := Fr.app N0 N188q
    have Hr189 := CHr.trans Hr0 (CHr.keep K188 all0 Hr0.1)
    have n_r_188 : Z.heap.size ≤ r_188 := Nat.le_trans O0.1 B188_0
    have z_r_188 : h0.size ≤ r_188 := Nat.le_trans (Nat.le_refl _) B188_0
    have s_r_188 : Safe Z consts_1 s.vm T188.heap r_188 := Safe.keep K188 all0 Hr0.1 (Safe.new B188_0)
    have n_v_188 : Z.heap.size ≤ v_188 := Nat.le_trans O0.1 B188_1
    have z_v_188 : h0.size ≤ v_188 := Nat.le_trans (Nat.le_refl _) B188_1
    have s_v_188 : Safe Z consts_1 s.vm T188.heap v_188 := Safe.keep K188 all0 Hr0.1 (Safe.new B188_1)
    refine Go.astore (Ls' := #[.val (.int p1), .val (.int p2), .val (.int p3), .val (.int p4), .val (.int p5), .val (.int (3 : Int32)), .val (.int (p2 &&& (255 : Int32))), .val (.int (p3 &&& (255 : Int32))), .val (.int (p4 &&& (255 : Int32))), .val (.int (p5 &&& (255 : Int32))), .val (.ref r_188), .unset, .unset, .unset]) (pc' := 56) C X188 at_54 rfl rfl rfl ?_
    have K177 : ∀ (T190 : State) (L190 : List Loc), Stand p l e room_1 s m #[(.int p1), (.int p2), (.int p3), (.int p4), (.int p5)] below meth c T190 L190 3 11 → T190.heap = T188.heap → Fr Z.heap.size L190 → ∀ (cf : Int32) (sf : Int32), (cf = (0 : Int32) → Pr (p2 &&& (255 : Int32))) → (cf = (0 : Int32) → Pr (p3 &&& (255 : Int32))) → (cf = (0 : Int32) → Pr (p4 &&& (255 : Int32))) → (sf = (0 : Int32) → ¬ ((p2 &&& (255 : Int32)) = (32 : Int32) ∧ (p3 &&& (255 : Int32)) = (32 : Int32) ∧ (p4 &&& (255 : Int32)) = (32 : Int32))) → Go p e below (FnH Z consts_1 s h0 room_1.cells room_1.slots (Q_law Z p1 p2 p3 p4 p5 cP fm ci ta tk ts h0)) T190 (mkF m 177 #[.val (.int p1), .val (.int p2), .val (.int p3), .val (.int p4), .val (.int p5), .val (.int (3 : Int32)), .val (.int (p2 &&& (255 : Int32))), .val (.int (p3 &&& (255 : Int32))), .val (.int (p4 &&& (255 : Int32))), .val (.int (p5 &&& (255 : Int32))), .val (.ref r_188), .val (.int cf), .val (.int sf), .unset] []) := by
      intro T190 L190 X190 e190 N190 cf sf hq0 hq1 hq2 hsq
      refine Go.iload (pc' := 179) C X190 at_177 rfl rfl ?_
      refine Go.ifNo (pc' := 182) C X190 at_179 ((if0 _ _).trans (feq (x := (3 : Int32)) (y := (0 : Int32)) (by decide)).1) rfl ?_
      refine Go.iload (pc' := 184) C X190 at_182 rfl rfl ?_
      by_cases hc184_192 : cf = (0 : Int32)
      · refine Go.ifNo (pc' := 187) C X190 at_184 ((if0 _ _).trans (teq (x := cf) (y := (0 : Int32)) hc184_192).2) rfl ?_
        refine Go.iload (pc' := 189) C X190 at_187 rfl rfl ?_
        by_cases hc189_193 : sf = (0 : Int32)
        · refine Go.ifYes (pc' := 194) C X190 at_189 ((if0 _ _).trans (teq (x := sf) (y := (0 : Int32)) hc189_193).1) (by decide) (by decide) ?_
          have O195 : Ext Z.heap T188.heap := (Ext.keep O0 K188 all0)
          have Si196 : Sin s s T188.heap := Sin.mono Si0 (Nat.le_trans (Nat.le_refl _) K188.1)
          refine Go.ldcH (pc' := 196) (n := 12) (vs := [(.int (107 : Int32)), (.int (101 : Int32)), (.int (121 : Int32))]) (z := (3 : Int32)) C X190 Si196 (EWc hw) Hr189.1 (tw hw 41 rfl) (wS hw) e190 (by decide) (by decide) (by decide) (by decide) (by decide) (by decide) (by decide) (by decide) at_194 rfl ?_
          intro T194 h194 b194 sC194 v194 k194 C194 X194 e194 Si194 E194 hR194 A194 F194c F194v B194 hne194
          have Hr197 := CHr.trans Hr189 hR194
          have sa198 : Safe Z consts_1 sC194.vm h194 r_188 := (CHr.safe hR194 (Nat.lt_of_lt_of_le P188_0.lt (Nat.le_refl _)) s_r_188)
          have hx194_r_188 := hne194 r_188 sa198
          have sa199 : Safe Z consts_1 sC194.vm h194 v_188 := (CHr.safe hR194 (Nat.lt_of_lt_of_le P188_3.lt (Nat.le_refl _)) s_v_188)
          have hx194_v_188 := hne194 v_188 sa199
          refine Go.aload (pc' := 198) C194 X194 at_196 rfl rfl rfl ?_
          have c201 : Exa Z h194 r_188 "java/lang/String" := (Exa.ext E194 P188_0)
          have c202 : Fld Z h194 r_188 "java/lang/String" "value" "[B" (.ref v_188) := (Fld.ext E194 P188_1)
          have c203 : Fld Z h194 r_188 "java/lang/String" "coder" "B" (.int (0 : Int32)) := (Fld.ext E194 P188_2)
          have c204 : AL Z h194 v_188 kv_188 .byte (by8 [(p2 &&& (255 : Int32)), (p3 &&& (255 : Int32)), (p4 &&& (255 : Int32))]) := (AL.ext E194 P188_3)
          have O205 : Ext Z.heap h194 := (Ext.trans O195 E194)
          refine Go.callS (y := (⟨"com/example/tranche/tranche/Notation", "name", "(Ljava/lang/String;Ljava/lang/String;)Ljava/lang/String;"⟩ : MethodName)) (pc' := 201) C194 X194 (tw hw 42 rfl) (tw hw 43 rfl) (by decide) (rm_nm3 l Z a0 hw b194 r_188 v_188 kv_188 cP fm ((p2 &&& (255 : Int32))) ((p3 &&& (255 : Int32))) ((p4 &&& (255 : Int32))) ci ta tk ts h194 O205 c201 c202 c203 c204 SC SF SI Ec SA AA (hq0 hc184_192) (hq1 hc184_192) (hq2 hc184_192) (hsq hc189_193) ht hP hfm) (tw hw 45 rfl) (tw hw 44 rfl) e194 (argsL := [(.ref b194), (.ref r_188)]) (rest := []) (W := 0) rfl rfl pd_17 rfl (Nat.le_of_eq rfl) rfl (by decide) (by decide) (by decide) (by decide) at_198 rfl ?_
          intro T200 v200 L200 X200 q200
          obtain ⟨rfl, rfl, e200⟩ := q200
          have N200 := Fr.app N190 (Fr.nil _)
          refine Go.astore (Ls' := #[.val (.int p1), .val (.int p2), .val (.int p3), .val (.int p4), .val (.int p5), .val (.int (3 : Int32)), .val (.int (p2 &&& (255 : Int32))), .val (.int (p3 &&& (255 : Int32))), .val (.int (p4 &&& (255 : Int32))), .val (.int (p5 &&& (255 : Int32))), .val (.ref r_188), .val (.int cf), .val (.int sf), .val (.ref r_188)]) (pc' := 203) C194 X200 at_201 rfl rfl rfl ?_
          refine Go.aload (pc' := 205) C194 X200 at_203 rfl rfl rfl ?_
          refine Go.aload (pc' := 207) C194 X200 at_205 rfl rfl rfl ?_
          refine Go.acmpNo (pc' := 210) C194 X200 at_207 rfl rfl (XT.aa_ne_f rfl) rfl ?_
          refine Go.iconst (z := (1 : Int32)) (pc' := 211) C194 X200 at_210 rfl rfl ?_
          refine Go.goto (pc' := 215) C194 X200 at_211 (by decide) (by decide) ?_
          have K206 : Keep h0 h194 [] := (((Keep.refl h0 []).trans K188 all0).ext E194)
          exact Go.retNH C194 X200 (by rw [e200]; exact Si194) (EWc hw) (by rw [e200]; exact Hr197) rfl at_215 (by simp) (by rw [e200]; exact ⟨rfl, N200, K206⟩) (by decide) (by decide)
        · refine Go.ifNo (pc' := 192) C X190 at_189 ((if0 _ _).trans (feq (x := sf) (y := (0 : Int32)) hc189_193).1) rfl ?_
          refine Go.iconst (z := (1 : Int32)) (pc' := 193) C X190 at_192 rfl rfl ?_
          have K207 : Keep h0 T188.heap [] := ((Keep.refl h0 []).trans K188 all0)
          have Si208 : Sin s s T188.heap := Sin.mono Si0 (Nat.le_trans (Nat.le_refl _) K188.1)
          exact Go.retNH C X190 (by rw [e190]; exact Si208) (EWc hw) (by rw [e190]; exact Hr189) rfl at_193 (by simp) (by rw [e190]; exact ⟨rfl, N190, K207⟩) (by decide) (by decide)
      · refine Go.ifYes (pc' := 192) C X190 at_184 ((if0 _ _).trans (feq (x := cf) (y := (0 : Int32)) hc184_192).2) (by decide) (by decide) ?_
        refine Go.iconst (z := (1 : Int32)) (pc' := 193) C X190 at_192 rfl rfl ?_
        have K209 : Keep h0 T188.heap [] := ((Keep.refl h0 []).trans K188 all0)
        have Si210 : Sin s s T188.heap := Sin.mono Si0 (Nat.le_trans (Nat.le_refl _) K188.1)
        exact Go.retNH C X190 (by rw [e190]; exact Si210) (EWc hw) (by rw [e190]; exact Hr189) rfl at_193 (by simp) (by rw [e190]; exact ⟨rfl, N190, K209⟩) (by decide) (by decide)
    have K118 : ∀ (T211 : State) (L211 : List Loc), Stand p l e room_1 s m #[(.int p1), (.int p2), (.int p3), (.int p4), (.int p5)] below meth c T211 L211 3 11 → T211.heap = T188.heap → Fr Z.heap.size L211 → ∀ (cf : Int32), (cf = (0 : Int32) → Pr (p2 &&& (255 : Int32))) → (cf = (0 : Int32) → Pr (p3 &&& (255 : Int32))) → (cf = (0 : Int32) → Pr (p4 &&& (255 : Int32))) → Go p e below (FnH Z consts_1 s h0 room_1.cells room_1.slots (Q_law Z p1 p2 p3 p4 p5 cP fm ci ta tk ts h0)) T211 (mkF m 118 #[.val (.int p1), .val (.int p2), .val (.int p3), .val (.int p4), .val (.int p5), .val (.int (3 : Int32)), .val (.int (p2 &&& (255 : Int32))), .val (.int (p3 &&& (255 : Int32))), .val (.int (p4 &&& (255 : Int32))), .val (.int (p5 &&& (255 : Int32))), .val (.ref r_188), .val (.int cf), .unset, .unset] []) := by
      intro T211 L211 X211 e211 N211 cf hq0 hq1 hq2
      refine Go.iload (pc' := 120) C X211 at_118 rfl rfl ?_
      refine Go.iconst (z := (1 : Int32)) (pc' := 121) C X211 at_120 rfl rfl ?_
      refine Go.icmpNo (pc' := 124) C X211 at_121 (flt (x := (3 : Int32)) (y := (1 : Int32)) (by decide)).1 rfl ?_
      refine Go.iload (pc' := 126) C X211 at_124 rfl rfl ?_
      refine Go.bipush (z := (32 : Int32)) (pc' := 128) C X211 at_126 rfl rfl ?_
      by_cases hc128_213 : (p2 &&& (255 : Int32)) = (32 : Int32)
      · refine Go.icmpNo (pc' := 131) C X211 at_128 (teq (x := (p2 &&& (255 : Int32))) (y := (32 : Int32)) hc128_213).2 rfl ?_
        refine Go.iload (pc' := 133) C X211 at_131 rfl rfl ?_
        refine Go.iconst (z := (2 : Int32)) (pc' := 134) C X211 at_133 rfl rfl ?_
        refine Go.icmpNo (pc' := 137) C X211 at_134 (flt (x := (3 : Int32)) (y := (2 : Int32)) (by decide)).1 rfl ?_
        refine Go.iload (pc' := 139) C X211 at_137 rfl rfl ?_
        refine Go.bipush (z := (32 : Int32)) (pc' := 141) C X211 at_139 rfl rfl ?_
        by_cases hc141_215 : (p3 &&& (255 : Int32)) = (32 : Int32)
        · refine Go.icmpNo (pc' := 144) C X211 at_141 (teq (x := (p3 &&& (255 : Int32))) (y := (32 : Int32)) hc141_215).2 rfl ?_
          refine Go.iload (pc' := 146) C X211 at_144 rfl rfl ?_
          refine Go.iconst (z := (3 : Int32)) (pc' := 147) C X211 at_146 rfl rfl ?_
          refine Go.icmpNo (pc' := 150) C X211 at_147 (flt (x := (3 : Int32)) (y := (3 : Int32)) (by decide)).1 rfl ?_
          refine Go.iload (pc' := 152) C X211 at_150 rfl rfl ?_
          refine Go.bipush (z := (32 : Int32)) (pc' := 154) C X211 at_152 rfl rfl ?_
          by_cases hc154_217 : (p4 &&& (255 : Int32)) = (32 : Int32)
          · refine Go.icmpNo (pc' := 157) C X211 at_154 (teq (x := (p4 &&& (255 : Int32))) (y := (32 : Int32)) hc154_217).2 rfl ?_
            refine Go.iload (pc' := 159) C X211 at_157 rfl rfl ?_
            refine Go.iconst (z := (4 : Int32)) (pc' := 160) C X211 at_159 rfl rfl ?_
            refine Go.icmpYes (pc' := 170) C X211 at_160 (tlt (x := (3 : Int32)) (y := (4 : Int32)) (by decide)).1 (by decide) (by decide) ?_
            refine Go.iconst (z := (1 : Int32)) (pc' := 171) C X211 at_170 rfl rfl ?_
            refine Go.goto (pc' := 175) C X211 at_171 (by decide) (by decide) ?_
            refine Go.istore (Ls' := #[.val (.int p1), .val (.int p2), .val (.int p3), .val (.int p4), .val (.int p5), .val (.int (3 : Int32)), .val (.int (p2 &&& (255 : Int32))), .val (.int (p3 &&& (255 : Int32))), .val (.int (p4 &&& (255 : Int32))), .val (.int (p5 &&& (255 : Int32))), .val (.ref r_188), .val (.int cf), .val (.int (1 : Int32)), .unset]) (pc' := 177) C X211 at_175 rfl rfl ?_
            exact K177 _ _ X211 e211 N211 cf (1 : Int32) hq0 hq1 hq2 (fun q => absurd q (by decide))
          · refine Go.icmpYes (pc' := 174) C X211 at_154 (feq (x := (p4 &&& (255 : Int32))) (y := (32 : Int32)) hc154_217).2 (by decide) (by decide) ?_
            refine Go.iconst (z := (0 : Int32)) (pc' := 175) C X211 at_174 rfl rfl ?_
            refine Go.istore (Ls' := #[.val (.int p1), .val (.int p2), .val (.int p3), .val (.int p4), .val (.int p5), .val (.int (3 : Int32)), .val (.int (p2 &&& (255 : Int32))), .val (.int (p3 &&& (255 : Int32))), .val (.int (p4 &&& (255 : Int32))), .val (.int (p5 &&& (255 : Int32))), .val (.ref r_188), .val (.int cf), .val (.int (0 : Int32)), .unset]) (pc' := 177) C X211 at_175 rfl rfl ?_
            exact K177 _ _ X211 e211 N211 cf (0 : Int32) hq0 hq1 hq2 (fun _ q => hc154_217 q.2.2)
        · refine Go.icmpYes (pc' := 174) C X211 at_141 (feq (x := (p3 &&& (255 : Int32))) (y := (32 : Int32)) hc141_215).2 (by decide) (by decide) ?_
          refine Go.iconst (z := (0 : Int32)) (pc' := 175) C X211 at_174 rfl rfl ?_
          refine Go.istore (Ls' := #[.val (.int p1), .val (.int p2), .val (.int p3), .val (.int p4), .val (.int p5), .val (.int (3 : Int32)), .val (.int (p2 &&& (255 : Int32))), .val (.int (p3 &&& (255 : Int32))), .val (.int (p4 &&& (255 : Int32))), .val (.int (p5 &&& (255 : Int32))), .val (.ref r_188), .val (.int cf), .val (.int (0 : Int32)), .unset]) (pc' := 177) C X211 at_175 rfl rfl ?_
          exact K177 _ _ X211 e211 N211 cf (0 : Int32) hq0 hq1 hq2 (fun _ q => hc141_215 q.2.1)
      · refine Go.icmpYes (pc' := 174) C X211 at_128 (feq (x := (p2 &&& (255 : Int32))) (y := (32 : Int32)) hc128_213).2 (by decide) (by decide) ?_
        refine Go.iconst (z := (0 : Int32)) (pc' := 175) C X211 at_174 rfl rfl ?_
        refine Go.istore (Ls' := #[.val (.int p1), .val (.int p2), .val (.int p3), .val (.int p4), .val (.int p5), .val (.int (3 : Int32)), .val (.int (p2 &&& (255 : Int32))), .val (.int (p3 &&& (255 : Int32))), .val (.int (p4 &&& (255 : Int32))), .val (.int (p5 &&& (255 : Int32))), .val (.ref r_188), .val (.int cf), .val (.int (0 : Int32)), .unset]) (pc' := 177) C X211 at_175 rfl rfl ?_
        exact K177 _ _ X211 e211 N211 cf (0 : Int32) hq0 hq1 hq2 (fun _ q => hc128_213 q.1)
    refine Go.iload (pc' := 58) C X188 at_56 rfl rfl ?_
    refine Go.ifNo (pc' := 61) C X188 at_58 ((if0 _ _).trans (tlt (x := (0 : Int32)) (y := (3 : Int32)) (by decide)).2.2.2) rfl ?_
    refine Go.iload (pc' := 63) C X188 at_61 rfl rfl ?_
    have O221 : Ext Z.heap T188.heap := (Ext.keep O0 K188 all0)
    refine Go.callS (y := (⟨"com/example/tranche/tranche/NotationNamePinLaw", "isControl", "(C)Z"⟩ : MethodName)) (pc' := 66) C X188 (tw hw 38 rfl) (tw hw 39 rfl) (by decide) (rm_isc l Z a0 hw ((p2 &&& (255 : Int32))) T188.heap O221 (r255 p2)) (tw hw 40 rfl) (tw hw 3 rfl) rfl (argsL := [(.int (p2 &&& (255 : Int32)))]) (rest := []) (W := 0) rfl rfl pd_18 rfl (Nat.le_of_eq rfl) rfl (by decide) (by decide) (by decide) (by decide) at_63 rfl ?_
    intro T220 v220 L220 X220 q220
    obtain ⟨r_220, rfl, rfl, e220, p220_0⟩ := q220
    have N220 := Fr.app N188 (Fr.nil _)
    by_cases hc66_222 : r_220 = (0 : Int32)
    · refine Go.ifNo (pc' := 69) C X220 at_66 ((if0 _ _).trans (teq (x := r_220) (y := (0 : Int32)) hc66_222).2) rfl ?_
      refine Go.iload (pc' := 71) C X220 at_69 rfl rfl ?_
      refine Go.iconst (z := (1 : Int32)) (pc' := 72) C X220 at_71 rfl rfl ?_
      refine Go.icmpNo (pc' := 75) C X220 at_72 (tlt (x := (1 : Int32)) (y := (3 : Int32)) (by decide)).2.2.2 rfl ?_
      refine Go.iload (pc' := 77) C X220 at_75 rfl rfl ?_
      refine Go.callS (y := (⟨"com/example/tranche/tranche/NotationNamePinLaw", "isControl", "(C)Z"⟩ : MethodName)) (pc' := 80) C X220 (tw hw 38 rfl) (tw hw 39 rfl) (by decide) (rm_isc l Z a0 hw ((p3 &&& (255 : Int32))) T188.heap O221 (r255 p3)) (tw hw 40 rfl) (tw hw 3 rfl) e220 (argsL := [(.int (p3 &&& (255 : Int32)))]) (rest := []) (W := 0) rfl rfl pd_18 rfl (Nat.le_of_eq rfl) rfl (by decide) (by decide) (by decide) (by decide) at_77 rfl ?_
      intro T224 v224 L224 X224 q224
      obtain ⟨r_224, rfl, rfl, e224, p224_0⟩ := q224
      have N224 := Fr.app N220 (Fr.nil _)
      by_cases hc80_225 : r_224 = (0 : Int32)
      · refine Go.ifNo (pc' := 83) C X224 at_80 ((if0 _ _).trans (teq (x := r_224) (y := (0 : Int32)) hc80_225).2) rfl ?_
        refine Go.iload (pc' := 85) C X224 at_83 rfl rfl ?_
        refine Go.iconst (z := (2 : Int32)) (pc' := 86) C X224 at_85 rfl rfl ?_
        refine Go.icmpNo (pc' := 89) C X224 at_86 (tlt (x := (2 : Int32)) (y := (3 : Int32)) (by decide)).2.2.2 rfl ?_
        refine Go.iload (pc' := 91) C X224 at_89 rfl rfl ?_
        refine Go.callS (y := (⟨"com/example/tranche/tranche/NotationNamePinLaw", "isControl", "(C)Z"⟩ : MethodName)) (pc' := 94) C X224 (tw hw 38 rfl) (tw hw 39 rfl) (by decide) (rm_isc l Z a0 hw ((p4 &&& (255 : Int32))) T188.heap O221 (r255 p4)) (tw hw 40 rfl) (tw hw 3 rfl) e224 (argsL := [(.int (p4 &&& (255 : Int32)))]) (rest := []) (W := 0) rfl rfl pd_18 rfl (Nat.le_of_eq rfl) rfl (by decide) (by decide) (by decide) (by decide) at_91 rfl ?_
        intro T227 v227 L227 X227 q227
        obtain ⟨r_227, rfl, rfl, e227, p227_0⟩ := q227
        have N227 := Fr.app N224 (Fr.nil _)
        by_cases hc94_228 : r_227 = (0 : Int32)
        · refine Go.ifNo (pc' := 97) C X227 at_94 ((if0 _ _).trans (teq (x := r_227) (y := (0 : Int32)) hc94_228).2) rfl ?_
          refine Go.iload (pc' := 99) C X227 at_97 rfl rfl ?_
          refine Go.iconst (z := (3 : Int32)) (pc' := 100) C X227 at_99 rfl rfl ?_
          refine Go.icmpYes (pc' := 115) C X227 at_100 (flt (x := (3 : Int32)) (y := (3 : Int32)) (by decide)).2.2.2 (by decide) (by decide) ?_
          refine Go.iconst (z := (0 : Int32)) (pc' := 116) C X227 at_115 rfl rfl ?_
          refine Go.istore (Ls' := #[.val (.int p1), .val (.int p2), .val (.int p3), .val (.int p4), .val (.int p5), .val (.int (3 : Int32)), .val (.int (p2 &&& (255 : Int32))), .val (.int (p3 &&& (255 : Int32))), .val (.int (p4 &&& (255 : Int32))), .val (.int (p5 &&& (255 : Int32))), .val (.ref r_188), .val (.int (0 : Int32)), .unset, .unset]) (pc' := 118) C X227 at_116 rfl rfl ?_
          exact K118 _ _ X227 e227 N227 (0 : Int32) (fun _ => p220_0 hc66_222) (fun _ => p224_0 hc80_225) (fun _ => p227_0 hc94_228)
        · refine Go.ifYes (pc' := 111) C X227 at_94 ((if0 _ _).trans (feq (x := r_227) (y := (0 : Int32)) hc94_228).2) (by decide) (by decide) ?_
          refine Go.iconst (z := (1 : Int32)) (pc' := 112) C X227 at_111 rfl rfl ?_
          refine Go.goto (pc' := 116) C X227 at_112 (by decide) (by decide) ?_
          refine Go.istore (Ls' := #[.val (.int p1), .val (.int p2), .val (.int p3), .val (.int p4), .val (.int p5), .val (.int (3 : Int32)), .val (.int (p2 &&& (255 : Int32))), .val (.int (p3 &&& (255 : Int32))), .val (.int (p4 &&& (255 : Int32))), .val (.int (p5 &&& (255 : Int32))), .val (.ref r_188), .val (.int (1 : Int32)), .unset, .unset]) (pc' := 118) C X227 at_116 rfl rfl ?_
          exact K118 _ _ X227 e227 N227 (1 : Int32) (fun q => absurd q (by decide)) (fun q => absurd q (by decide)) (fun q => absurd q (by decide))
      · refine Go.ifYes (pc' := 111) C X224 at_80 ((if0 _ _).trans (feq (x := r_224) (y := (0 : Int32)) hc80_225).2) (by decide) (by decide) ?_
        refine Go.iconst (z := (1 : Int32)) (pc' := 112) C X224 at_111 rfl rfl ?_
        refine Go.goto (pc' := 116) C X224 at_112 (by decide) (by decide) ?_
        refine Go.istore (Ls' := #[.val (.int p1), .val (.int p2), .val (.int p3), .val (.int p4), .val (.int p5), .val (.int (3 : Int32)), .val (.int (p2 &&& (255 : Int32))), .val (.int (p3 &&& (255 : Int32))), .val (.int (p4 &&& (255 : Int32))), .val (.int (p5 &&& (255 : Int32))), .val (.ref r_188), .val (.int (1 : Int32)), .unset, .unset]) (pc' := 118) C X224 at_116 rfl rfl ?_
        exact K118 _ _ X224 e224 N224 (1 : Int32) (fun q => absurd q (by decide)) (fun q => absurd q (by decide)) (fun q => absurd q (by decide))
    · refine Go.ifYes (pc' := 111) C X220 at_66 ((if0 _ _).trans (feq (x := r_220) (y := (0 : Int32)) hc66_222).2) (by decide) (by decide) ?_
      refine Go.iconst (z := (1 : Int32)) (pc' := 112) C X220 at_111 rfl rfl ?_
      refine Go.goto (pc' := 116) C X220 at_112 (by decide) (by decide) ?_
      refine Go.istore (Ls' := #[.val (.int p1), .val (.int p2), .val (.int p3), .val (.int p4), .val (.int p5), .val (.int (3 : Int32)), .val (.int (p2 &&& (255 : Int32))), .val (.int (p3 &&& (255 : Int32))), .val (.int (p4 &&& (255 : Int32))), .val (.int (p5 &&& (255 : Int32))), .val (.ref r_188), .val (.int (1 : Int32)), .unset, .unset]) (pc' := 118) C X220 at_116 rfl rfl ?_
      exact K118 _ _ X220 e220 N220 (1 : Int32) (fun q => absurd q (by decide)) (fun q => absurd q (by decide)) (fun q => absurd q (by decide))
  · rw [hl]
    refine Go.istore (Ls' := #[.val (.int p1), .val (.int p2), .val (.int p3), .val (.int p4), .val (.int p5), .val (.int (4 : Int32)), .unset, .unset, .unset, .unset, .unset, .unset, .unset, .unset]) (pc' := 8) C X0 at_6 rfl rfl ?_
    refine Go.iloadN (pc' := 9) C X0 at_8 rfl rfl ?_
    refine Go.sipush (z := (255 : Int32)) (pc' := 12) C X0 at_9 rfl rfl ?_
    refine Go.iand (pc' := 13) C X0 at_12 rfl ?_
    refine Go.i2c (pc' := 14) C X0 at_13 rfl ?_
    rw [i2cr (r255 p2)]
    refine Go.istore (Ls' := #[.val (.int p1), .val (.int p2), .val (.int p3), .val (.int p4), .val (.int p5), .val (.int (4 : Int32)), .val (.int (p2 &&& (255 : Int32))), .unset, .unset, .unset, .unset, .unset, .unset, .unset]) (pc' := 16) C X0 at_14 rfl rfl ?_
    refine Go.iloadN (pc' := 17) C X0 at_16 rfl rfl ?_
    refine Go.sipush (z := (255 : Int32)) (pc' := 20) C X0 at_17 rfl rfl ?_
    refine Go.iand (pc' := 21) C X0 at_20 rfl ?_
    refine Go.i2c (pc' := 22) C X0 at_21 rfl ?_
    rw [i2cr (r255 p3)]
    refine Go.istore (Ls' := #[.val (.int p1), .val (.int p2), .val (.int p3), .val (.int p4), .val (.int p5), .val (.int (4 : Int32)), .val (.int (p2 &&& (255 : Int32))), .val (.int (p3 &&& (255 : Int32))), .unset, .unset, .unset, .unset, .unset, .unset]) (pc' := 24) C X0 at_22 rfl rfl ?_
    refine Go.iloadN (pc' := 25) C X0 at_24 rfl rfl ?_
    refine Go.sipush (z := (255 : Int32)) (pc' := 28) C X0 at_25 rfl rfl ?_
    refine Go.iand (pc' := 29) C X0 at_28 rfl ?_
    refine Go.i2c (pc' := 30) C X0 at_29 rfl ?_
    rw [i2cr (r255 p4)]
    refine Go.istore (Ls' := #[.val (.int p1), .val (.int p2), .val (.int p3), .val (.int p4), .val (.int p5), .val (.int (4 : Int32)), .val (.int (p2 &&& (255 : Int32))), .val (.int (p3 &&& (255 : Int32))), .val (.int (p4 &&& (255 : Int32))), .unset, .unset, .unset, .unset, .unset]) (pc' := 32) C X0 at_30 rfl rfl ?_
    refine Go.iload (pc' := 34) C X0 at_32 rfl rfl ?_
    refine Go.sipush (z := (255 : Int32)) (pc' := 37) C X0 at_34 rfl rfl ?_
    refine Go.iand (pc' := 38) C X0 at_37 rfl ?_
    refine Go.i2c (pc' := 39) C X0 at_38 rfl ?_
    rw [i2cr (r255 p5)]
    refine Go.istore (Ls' := #[.val (.int p1), .val (.int p2), .val (.int p3), .val (.int p4), .val (.int p5), .val (.int (4 : Int32)), .val (.int (p2 &&& (255 : Int32))), .val (.int (p3 &&& (255 : Int32))), .val (.int (p4 &&& (255 : Int32))), .val (.int (p5 &&& (255 : Int32))), .unset, .unset, .unset, .unset]) (pc' := 41) C X0 at_39 rfl rfl ?_
    refine Go.iload (pc' := 43) C X0 at_41 rfl rfl ?_
    refine Go.iload (pc' := 45) C X0 at_43 rfl rfl ?_
    refine Go.iload (pc' := 47) C X0 at_45 rfl rfl ?_
    refine Go.iload (pc' := 49) C X0 at_47 rfl rfl ?_
    refine Go.iload (pc' := 51) C X0 at_49 rfl rfl ?_
    refine Go.callS (y := (⟨"com/example/tranche/tranche/NotationNamePinLaw", "text", "(ICCCC)Ljava/lang/String;"⟩ : MethodName)) (pc' := 54) C X0 (tw hw 1 rfl) (tw hw 2 rfl) (by decide) (rm_tx4 l Z a0 hw ((p2 &&& (255 : Int32))) ((p3 &&& (255 : Int32))) ((p4 &&& (255 : Int32))) ((p5 &&& (255 : Int32))) cP h0 O0 SC hP (r255 p2) (r255 p3) (r255 p4) (r255 p5)) (tw hw 4 rfl) (tw hw 3 rfl) e0 (argsL := [(.int (4 : Int32)), (.int (p2 &&& (255 : Int32))), (.int (p3 &&& (255 : Int32))), (.int (p4 &&& (255 : Int32))), (.int (p5 &&& (255 : Int32)))]) (rest := []) (W := 0) rfl rfl pd_16 rfl (Nat.le_of_eq rfl) rfl (by decide) (by decide) (by decide) (by decide) at_51 rfl ?_
    intro T230 v230 L230 X230 q230
    obtain ⟨r_230, v_230, kv_230, rfl, N230q, K230, B230_0, B230_1, P230_0, P230_1, P230_2, P230_3⟩ := q230
    have N230 := Fr.app N0 N230q
    have Hr231 := CHr.trans Hr0 (CHr.keep K230 all0 Hr0.1)
    have n_r_230 : Z.heap.size ≤ r_230 := Nat.le_trans O0.1 B230_0
    have z_r_230 : h0.size ≤ r_230 := Nat.le_trans (Nat.le_refl _) B230_0
    have s_r_230 : Safe Z consts_1 s.vm T230.heap r_230 := Safe.keep K230 all0 Hr0.1 (Safe.new B230_0)
    have n_v_230 : Z.heap.size ≤ v_230 := Nat.le_trans O0.1 B230_1
    have z_v_230 : h0.size ≤ v_230 := Nat.le_trans (Nat.le_refl _) B230_1
    have s_v_230 : Safe Z consts_1 s.vm T230.heap v_230 := Safe.keep K230 all0 Hr0.1 (Safe.new B230_1)
    refine Go.astore (Ls' := #[.val (.int p1), .val (.int p2), .val (.int p3), .val (.int p4), .val (.int p5), .val (.int (4 : Int32)), .val (.int (p2 &&& (255 : Int32))), .val (.int (p3 &&& (255 : Int32))), .val (.int (p4 &&& (255 : Int32))), .val (.int (p5 &&& (255 : Int32))), .val (.ref r_230), .unset, .unset, .unset]) (pc' := 56) C X230 at_54 rfl rfl rfl ?_
    have K177 : ∀ (T232 : State) (L232 : List Loc), Stand p l e room_1 s m #[(.int p1), (.int p2), (.int p3), (.int p4), (.int p5)] below meth c T232 L232 3 12 → T232.heap = T230.heap → Fr Z.heap.size L232 → ∀ (cf : Int32) (sf : Int32), (cf = (0 : Int32) → Pr (p2 &&& (255 : Int32))) → (cf = (0 : Int32) → Pr (p3 &&& (255 : Int32))) → (cf = (0 : Int32) → Pr (p4 &&& (255 : Int32))) → (cf = (0 : Int32) → Pr (p5 &&& (255 : Int32))) → (sf = (0 : Int32) → ¬ ((p2 &&& (255 : Int32)) = (32 : Int32) ∧ (p3 &&& (255 : Int32)) = (32 : Int32) ∧ (p4 &&& (255 : Int32)) = (32 : Int32) ∧ (p5 &&& (255 : Int32)) = (32 : Int32))) → Go p e below (FnH Z consts_1 s h0 room_1.cells room_1.slots (Q_law Z p1 p2 p3 p4 p5 cP fm ci ta tk ts h0)) T232 (mkF m 177 #[.val (.int p1), .val (.int p2), .val (.int p3), .val (.int p4), .val (.int p5), .val (.int (4 : Int32)), .val (.int (p2 &&& (255 : Int32))), .val (.int (p3 &&& (255 : Int32))), .val (.int (p4 &&& (255 : Int32))), .val (.int (p5 &&& (255 : Int32))), .val (.ref r_230), .val (.int cf), .val (.int sf), .unset] []) := by
      intro T232 L232 X232 e232 N232 cf sf hq0 hq1 hq2 hq3 hsq
      refine Go.iload (pc' := 179) C X232 at_177 rfl rfl ?_
      refine Go.ifNo (pc' := 182) C X232 at_179 ((if0 _ _).trans (feq (x := (4 : Int32)) (y := (0 : Int32)) (by decide)).1) rfl ?_
      refine Go.iload (pc' := 184) C X232 at_182 rfl rfl ?_
      by_cases hc184_234 : cf = (0 : Int32)
      · refine Go.ifNo (pc' := 187) C X232 at_184 ((if0 _ _).trans (teq (x := cf) (y := (0 : Int32)) hc184_234).2) rfl ?_
        refine Go.iload (pc' := 189) C X232 at_187 rfl rfl ?_
        by_cases hc189_235 : sf = (0 : Int32)
        · refine Go.ifYes (pc' := 194) C X232 at_189 ((if0 _ _).trans (teq (x := sf) (y := (0 : Int32)) hc189_235).1) (by decide) (by decide) ?_
          have O237 : Ext Z.heap T230.heap := (Ext.keep O0 K230 all0)
          have Si238 : Sin s s T230.heap := Sin.mono Si0 (Nat.le_trans (Nat.le_refl _) K230.1)
          refine Go.ldcH (pc' := 196) (n := 12) (vs := [(.int (107 : Int32)), (.int (101 : Int32)), (.int (121 : Int32))]) (z := (3 : Int32)) C X232 Si238 (EWc hw) Hr231.1 (tw hw 41 rfl) (wS hw) e232 (by decide) (by decide) (by decide) (by decide) (by decide) (by decide) (by decide) (by decide) at_194 rfl ?_
          intro T236 h236 b236 sC236 v236 k236 C236 X236 e236 Si236 E236 hR236 A236 F236c F236v B236 hne236
          have Hr239 := CHr.trans Hr231 hR236
          have sa240 : Safe Z consts_1 sC236.vm h236 r_230 := (CHr.safe hR236 (Nat.lt_of_lt_of_le P230_0.lt (Nat.le_refl _)) s_r_230)
          have hx236_r_230 := hne236 r_230 sa240
          have sa241 : Safe Z consts_1 sC236.vm h236 v_230 := (CHr.safe hR236 (Nat.lt_of_lt_of_le P230_3.lt (Nat.le_refl _)) s_v_230)
          have hx236_v_230 := hne236 v_230 sa241
          refine Go.aload (pc' := 198) C236 X236 at_196 rfl rfl rfl ?_
          have c243 : Exa Z h236 r_230 "java/lang/String" := (Exa.ext E236 P230_0)
          have c244 : Fld Z h236 r_230 "java/lang/String" "value" "[B" (.ref v_230) := (Fld.ext E236 P230_1)
          have c245 : Fld Z h236 r_230 "java/lang/String" "coder" "B" (.int (0 : Int32)) := (Fld.ext E236 P230_2)
          have c246 : AL Z h236 v_230 kv_230 .byte (by8 [(p2 &&& (255 : Int32)), (p3 &&& (255 : Int32)), (p4 &&& (255 : Int32)), (p5 &&& (255 : Int32))]) := (AL.ext E236 P230_3)
          have O247 : Ext Z.heap h236 := (Ext.trans O237 E236)
          refine Go.callS (y := (⟨"com/example/tranche/tranche/Notation", "name", "(Ljava/lang/String;Ljava/lang/String;)Ljava/lang/String;"⟩ : MethodName)) (pc' := 201) C236 X236 (tw hw 42 rfl) (tw hw 43 rfl) (by decide) (rm_nm4 l Z a0 hw b236 r_230 v_230 kv_230 cP fm ((p2 &&& (255 : Int32))) ((p3 &&& (255 : Int32))) ((p4 &&& (255 : Int32))) ((p5 &&& (255 : Int32))) ci ta tk ts h236 O247 c243 c244 c245 c246 SC SF SI Ec SA AA (hq0 hc184_234) (hq1 hc184_234) (hq2 hc184_234) (hq3 hc184_234) (hsq hc189_235) ht hP hfm) (tw hw 45 rfl) (tw hw 44 rfl) e236 (argsL := [(.ref b236), (.ref r_230)]) (rest := []) (W := 0) rfl rfl pd_17 rfl (Nat.le_of_eq rfl) rfl (by decide) (by decide) (by decide) (by decide) at_198 rfl ?_
          intro T242 v242 L242 X242 q242
          obtain ⟨rfl, rfl, e242⟩ := q242
          have N242 := Fr.app N232 (Fr.nil _)
          refine Go.astore (Ls' := #[.val (.int p1), .val (.int p2), .val (.int p3), .val (.int p4), .val (.int p5), .val (.int (4 : Int32)), .val (.int (p2 &&& (255 : Int32))), .val (.int (p3 &&& (255 : Int32))), .val (.int (p4 &&& (255 : Int32))), .val (.int (p5 &&& (255 : Int32))), .val (.ref r_230), .val (.int cf), .val (.int sf), .val (.ref r_230)]) (pc' := 203) C236 X242 at_201 rfl rfl rfl ?_
          refine Go.aload (pc' := 205) C236 X242 at_203 rfl rfl rfl ?_
          refine Go.aload (pc' := 207) C236 X242 at_205 rfl rfl rfl ?_
          refine Go.acmpNo (pc' := 210) C236 X242 at_207 rfl rfl (XT.aa_ne_f rfl) rfl ?_
          refine Go.iconst (z := (1 : Int32)) (pc' := 211) C236 X242 at_210 rfl rfl ?_
          refine Go.goto (pc' := 215) C236 X242 at_211 (by decide) (by decide) ?_
          have K248 : Keep h0 h236 [] := (((Keep.refl h0 []).trans K230 all0).ext E236)
          exact Go.retNH C236 X242 (by rw [e242]; exact Si236) (EWc hw) (by rw [e242]; exact Hr239) rfl at_215 (by simp) (by rw [e242]; exact ⟨rfl, N242, K248⟩) (by decide) (by decide)
        · refine Go.ifNo (pc' := 192) C X232 at_189 ((if0 _ _).trans (feq (x := sf) (y := (0 : Int32)) hc189_235).1) rfl ?_
          refine Go.iconst (z := (1 : Int32)) (pc' := 193) C X232 at_192 rfl rfl ?_
          have K249 : Keep h0 T230.heap [] := ((Keep.refl h0 []).trans K230 all0)
          have Si250 : Sin s s T230.heap := Sin.mono Si0 (Nat.le_trans (Nat.le_refl _) K230.1)
          exact Go.retNH C X232 (by rw [e232]; exact Si250) (EWc hw) (by rw [e232]; exact Hr231) rfl at_193 (by simp) (by rw [e232]; exact ⟨rfl, N232, K249⟩) (by decide) (by decide)
      · refine Go.ifYes (pc' := 192) C X232 at_184 ((if0 _ _).trans (feq (x := cf) (y := (0 : Int32)) hc184_234).2) (by decide) (by decide) ?_
        refine Go.iconst (z := (1 : Int32)) (pc' := 193) C X232 at_192 rfl rfl ?_
        have K251 : Keep h0 T230.heap [] := ((Keep.refl h0 []).trans K230 all0)
        have Si252 : Sin s s T230.heap := Sin.mono Si0 (Nat.le_trans (Nat.le_refl _) K230.1)
        exact Go.retNH C X232 (by rw [e232]; exact Si252) (EWc hw) (by rw [e232]; exact Hr231) rfl at_193 (by simp) (by rw [e232]; exact ⟨rfl, N232, K251⟩) (by decide) (by decide)
    have K118 : ∀ (T253 : State) (L253 : List Loc), Stand p l e room_1 s m #[(.int p1), (.int p2), (.int p3), (.int p4), (.int p5)] below meth c T253 L253 3 12 → T253.heap = T230.heap → Fr Z.heap.size L253 → ∀ (cf : Int32), (cf = (0 : Int32) → Pr (p2 &&& (255 : Int32))) → (cf = (0 : Int32) → Pr (p3 &&& (255 : Int32))) → (cf = (0 : Int32) → Pr (p4 &&& (255 : Int32))) → (cf = (0 : Int32) → Pr (p5 &&& (255 : Int32))) → Go p e below (FnH Z consts_1 s h0 room_1.cells room_1.slots (Q_law Z p1 p2 p3 p4 p5 cP fm ci ta tk ts h0)) T253 (mkF m 118 #[.val (.int p1), .val (.int p2), .val (.int p3), .val (.int p4), .val (.int p5), .val (.int (4 : Int32)), .val (.int (p2 &&& (255 : Int32))), .val (.int (p3 &&& (255 : Int32))), .val (.int (p4 &&& (255 : Int32))), .val (.int (p5 &&& (255 : Int32))), .val (.ref r_230), .val (.int cf), .unset, .unset] []) := by
      intro T253 L253 X253 e253 N253 cf hq0 hq1 hq2 hq3
      refine Go.iload (pc' := 120) C X253 at_118 rfl rfl ?_
      refine Go.iconst (z := (1 : Int32)) (pc' := 121) C X253 at_120 rfl rfl ?_
      refine Go.icmpNo (pc' := 124) C X253 at_121 (flt (x := (4 : Int32)) (y := (1 : Int32)) (by decide)).1 rfl ?_
      refine Go.iload (pc' := 126) C X253 at_124 rfl rfl ?_
      refine Go.bipush (z := (32 : Int32)) (pc' := 128) C X253 at_126 rfl rfl ?_
      by_cases hc128_255 : (p2 &&& (255 : Int32)) = (32 : Int32)
      · refine Go.icmpNo (pc' := 131) C X253 at_128 (teq (x := (p2 &&& (255 : Int32))) (y := (32 : Int32)) hc128_255).2 rfl ?_
        refine Go.iload (pc' := 133) C X253 at_131 rfl rfl ?_
        refine Go.iconst (z := (2 : Int32)) (pc' := 134) C X253 at_133 rfl rfl ?_
        refine Go.icmpNo (pc' := 137) C X253 at_134 (flt (x := (4 : Int32)) (y := (2 : Int32)) (by decide)).1 rfl ?_
        refine Go.iload (pc' := 139) C X253 at_137 rfl rfl ?_
        refine Go.bipush (z := (32 : Int32)) (pc' := 141) C X253 at_139 rfl rfl ?_
        by_cases hc141_257 : (p3 &&& (255 : Int32)) = (32 : Int32)
        · refine Go.icmpNo (pc' := 144) C X253 at_141 (teq (x := (p3 &&& (255 : Int32))) (y := (32 : Int32)) hc141_257).2 rfl ?_
          refine Go.iload (pc' := 146) C X253 at_144 rfl rfl ?_
          refine Go.iconst (z := (3 : Int32)) (pc' := 147) C X253 at_146 rfl rfl ?_
          refine Go.icmpNo (pc' := 150) C X253 at_147 (flt (x := (4 : Int32)) (y := (3 : Int32)) (by decide)).1 rfl ?_
          refine Go.iload (pc' := 152) C X253 at_150 rfl rfl ?_
          refine Go.bipush (z := (32 : Int32)) (pc' := 154) C X253 at_152 rfl rfl ?_
          by_cases hc154_259 : (p4 &&& (255 : Int32)) = (32 : Int32)
          · refine Go.icmpNo (pc' := 157) C X253 at_154 (teq (x := (p4 &&& (255 : Int32))) (y := (32 : Int32)) hc154_259).2 rfl ?_
            refine Go.iload (pc' := 159) C X253 at_157 rfl rfl ?_
            refine Go.iconst (z := (4 : Int32)) (pc' := 160) C X253 at_159 rfl rfl ?_
            refine Go.icmpNo (pc' := 163) C X253 at_160 (flt (x := (4 : Int32)) (y := (4 : Int32)) (by decide)).1 rfl ?_
            refine Go.iload (pc' := 165) C X253 at_163 rfl rfl ?_
            refine Go.bipush (z := (32 : Int32)) (pc' := 167) C X253 at_165 rfl rfl ?_
            by_cases hc167_261 : (p5 &&& (255 : Int32)) = (32 : Int32)
            · refine Go.icmpNo (pc' := 170) C X253 at_167 (teq (x := (p5 &&& (255 : Int32))) (y := (32 : Int32)) hc167_261).2 rfl ?_
              refine Go.iconst (z := (1 : Int32)) (pc' := 171) C X253 at_170 rfl rfl ?_
              refine Go.goto (pc' := 175) C X253 at_171 (by decide) (by decide) ?_
              refine Go.istore (Ls' := #[.val (.int p1), .val (.int p2), .val (.int p3), .val (.int p4), .val (.int p5), .val (.int (4 : Int32)), .val (.int (p2 &&& (255 : Int32))), .val (.int (p3 &&& (255 : Int32))), .val (.int (p4 &&& (255 : Int32))), .val (.int (p5 &&& (255 : Int32))), .val (.ref r_230), .val (.int cf), .val (.int (1 : Int32)), .unset]) (pc' := 177) C X253 at_175 rfl rfl ?_
              exact K177 _ _ X253 e253 N253 cf (1 : Int32) hq0 hq1 hq2 hq3 (fun q => absurd q (by decide))
            · refine Go.icmpYes (pc' := 174) C X253 at_167 (feq (x := (p5 &&& (255 : Int32))) (y := (32 : Int32)) hc167_261).2 (by decide) (by decide) ?_
              refine Go.iconst (z := (0 : Int32)) (pc' := 175) C X253 at_174 rfl rfl ?_
              refine Go.istore (Ls' := #[.val (.int p1), .val (.int p2), .val (.int p3), .val (.int p4), .val (.int p5), .val (.int (4 : Int32)), .val (.int (p2 &&& (255 : Int32))), .val (.int (p3 &&& (255 : Int32))), .val (.int (p4 &&& (255 : Int32))), .val (.int (p5 &&& (255 : Int32))), .val (.ref r_230), .val (.int cf), .val (.int (0 : Int32)), .unset]) (pc' := 177) C X253 at_175 rfl rfl ?_
              exact K177 _ _ X253 e253 N253 cf (0 : Int32) hq0 hq1 hq2 hq3 (fun _ q => hc167_261 q.2.2.2)
          · refine Go.icmpYes (pc' := 174) C X253 at_154 (feq (x := (p4 &&& (255 : Int32))) (y := (32 : Int32)) hc154_259).2 (by decide) (by decide) ?_
            refine Go.iconst (z := (0 : Int32)) (pc' := 175) C X253 at_174 rfl rfl ?_
            refine Go.istore (Ls' := #[.val (.int p1), .val (.int p2), .val (.int p3), .val (.int p4), .val (.int p5), .val (.int (4 : Int32)), .val (.int (p2 &&& (255 : Int32))), .val (.int (p3 &&& (255 : Int32))), .val (.int (p4 &&& (255 : Int32))), .val (.int (p5 &&& (255 : Int32))), .val (.ref r_230), .val (.int cf), .val (.int (0 : Int32)), .unset]) (pc' := 177) C X253 at_175 rfl rfl ?_
            exact K177 _ _ X253 e253 N253 cf (0 : Int32) hq0 hq1 hq2 hq3 (fun _ q => hc154_259 q.2.2.1)
        · refine Go.icmpYes (pc' := 174) C X253 at_141 (feq (x := (p3 &&& (255 : Int32))) (y := (32 : Int32)) hc141_257).2 (by decide) (by decide) ?_
          refine Go.iconst (z := (0 : Int32)) (pc' := 175) C X253 at_174 rfl rfl ?_
          refine Go.istore (Ls' := #[.val (.int p1), .val (.int p2), .val (.int p3), .val (.int p4), .val (.int p5), .val (.int (4 : Int32)), .val (.int (p2 &&& (255 : Int32))), .val (.int (p3 &&& (255 : Int32))), .val (.int (p4 &&& (255 : Int32))), .val (.int (p5 &&& (255 : Int32))), .val (.ref r_230), .val (.int cf), .val (.int (0 : Int32)), .unset]) (pc' := 177) C X253 at_175 rfl rfl ?_
          exact K177 _ _ X253 e253 N253 cf (0 : Int32) hq0 hq1 hq2 hq3 (fun _ q => hc141_257 q.2.1)
      · refine Go.icmpYes (pc' := 174) C X253 at_128 (feq (x := (p2 &&& (255 : Int32))) (y := (32 : Int32)) hc128_255).2 (by decide) (by decide) ?_
        refine Go.iconst (z := (0 : Int32)) (pc' := 175) C X253 at_174 rfl rfl ?_
        refine Go.istore (Ls' := #[.val (.int p1), .val (.int p2), .val (.int p3), .val (.int p4), .val (.int p5), .val (.int (4 : Int32)), .val (.int (p2 &&& (255 : Int32))), .val (.int (p3 &&& (255 : Int32))), .val (.int (p4 &&& (255 : Int32))), .val (.int (p5 &&& (255 : Int32))), .val (.ref r_230), .val (.int cf), .val (.int (0 : Int32)), .unset]) (pc' := 177) C X253 at_175 rfl rfl ?_
        exact K177 _ _ X253 e253 N253 cf (0 : Int32) hq0 hq1 hq2 hq3 (fun _ q => hc128_255 q.1)
    refine Go.iload (pc' := 58) C X230 at_56 rfl rfl ?_
    refine Go.ifNo (pc' := 61) C X230 at_58 ((if0 _ _).trans (tlt (x := (0 : Int32)) (y := (4 : Int32)) (by decide)).2.2.2) rfl ?_
    refine Go.iload (pc' := 63) C X230 at_61 rfl rfl ?_
    have O264 : Ext Z.heap T230.heap := (Ext.keep O0 K230 all0)
    refine Go.callS (y := (⟨"com/example/tranche/tranche/NotationNamePinLaw", "isControl", "(C)Z"⟩ : MethodName)) (pc' := 66) C X230 (tw hw 38 rfl) (tw hw 39 rfl) (by decide) (rm_isc l Z a0 hw ((p2 &&& (255 : Int32))) T230.heap O264 (r255 p2)) (tw hw 40 rfl) (tw hw 3 rfl) rfl (argsL := [(.int (p2 &&& (255 : Int32)))]) (rest := []) (W := 0) rfl rfl pd_18 rfl (Nat.le_of_eq rfl) rfl (by decide) (by decide) (by decide) (by decide) at_63 rfl ?_
    intro T263 v263 L263 X263 q263
    obtain ⟨r_263, rfl, rfl, e263, p263_0⟩ := q263
    have N263 := Fr.app N230 (Fr.nil _)
    by_cases hc66_265 : r_263 = (0 : Int32)
    · refine Go.ifNo (pc' := 69) C X263 at_66 ((if0 _ _).trans (teq (x := r_263) (y := (0 : Int32)) hc66_265).2) rfl ?_
      refine Go.iload (pc' := 71) C X263 at_69 rfl rfl ?_
      refine Go.iconst (z := (1 : Int32)) (pc' := 72) C X263 at_71 rfl rfl ?_
      refine Go.icmpNo (pc' := 75) C X263 at_72 (tlt (x := (1 : Int32)) (y := (4 : Int32)) (by decide)).2.2.2 rfl ?_
      refine Go.iload (pc' := 77) C X263 at_75 rfl rfl ?_
      refine Go.callS (y := (⟨"com/example/tranche/tranche/NotationNamePinLaw", "isControl", "(C)Z"⟩ : MethodName)) (pc' := 80) C X263 (tw hw 38 rfl) (tw hw 39 rfl) (by decide) (rm_isc l Z a0 hw ((p3 &&& (255 : Int32))) T230.heap O264 (r255 p3)) (tw hw 40 rfl) (tw hw 3 rfl) e263 (argsL := [(.int (p3 &&& (255 : Int32)))]) (rest := []) (W := 0) rfl rfl pd_18 rfl (Nat.le_of_eq rfl) rfl (by decide) (by decide) (by decide) (by decide) at_77 rfl ?_
      intro T267 v267 L267 X267 q267
      obtain ⟨r_267, rfl, rfl, e267, p267_0⟩ := q267
      have N267 := Fr.app N263 (Fr.nil _)
      by_cases hc80_268 : r_267 = (0 : Int32)
      · refine Go.ifNo (pc' := 83) C X267 at_80 ((if0 _ _).trans (teq (x := r_267) (y := (0 : Int32)) hc80_268).2) rfl ?_
        refine Go.iload (pc' := 85) C X267 at_83 rfl rfl ?_
        refine Go.iconst (z := (2 : Int32)) (pc' := 86) C X267 at_85 rfl rfl ?_
        refine Go.icmpNo (pc' := 89) C X267 at_86 (tlt (x := (2 : Int32)) (y := (4 : Int32)) (by decide)).2.2.2 rfl ?_
        refine Go.iload (pc' := 91) C X267 at_89 rfl rfl ?_
        refine Go.callS (y := (⟨"com/example/tranche/tranche/NotationNamePinLaw", "isControl", "(C)Z"⟩ : MethodName)) (pc' := 94) C X267 (tw hw 38 rfl) (tw hw 39 rfl) (by decide) (rm_isc l Z a0 hw ((p4 &&& (255 : Int32))) T230.heap O264 (r255 p4)) (tw hw 40 rfl) (tw hw 3 rfl) e267 (argsL := [(.int (p4 &&& (255 : Int32)))]) (rest := []) (W := 0) rfl rfl pd_18 rfl (Nat.le_of_eq rfl) rfl (by decide) (by decide) (by decide) (by decide) at_91 rfl ?_
        intro T270 v270 L270 X270 q270
        obtain ⟨r_270, rfl, rfl, e270, p270_0⟩ := q270
        have N270 := Fr.app N267 (Fr.nil _)
        by_cases hc94_271 : r_270 = (0 : Int32)
        · refine Go.ifNo (pc' := 97) C X270 at_94 ((if0 _ _).trans (teq (x := r_270) (y := (0 : Int32)) hc94_271).2) rfl ?_
          refine Go.iload (pc' := 99) C X270 at_97 rfl rfl ?_
          refine Go.iconst (z := (3 : Int32)) (pc' := 100) C X270 at_99 rfl rfl ?_
          refine Go.icmpNo (pc' := 103) C X270 at_100 (tlt (x := (3 : Int32)) (y := (4 : Int32)) (by decide)).2.2.2 rfl ?_
          refine Go.iload (pc' := 105) C X270 at_103 rfl rfl ?_
          refine Go.callS (y := (⟨"com/example/tranche/tranche/NotationNamePinLaw", "isControl", "(C)Z"⟩ : MethodName)) (pc' := 108) C X270 (tw hw 38 rfl) (tw hw 39 rfl) (by decide) (rm_isc l Z a0 hw ((p5 &&& (255 : Int32))) T230.heap O264 (r255 p5)) (tw hw 40 rfl) (tw hw 3 rfl) e270 (argsL := [(.int (p5 &&& (255 : Int32)))]) (rest := []) (W := 0) rfl rfl pd_18 rfl (Nat.le_of_eq rfl) rfl (by decide) (by decide) (by decide) (by decide) at_105 rfl ?_
          intro T273 v273 L273 X273 q273
          obtain ⟨r_273, rfl, rfl, e273, p273_0⟩ := q273
          have N273 := Fr.app N270 (Fr.nil _)
          by_cases hc108_274 : r_273 = (0 : Int32)
          · refine Go.ifYes (pc' := 115) C X273 at_108 ((if0 _ _).trans (teq (x := r_273) (y := (0 : Int32)) hc108_274).1) (by decide) (by decide) ?_
            refine Go.iconst (z := (0 : Int32)) (pc' := 116) C X273 at_115 rfl rfl ?_
            refine Go.istore (Ls' := #[.val (.int p1), .val (.int p2), .val (.int p3), .val (.int p4), .val (.int p5), .val (.int (4 : Int32)), .val (.int (p2 &&& (255 : Int32))), .val (.int (p3 &&& (255 : Int32))), .val (.int (p4 &&& (255 : Int32))), .val (.int (p5 &&& (255 : Int32))), .val (.ref r_230), .val (.int (0 : Int32)), .unset, .unset]) (pc' := 118) C X273 at_116 rfl rfl ?_
            exact K118 _ _ X273 e273 N273 (0 : Int32) (fun _ => p263_0 hc66_265) (fun _ => p267_0 hc80_268) (fun _ => p270_0 hc94_271) (fun _ => p273_0 hc108_274)
          · refine Go.ifNo (pc' := 111) C X273 at_108 ((if0 _ _).trans (feq (x := r_273) (y := (0 : Int32)) hc108_274).1) rfl ?_
            refine Go.iconst (z := (1 : Int32)) (pc' := 112) C X273 at_111 rfl rfl ?_
            refine Go.goto (pc' := 116) C X273 at_112 (by decide) (by decide) ?_
            refine Go.istore (Ls' := #[.val (.int p1), .val (.int p2), .val (.int p3), .val (.int p4), .val (.int p5), .val (.int (4 : Int32)), .val (.int (p2 &&& (255 : Int32))), .val (.int (p3 &&& (255 : Int32))), .val (.int (p4 &&& (255 : Int32))), .val (.int (p5 &&& (255 : Int32))), .val (.ref r_230), .val (.int (1 : Int32)), .unset, .unset]) (pc' := 118) C X273 at_116 rfl rfl ?_
            exact K118 _ _ X273 e273 N273 (1 : Int32) (fun q => absurd q (by decide)) (fun q => absurd q (by decide)) (fun q => absurd q (by decide)) (fun q => absurd q (by decide))
        · refine Go.ifYes (pc' := 111) C X270 at_94 ((if0 _ _).trans (feq (x := r_270) (y := (0 : Int32)) hc94_271).2) (by decide) (by decide) ?_
          refine Go.iconst (z := (1 : Int32)) (pc' := 112) C X270 at_111 rfl rfl ?_
          refine Go.goto (pc' := 116) C X270 at_112 (by decide) (by decide) ?_
          refine Go.istore (Ls' := #[.val (.int p1), .val (.int p2), .val (.int p3), .val (.int p4), .val (.int p5), .val (.int (4 : Int32)), .val (.int (p2 &&& (255 : Int32))), .val (.int (p3 &&& (255 : Int32))), .val (.int (p4 &&& (255 : Int32))), .val (.int (p5 &&& (255 : Int32))), .val (.ref r_230), .val (.int (1 : Int32)), .unset, .unset]) (pc' := 118) C X270 at_116 rfl rfl ?_
          exact K118 _ _ X270 e270 N270 (1 : Int32) (fun q => absurd q (by decide)) (fun q => absurd q (by decide)) (fun q => absurd q (by decide)) (fun q => absurd q (by decide))
      · refine Go.ifYes (pc' := 111) C X267 at_80 ((if0 _ _).trans (feq (x := r_267) (y := (0 : Int32)) hc80_268).2) (by decide) (by decide) ?_
        refine Go.iconst (z := (1 : Int32)) (pc' := 112) C X267 at_111 rfl rfl ?_
        refine Go.goto (pc' := 116) C X267 at_112 (by decide) (by decide) ?_
        refine Go.istore (Ls' := #[.val (.int p1), .val (.int p2), .val (.int p3), .val (.int p4), .val (.int p5), .val (.int (4 : Int32)), .val (.int (p2 &&& (255 : Int32))), .val (.int (p3 &&& (255 : Int32))), .val (.int (p4 &&& (255 : Int32))), .val (.int (p5 &&& (255 : Int32))), .val (.ref r_230), .val (.int (1 : Int32)), .unset, .unset]) (pc' := 118) C X267 at_116 rfl rfl ?_
        exact K118 _ _ X267 e267 N267 (1 : Int32) (fun q => absurd q (by decide)) (fun q => absurd q (by decide)) (fun q => absurd q (by decide)) (fun q => absurd q (by decide))
    · refine Go.ifYes (pc' := 111) C X263 at_66 ((if0 _ _).trans (feq (x := r_263) (y := (0 : Int32)) hc66_265).2) (by decide) (by decide) ?_
      refine Go.iconst (z := (1 : Int32)) (pc' := 112) C X263 at_111 rfl rfl ?_
      refine Go.goto (pc' := 116) C X263 at_112 (by decide) (by decide) ?_
      refine Go.istore (Ls' := #[.val (.int p1), .val (.int p2), .val (.int p3), .val (.int p4), .val (.int p5), .val (.int (4 : Int32)), .val (.int (p2 &&& (255 : Int32))), .val (.int (p3 &&& (255 : Int32))), .val (.int (p4 &&& (255 : Int32))), .val (.int (p5 &&& (255 : Int32))), .val (.ref r_230), .val (.int (1 : Int32)), .unset, .unset]) (pc' := 118) C X263 at_116 rfl rfl ?_
      exact K118 _ _ X263 e263 N263 (1 : Int32) (fun q => absurd q (by decide)) (fun q => absurd q (by decide)) (fun q => absurd q (by decide)) (fun q => absurd q (by decide))
theorem eqI_v {args : Array Value} {Z : State} {t : Term} {x n : Int32} (h : t.eval args Z none [] Z = some (.int x)) : (Jvm.Cond.eq t (.int n)).value args Z none Z [] = some (decide (x = n)) := by simp [Cond.value, Term.eval, h]
theorem own_eqI {args : Array Value} {Z : State} {t : Term} {n : Int32} (h : (Jvm.Cond.eq t (.int n)).value args Z none Z [] = some true) : t.eval args Z none [] Z = some (.int n) := by
  simp only [Cond.value, Term.eval] at h
  cases ht : t.eval args Z none [] Z with
  | none => simp [ht] at h
  | some x => cases x <;> simp [ht] at h ⊢; exact h
theorem own_cat {v : Value} (h : v.isRef = true) : v.category = 1 := by cases v <;> simp [Value.isRef, Value.category] at *
def tabv : List Int32 := [1207963663, 1207963663, 1207963663, 1207963663, 1207963663, 1207963663, 1207963663, 1207963663, 1207963663, 1476411407, 1342193679, 1476411407, 1610629135, 1342193679, 1207963663, 1207963663, 1207963663, 1207963663, 1207963663, 1207963663, 1207963663, 1207963663, 1207963663, 1207963663, 1207963663, 1207963663, 1207963663, 1207963663, 1342193679, 1342193679, 1342193679, 1476411407, 1610629132, 1744830488, 1744830488, 671088664, 671113242, 671088664, 1744830488, 1744830488, -402653163, -402653162, 1744830488, 536870937, 939524120, 536870932, 939524120, 939524120, 402667017, 402667017, 402667017, 402667017, 402667017, 402667017, 402667017, 402667017, 402667017, 402667017, 939524120, 1744830488, -402653159, 1744830489, -402653159, 1744830488, 1744830488, 8552417, 8552417, 8552417, 8552417, 8552417, 8552417, 8552417, 8552417, 8552417, 8552417, 8552417, 8552417, 8552417, 8552417, 8552417, 8552417, 8552417, 8552417, 8552417, 8552417, 8552417, 8552417, 8552417, 8552417, 8552417, 8552417, -402653163, 1744830488, -402653162, 1744830491, 1744850967, 1744830491, 8486882, 8486882, 8486882, 8486882, 8486882, 8486882, 8486882, 8486882, 8486882, 8486882, 8486882, 8486882, 8486882, 8486882, 8486882, 8486882, 8486882, 8486882, 8486882, 8486882, 8486882, 8486882, 8486882, 8486882, 8486882, 8486882, -402653163, 1744830489, -402653162, 1744830489, 1207963663, 1207963663, 1207963663, 1207963663, 1207963663, 1207963663, 1342181391, 1207963663, 1207963663, 1207963663, 1207963663, 1207963663, 1207963663, 1207963663, 1207963663, 1207963663, 1207963663, 1207963663, 1207963663, 1207963663, 1207963663, 1207963663, 1207963663, 1207963663, 1207963663, 1207963663, 1207963663, 1207963663, 1207963663, 1207963663, 1207963663, 1207963663, 1207963663, 939524108, 1744830488, 671113242, 671113242, 671113242, 671113242, 1744830492, 1744830488, 1744830491, 1744830492, 28677, -402653155, 1744830489, 1207963664, 1744830492, 1744830491, 671088668, 671088665, 402654731, 402654731, 1744830491, 134049794, 1744830488, 1744830488, 1744830491, 402654475, 28677, -402653154, 1744832523, 1744832523, 1744832523, 1744830488, 8548353, 8548353, 8548353, 8548353, 8548353, 8548353, 8548353, 8548353, 8548353, 8548353, 8548353, 8548353, 8548353, 8548353, 8548353, 8548353, 8548353, 8548353, 8548353, 8548353, 8548353, 8548353, 8548353, 1744830489, 8548353, 8548353, 8548353, 8548353, 8548353, 8548353, 8548353, 134049794, 8482818, 8482818, 8482818, 8482818, 8482818, 8482818, 8482818, 8482818, 8482818, 8482818, 8482818, 8482818, 8482818, 8482818, 8482818, 8482818, 8482818, 8482818, 8482818, 8482818, 8482818, 8482818, 8482818, 1744830489, 8482818, 8482818, 8482818, 8482818, 8482818, 8482818, 8482818, 102592514]
set_option maxRecDepth 65536 in
theorem own_drop : jdkStatics_1.drop 17 = (List.range 256).map (fun i => Jvm.Cond.eq (.elem (.static "java/lang/CharacterDataLatin1" "A" "[I") (.int i.toInt32)) (.int (tabv.getD i 0))) := by rfl
set_option maxRecDepth 65536 in
theorem own_tab : ∀ i, i < 256 → 33 ≤ i → ¬ (tabv.getD i 0 &&& (28672 : Int32)) = (16384 : Int32) := by decide
theorem own_A {args : Array Value} {Z : State} {a : Addr} {c : Cell} (ev : (Term.static "java/lang/CharacterDataLatin1" "A" "[I").eval args Z none [] Z = some (.ref a)) (A : Arr Z Z.heap a c .int) (hs : ∀ d ∈ jdkStatics_1, d.before args Z = true) : ∀ i : Nat, 33 ≤ i → i < 256 → ∃ u : Int32, c.slots.toList[i]? = some (.int u) ∧ ¬ (u &&& (28672 : Int32)) = (16384 : Int32) := by
  intro i h1 h2
  have hm : Jvm.Cond.eq (.elem (.static "java/lang/CharacterDataLatin1" "A" "[I") (.int i.toInt32)) (.int (tabv.getD i 0)) ∈ jdkStatics_1.drop 17 := by rw [own_drop]; exact List.mem_map.mpr ⟨i, List.mem_range.mpr h2, rfl⟩
  have e := own_eqI (Cond.before_iff.mp (hs _ (List.mem_of_mem_drop hm)))
  obtain ⟨x, j, cell, e1, e2, e3, -, e5⟩ := Term.elem_spec e
  cases ev.symm.trans e1
  cases (IntBox.arrayAt_of A.1 A.2.1 A.2.2).symm.trans e3
  have ej : i.toInt32 = j := by simp only [Term.eval, Option.some.injEq, Value.int.injEq] at e2; exact e2
  rw [← ej, n32_nat (by omega)] at e5
  exact ⟨tabv.getD i 0, by rw [Array.getElem?_toList]; exact e5, own_tab i h2 h1⟩
set_option maxRecDepth 65536 in
set_option maxHeartbeats 40000000 in
theorem comes_1 {Post : Tables → Env → Array Value → State → Outcome → State → Prop} (hpost : ∀ tb e args s v u, (limb_1_1.after args s (.returned v) u = true ∧ limb_1_2.after args s (.returned v) u = true ∧ True) → ReturnedEndW s (.returned v) u (Jvm.fieldLocs frame_1_writes args s ++ Jvm.arrayLocs frame_1_arrays args s ++ Jvm.staticLocs frame_1_statics s) 24 2176 → Post tb e args s (.returned v) u) :
    ArmFor flags0 classFile x code maxLocals ret World_1 tables_1 room_1 Calls_1 rest_1 Pre_1 Post := by
  intro l hfl _ _ p e ha hc hk s m args below hf hA hF happ hP
  obtain ⟨hcalls, hrest, hpre⟩ := hP
  obtain ⟨-, -, -, hnamed, -, -, -, hat⟩ := (Spec.applies_iff hf).mp happ
  obtain ⟨hg, hn⟩ := and_e (Cond.before_iff.mp (show (Jvm.Cond.and given_1 narrow_1).before args s = true from hpre))
  obtain ⟨g1, g2⟩ := and_e hg
  obtain ⟨g3, g4⟩ := and_e g2
  obtain ⟨g5, g6⟩ := and_e g4
  obtain ⟨g7, g8⟩ := and_e g6
  obtain ⟨g9, g10⟩ := and_e g8
  obtain ⟨w0, w1, w2, w3, w4, rfl⟩ : ∃ w0 w1 w2 w3 w4 : Value, args = #[w0, w1, w2, w3, w4] := by
    have hs : args.size = 5 := by simpa [Cond.value, given_1] using g1
    obtain ⟨L⟩ := args
    match L, hs with
    | [w0, w1, w2, w3, w4], _ => exact ⟨w0, w1, w2, w3, w4, rfl⟩
  have hw := fun d (hd : d ∈ tables_1) => atoms_spec (ws := Jvm.Cond.code x code maxLocals ret :: tables_1) hat d (List.mem_cons_of_mem _ hd)
  have hfit : Fit s := fun {y c} hc i hi => by
    obtain ⟨ha, rfl⟩ := Array.getElem?_eq_some_iff.mp hc
    have q := List.all_eq_true.mp ((Array.all_eq_true_iff_forall_mem.mp hF) _ (Array.getElem_mem ha)) i (List.mem_range.mpr hi)
    simpa [Array.getElem?_eq_getElem hi] using q
  obtain ⟨hsets, hown0⟩ := atoms_of _ (rest_1_c_eq ▸ (show rest_1_c.before _ s = true from hrest))
  obtain ⟨i0, ei0⟩ := is_v g3
  obtain rfl : w0 = (.int i0) := Option.some.inj ei0
  obtain ⟨i1, ei1⟩ := is_v g5
  obtain rfl : w1 = (.int i1) := Option.some.inj ei1
  obtain ⟨i2, ei2⟩ := is_v g7
  obtain rfl : w2 = (.int i2) := Option.some.inj ei2
  obtain ⟨i3, ei3⟩ := is_v g9
  obtain rfl : w3 = (.int i3) := Option.some.inj ei3
  obtain ⟨i4, ei4⟩ := is_v g10
  obtain rfl : w4 = (.int i4) := Option.some.inj ei4
  obtain ⟨cP, vP⟩ := is_v (Cond.before_iff.mp (hsets _ (List.mem_of_getElem? (i := 1) rfl)))
  have SP := Sta.start vP (Or.inl (hsets _ (List.mem_of_getElem? (i := 0) rfl)))
  have hP : ¬ cP = (0 : Int32) := gotF (eqI_v vP) (not_v (Cond.before_iff.mp (hsets _ (List.mem_of_getElem? (i := 2) rfl))))
  obtain ⟨fm, vfm, rfm⟩ := isR_v (Cond.before_iff.mp (hsets _ (List.mem_of_getElem? (i := 8) rfl)))
  have SFs := Sta.start vfm (Or.inl (hsets _ (List.mem_of_getElem? (i := 7) rfl)))
  obtain ⟨ci, vci⟩ := exa_v (Cond.before_iff.mp (hsets _ (List.mem_of_getElem? (i := 11) rfl)))
  have SIs := Sta.start vci (Or.inl (hsets _ (List.mem_of_getElem? (i := 10) rfl)))
  have Ecs := Exa.start vci (Cond.before_iff.mp (hsets _ (List.mem_of_getElem? (i := 11) rfl)))
  obtain ⟨ta, vta⟩ := exa_v (Cond.before_iff.mp (hsets _ (List.mem_of_getElem? (i := 15) rfl)))
  have SAs := Sta.start vta (Or.inl (hsets _ (List.mem_of_getElem? (i := 13) rfl)))
  obtain ⟨cA, rA⟩ := Arr.start vta (Cond.before_iff.mp (hsets _ (List.mem_of_getElem? (i := 14) rfl)))
  have AAs : AL s s.heap ta cA.cls .int cA.slots.toList := ⟨cA, rA, rfl, by simp⟩
  have hT := own_A vta rA hsets
  obtain ⟨n, o, h1, h2, h3, _, L, rfl, ⟨rfl, N, -⟩, -, hq⟩ := rm_law l s _ hw i0 i1 i2 i3 i4 cP fm ci ta cA.cls cA.slots.toList s.heap (Ext.refl _) SP SFs SIs Ecs SAs AAs hP hT (own_cat rfm) tables_1 p e ha hc hk s m _ below hf ((Spec.applies_iff_loose hf).mp happ).1 ⟨rfl, State.Warmed39.refl s, rfl, CHv.start (EWc hw) (fun p hp => hcalls.1 p hp) (hsets _ (List.mem_of_getElem? (i := 2) rfl)) (tw hw 20 rfl) (tw hw 6 rfl), fun _ hx => nomatch hx⟩ trivial
  refine ⟨n, _, h1, h2, h3, hpost _ _ _ _ _ _ ⟨Cond.after_iff.mpr rfl, Cond.after_iff.mpr (eq_i res_at (Term.int_eval (1)) rfl), trivial⟩ ⟨hq.1, hq.2.1, hq.2.2.1, (hq.2.2.2.sift fun y hy => Or.inr (N y hy)).mono (by decide) (by decide)⟩⟩
theorem main_1_1 : Claimed_1_1 := comes_1 fun _ _ _ _ _ _ h hF => ⟨h.1, hF⟩
theorem main_1_2 : Claimed_1_2 := comes_1 fun _ _ _ _ _ _ h hF => ⟨h.2.1, hF⟩
end Jvm.Pilot.@@N@@
namespace Jvm.Pilot.@@N@@
open Jvm Jvm.ClassFile Sem Op Lib Jvm.Free Jvm.Stand Jvm.Pilot.@@N@@.Jvm.D
/-! MADE BY PROGRAM (witnessworld.py) out of the Statement's table words and the real class files: 22 classes; the members and pool entries that the words name. The judged class is class 1, her method 1. -/
namespace start1
open Jvm.ClassFile
def u (s : String) : CpInfo := .utf8 (stringToUtf16 s)
/-- a pool by its gaps: so many unusable entries, then the entry; so many at the end -/
def gap : Nat → List CpInfo → List CpInfo
  | 0, r => r
  | n + 1, r => .unusable :: gap n r
def poolList (es : List (Nat × CpInfo)) (last : Nat) : List CpInfo := es.foldr (fun e r => gap e.1 (e.2 :: r)) (gap last [])
def pool (es : List (Nat × CpInfo)) (last : Nat) : Array CpInfo := ⟨poolList es last⟩
def fileOf (pool : Array CpInfo) (this : Nat) (attrs : Array Attribute := #[]) (ms : Array MethodInfo := #[]) (fl : Nat := 33) (sup : Nat := 0) (ifs : Array Nat := #[]) (fds : Array FieldInfo := #[]) : ClassFile where
  minorVersion := 0
  majorVersion := 65
  constantPool := pool
  accessFlags := fl
  thisClass := this
  superClass := sup
  interfaces := ifs
  fields := fds
  methods := ms
  attributes := attrs
def plain (name : String) (sup : Option ClassId) : Class where
  name := name
  kind := .ordinary
  loader := none
  accessFlags := 33
  super := sup
  interfaces := #[]
  cf := none
  fields := #[]
  methods := #[]
  instanceTypes := #[]
  staticTypes := #[]
  resolved := #[]
  callSites := []
  init := .initialized
  statics := none
  mirror := none

def pool0 : Array CpInfo := pool [(5, u "<init>"), (0, u "()V"), (1, .class_ 10), (1, u "java/lang/Object")] 113

def k0c0 : Code := { maxStack := 0, maxLocals := 1, code := object_method_1_code, exceptionTable := #[], attributes := #[] }
def k0m0 : Method := { name := "<init>", desc := "()V", sig := { parameters := [], returnType := none }, accessFlags := 1, code := some k0c0 }
/-- java/lang/Object -/
def k0 : Class := { plain "java/lang/Object" none with
  accessFlags := 33
  interfaces := #[]
  cf := some (fileOf pool0 8 #[] #[{ accessFlags := 1, nameIndex := 5, descriptorIndex := 6, attributes := #[] }] 33 0 #[] #[])
  fields := #[]
  methods := #[k0m0]
  instanceTypes := #[]
  staticTypes := #[]
  resolved := Array.replicate 124 none
  statics := none }

def pool1 : Array CpInfo := pool [(2, .class_ 4), (1, u "java/lang/Object"), (0, u "<init>"), (0, u "()V"), (0, .integer 2147483647), (0, .methodref 9 10), (0, .class_ 11), (0, .nameAndType 12 13), (0, u "com/example/tranche/tranche/NotationNamePinLaw"), (0, u "text"), (0, u "(ICCCC)Ljava/lang/String;"), (0, .methodref 9 15), (0, .nameAndType 16 17), (0, u "isControl"), (0, u "(C)Z"), (0, .string 19), (0, u "key"), (0, .methodref 21 22), (0, .class_ 23), (0, .nameAndType 24 25), (0, u "com/example/tranche/tranche/Notation"), (0, u "name"), (0, u "(Ljava/lang/String;Ljava/lang/String;)Ljava/lang/String;"), (0, .class_ 27), (0, u "java/lang/String"), (0, .methodref 26 29), (0, .nameAndType 5 30), (0, u "([C)V"), (2, u "law"), (0, u "(IIIII)Z")] 3

def k1m0 : Method := { name := "<init>", desc := "()V", sig := { parameters := [], returnType := none }, accessFlags := 2, code := none }
def k1c1 : Code := { maxStack := 5, maxLocals := 14, code := code, exceptionTable := #[], attributes := #[] }
def k1m1 : Method := { name := "law", desc := "(IIIII)Z", sig := { parameters := [.int, .int, .int, .int, .int], returnType := some .boolean }, accessFlags := 9, code := some k1c1 }
def k1c2 : Code := { maxStack := 2, maxLocals := 1, code := method_3_code, exceptionTable := #[], attributes := #[] }
def k1m2 : Method := { name := "isControl", desc := "(C)Z", sig := { parameters := [.char], returnType := some .boolean }, accessFlags := 10, code := some k1c2 }
def k1c3 : Code := { maxStack := 6, maxLocals := 5, code := method_4_code, exceptionTable := #[], attributes := #[] }
def k1m3 : Method := { name := "text", desc := "(ICCCC)Ljava/lang/String;", sig := { parameters := [.int, .char, .char, .char, .char], returnType := some (.object "java/lang/String") }, accessFlags := 10, code := some k1c3 }
/-- com/example/tranche/tranche/NotationNamePinLaw -/
def k1 : Class := { plain "com/example/tranche/tranche/NotationNamePinLaw" (some 0) with
  accessFlags := 49
  interfaces := #[]
  cf := some (fileOf pool1 9 #[] #[{ accessFlags := 2, nameIndex := 5, descriptorIndex := 6, attributes := #[] }, { accessFlags := 9, nameIndex := 33, descriptorIndex := 34, attributes := #[] }, { accessFlags := 10, nameIndex := 16, descriptorIndex := 17, attributes := #[] }, { accessFlags := 10, nameIndex := 12, descriptorIndex := 13, attributes := #[] }] 49 2 #[] #[])
  fields := #[]
  methods := #[k1m0, k1m1, k1m2, k1m3]
  instanceTypes := #[]
  staticTypes := #[]
  resolved := Array.replicate 38 none
  statics := none }

def pool2 : Array CpInfo := pool [(1, .class_ 2), (0, u "java/io/Serializable"), (0, .class_ 4), (0, u "java/lang/Object")] 2

/-- java/io/Serializable -/
def k2 : Class := { plain "java/io/Serializable" (some 0) with
  accessFlags := 1537
  interfaces := #[]
  cf := some (fileOf pool2 1 #[] #[] 1537 3 #[] #[])
  fields := #[]
  methods := #[]
  instanceTypes := #[]
  staticTypes := #[]
  resolved := Array.replicate 7 none
  statics := none }

def pool3 : Array CpInfo := pool [(1, .class_ 2), (0, u "java/lang/Comparable"), (0, .class_ 4), (0, u "java/lang/Object")] 7

/-- java/lang/Comparable -/
def k3 : Class := { plain "java/lang/Comparable" (some 0) with
  accessFlags := 1537
  interfaces := #[]
  cf := some (fileOf pool3 1 #[] #[] 1537 3 #[] #[])
  fields := #[]
  methods := #[]
  instanceTypes := #[]
  staticTypes := #[]
  resolved := Array.replicate 12 none
  statics := none }

def pool4 : Array CpInfo := pool [(2, .class_ 4), (1, u "java/lang/CharSequence"), (42, .class_ 48), (0, u "java/lang/CharSequence$1CodePointIterator"), (10, .class_ 60), (0, u "java/lang/CharSequence$1CharIterator"), (5, .class_ 67), (0, u "java/lang/Object")] 63

/-- java/lang/CharSequence -/
def k4 : Class := { plain "java/lang/CharSequence" (some 0) with
  accessFlags := 1537
  interfaces := #[]
  cf := some (fileOf pool4 2 #[.nestMembers #[47, 59]] #[] 1537 66 #[] #[])
  fields := #[]
  methods := #[]
  instanceTypes := #[]
  staticTypes := #[]
  resolved := Array.replicate 131 none
  statics := none }

def pool5 : Array CpInfo := pool [(1, .class_ 2), (0, u "java/lang/constant/Constable"), (0, .class_ 4), (0, u "java/lang/Object")] 6

/-- java/lang/constant/Constable -/
def k5 : Class := { plain "java/lang/constant/Constable" (some 0) with
  accessFlags := 1537
  interfaces := #[]
  cf := some (fileOf pool5 1 #[] #[] 1537 3 #[] #[])
  fields := #[]
  methods := #[]
  instanceTypes := #[]
  staticTypes := #[]
  resolved := Array.replicate 11 none
  statics := none }

def pool6 : Array CpInfo := pool [(1, .class_ 2), (0, u "java/lang/constant/ConstantDesc"), (0, .class_ 4), (0, u "java/lang/Object")] 32

/-- java/lang/constant/ConstantDesc -/
def k6 : Class := { plain "java/lang/constant/ConstantDesc" (some 0) with
  accessFlags := 1537
  interfaces := #[]
  cf := some (fileOf pool6 1 #[] #[] 1537 3 #[] #[])
  fields := #[]
  methods := #[]
  instanceTypes := #[]
  staticTypes := #[]
  resolved := Array.replicate 37 none
  statics := none }

def pool7 : Array CpInfo := pool [(1, .methodref 2 3), (0, .class_ 4), (0, .nameAndType 5 6), (0, u "java/lang/Object"), (0, u "<init>"), (0, u "()V"), (0, .string 8), (0, u ""), (0, .fieldref 10 11), (0, .class_ 12), (0, .nameAndType 13 14), (0, u "java/lang/String"), (0, u "value"), (0, u "[B"), (0, .fieldref 10 16), (0, .nameAndType 17 18), (0, u "coder"), (0, u "B"), (2, u "hash"), (0, u "I"), (2, u "hashIsZero"), (0, u "Z"), (0, .methodref 10 28), (0, .nameAndType 5 29), (0, u "([CIILjava/lang/Void;)V"), (8, .fieldref 10 39), (0, .nameAndType 40 26), (0, u "COMPACT_STRINGS"), (1, .class_ 44), (1, u "java/lang/StringUTF16"), (0, u "compress"), (1, .methodref 42 48), (0, .nameAndType 49 50), (0, u "coderFromArrayLen"), (0, u "([BI)B"), (56, .class_ 109), (1, u "java/lang/StringLatin1"), (32, u "()Z"), (34, .methodref 42 178), (0, .nameAndType 45 179), (0, u "([CII)[B"), (154, u "()I"), (0, .methodref 10 336), (0, .nameAndType 17 337), (0, u "()B"), (25, u "([BI)C"), (27, u "(II)V"), (35, u "(I)C"), (64, .methodref 10 493), (0, .nameAndType 494 142), (0, u "isLatin1"), (0, .methodref 107 496), (0, .nameAndType 497 363), (0, u "charAt"), (3, u "checkIndex"), (3, .methodref 10 506), (0, .nameAndType 507 334), (0, u "length"), (67, .class_ 576), (0, u "java/lang/CharSequence"), (22, u "CASE_INSENSITIVE_ORDER"), (0, u "Ljava/util/Comparator;"), (30, u "([B)I"), (244, .methodref 10 877), (0, .nameAndType 878 334), (0, u "indexOfNonWhitespace"), (45, .methodref 107 925), (0, .nameAndType 878 631), (26, u "isBlank"), (57, u "([C)V"), (42, .fieldref 1054 1055), (0, .class_ 1056), (0, .nameAndType 1057 1058), (0, u "jdk/internal/util/Preconditions"), (0, u "SIOOBE_FORMATTER"), (0, u "Ljava/util/function/BiFunction;"), (0, .methodref 1054 1060), (0, .nameAndType 501 1061), (0, u "(IILjava/util/function/BiFunction;)I"), (39, u "serialPersistentFields"), (0, u "[Ljava/io/ObjectStreamField;"), (0, .class_ 1104), (0, u "java/lang/String$CaseInsensitiveComparator"), (1, .class_ 1107), (0, u "java/io/Serializable"), (0, .class_ 1109), (0, u "java/lang/Comparable"), (0, .class_ 1111), (0, u "java/lang/constant/Constable"), (0, .class_ 1113), (0, u "java/lang/constant/ConstantDesc"), (2, u "serialVersionUID"), (0, u "J"), (3, u "REPL"), (0, u "C"), (2, u "LATIN1"), (1, u "UTF16")] 323

def k7m0 : Method := { name := "<init>", desc := "()V", sig := { parameters := [], returnType := none }, accessFlags := 1, code := none }
def k7c1 : Code := { maxStack := 5, maxLocals := 2, code := jdk_42_method_3_code, exceptionTable := #[], attributes := #[] }
def k7m1 : Method := { name := "<init>", desc := "([C)V", sig := { parameters := [(.array .char)], returnType := none }, accessFlags := 1, code := some k7c1 }
def k7c2 : Code := { maxStack := 2, maxLocals := 1, code := jdk_42_method_54_code, exceptionTable := #[], attributes := #[] }
def k7m2 : Method := { name := "length", desc := "()I", sig := { parameters := [], returnType := some .int }, accessFlags := 1, code := some k7c2 }
def k7c3 : Code := { maxStack := 2, maxLocals := 2, code := jdk_42_method_56_code, exceptionTable := #[], attributes := #[] }
def k7m3 : Method := { name := "charAt", desc := "(I)C", sig := { parameters := [.int], returnType := some .char }, accessFlags := 1, code := some k7c3 }
def k7c4 : Code := { maxStack := 2, maxLocals := 1, code := jdk_42_method_117_code, exceptionTable := #[], attributes := #[] }
def k7m4 : Method := { name := "isBlank", desc := "()Z", sig := { parameters := [], returnType := some .boolean }, accessFlags := 1, code := some k7c4 }
def k7c5 : Code := { maxStack := 1, maxLocals := 1, code := jdk_42_method_120_code, exceptionTable := #[], attributes := #[] }
def k7m5 : Method := { name := "indexOfNonWhitespace", desc := "()I", sig := { parameters := [], returnType := some .int }, accessFlags := 2, code := some k7c5 }
def k7c6 : Code := { maxStack := 4, maxLocals := 6, code := jdk_42_method_149_code, exceptionTable := #[], attributes := #[] }
def k7m6 : Method := { name := "<init>", desc := "([CIILjava/lang/Void;)V", sig := { parameters := [(.array .char), .int, .int, (.object "java/lang/Void")], returnType := none }, accessFlags := 2, code := some k7c6 }
def k7c7 : Code := { maxStack := 1, maxLocals := 1, code := jdk_42_method_152_code, exceptionTable := #[], attributes := #[] }
def k7m7 : Method := { name := "coder", desc := "()B", sig := { parameters := [], returnType := some .byte }, accessFlags := 0, code := some k7c7 }
def k7c8 : Code := { maxStack := 1, maxLocals := 1, code := jdk_42_method_154_code, exceptionTable := #[], attributes := #[] }
def k7m8 : Method := { name := "isLatin1", desc := "()Z", sig := { parameters := [], returnType := some .boolean }, accessFlags := 0, code := some k7c8 }
def k7c9 : Code := { maxStack := 3, maxLocals := 2, code := jdk_42_method_155_code, exceptionTable := #[], attributes := #[] }
def k7m9 : Method := { name := "checkIndex", desc := "(II)V", sig := { parameters := [.int, .int], returnType := none }, accessFlags := 8, code := some k7c9 }
/-- java/lang/String -/
def k7 : Class := { plain "java/lang/String" (some 0) with
  accessFlags := 49
  interfaces := #[2, 3, 4, 5, 6]
  cf := some (fileOf pool7 10 #[.nestMembers #[1103]] #[{ accessFlags := 1, nameIndex := 5, descriptorIndex := 6, attributes := #[] }, { accessFlags := 1, nameIndex := 5, descriptorIndex := 1010, attributes := #[] }, { accessFlags := 1, nameIndex := 507, descriptorIndex := 334, attributes := #[] }, { accessFlags := 1, nameIndex := 497, descriptorIndex := 427, attributes := #[] }, { accessFlags := 1, nameIndex := 952, descriptorIndex := 142, attributes := #[] }, { accessFlags := 2, nameIndex := 878, descriptorIndex := 334, attributes := #[] }, { accessFlags := 2, nameIndex := 5, descriptorIndex := 29, attributes := #[] }, { accessFlags := 0, nameIndex := 17, descriptorIndex := 337, attributes := #[] }, { accessFlags := 0, nameIndex := 494, descriptorIndex := 142, attributes := #[] }, { accessFlags := 8, nameIndex := 501, descriptorIndex := 391, attributes := #[] }] 49 2 #[1106, 1108, 575, 1110, 1112] #[{ accessFlags := 18, nameIndex := 13, descriptorIndex := 14, attributes := #[] }, { accessFlags := 18, nameIndex := 17, descriptorIndex := 18, attributes := #[] }, { accessFlags := 2, nameIndex := 21, descriptorIndex := 22, attributes := #[] }, { accessFlags := 2, nameIndex := 25, descriptorIndex := 26, attributes := #[] }, { accessFlags := 26, nameIndex := 1116, descriptorIndex := 1117, attributes := #[] }, { accessFlags := 24, nameIndex := 40, descriptorIndex := 26, attributes := #[] }, { accessFlags := 26, nameIndex := 1101, descriptorIndex := 1102, attributes := #[] }, { accessFlags := 26, nameIndex := 1121, descriptorIndex := 1122, attributes := #[] }, { accessFlags := 25, nameIndex := 599, descriptorIndex := 600, attributes := #[] }, { accessFlags := 24, nameIndex := 1125, descriptorIndex := 18, attributes := #[] }, { accessFlags := 24, nameIndex := 1127, descriptorIndex := 18, attributes := #[] }])
  fields := #[{ name := "value", type := (.array .byte), accessFlags := 18, slot := 0, constantValue := 0 }, { name := "coder", type := .byte, accessFlags := 18, slot := 1, constantValue := 0 }, { name := "hash", type := .int, accessFlags := 2, slot := 2, constantValue := 0 }, { name := "hashIsZero", type := .boolean, accessFlags := 2, slot := 3, constantValue := 0 }, { name := "serialVersionUID", type := .long, accessFlags := 26, slot := 0, constantValue := 0 }, { name := "COMPACT_STRINGS", type := .boolean, accessFlags := 24, slot := 1, constantValue := 0 }, { name := "serialPersistentFields", type := (.array (.object "java/io/ObjectStreamField")), accessFlags := 26, slot := 2, constantValue := 0 }, { name := "REPL", type := .char, accessFlags := 26, slot := 3, constantValue := 0 }, { name := "CASE_INSENSITIVE_ORDER", type := (.object "java/util/Comparator"), accessFlags := 25, slot := 4, constantValue := 0 }, { name := "LATIN1", type := .byte, accessFlags := 24, slot := 5, constantValue := 0 }, { name := "UTF16", type := .byte, accessFlags := 24, slot := 6, constantValue := 0 }]
  methods := #[k7m0, k7m1, k7m2, k7m3, k7m4, k7m5, k7m6, k7m7, k7m8, k7m9]
  instanceTypes := #[(.array .byte), .byte, .int, .boolean]
  staticTypes := #[.long, .boolean, (.array (.object "java/io/ObjectStreamField")), .char, (.object "java/util/Comparator"), .byte, .byte]
  resolved := Array.replicate 1451 none
  statics := some 0 }

def pool8 : Array CpInfo := pool [(6, .class_ 8), (1, u "java/lang/Object"), (0, u "<init>"), (0, u "()V"), (1, .class_ 14), (1, u "java/lang/StringUTF16"), (31, u "$assertionsDisabled"), (0, u "Z"), (13, u "HI_BYTE_SHIFT"), (0, u "I"), (2, u "LO_BYTE_SHIFT"), (49, .methodref 12 116), (0, .nameAndType 117 118), (0, u "compress"), (0, u "([CI[BII)I"), (3, u "([CII)[B"), (138, u "coderFromArrayLen"), (0, u "([BI)B"), (106, .class_ 371), (1, u "java/lang/StringUTF16$LinesSpliterator"), (58, u "MAX_LENGTH"), (196, .class_ 628), (0, u "java/lang/StringUTF16$CodePointsSpliterator"), (0, .class_ 630), (0, u "java/lang/StringUTF16$CharsSpliterator")] 4

def k8m0 : Method := { name := "<init>", desc := "()V", sig := { parameters := [], returnType := none }, accessFlags := 0, code := none }
def k8c1 : Code := { maxStack := 2, maxLocals := 2, code := jdk_52_method_15_code, exceptionTable := #[], attributes := #[] }
def k8m1 : Method := { name := "coderFromArrayLen", desc := "([BI)B", sig := { parameters := [(.array .byte), .int], returnType := some .byte }, accessFlags := 8, code := some k8c1 }
def k8c2 : Code := { maxStack := 5, maxLocals := 6, code := jdk_52_method_16_code, exceptionTable := #[], attributes := #[] }
def k8m2 : Method := { name := "compress", desc := "([CII)[B", sig := { parameters := [(.array .char), .int, .int], returnType := some (.array .byte) }, accessFlags := 9, code := some k8c2 }
def k8c3 : Code := { maxStack := 3, maxLocals := 7, code := jdk_52_method_21_code, exceptionTable := #[], attributes := #[] }
def k8m3 : Method := { name := "compress", desc := "([CI[BII)I", sig := { parameters := [(.array .char), .int, (.array .byte), .int, .int], returnType := some .int }, accessFlags := 9, code := some k8c3 }
/-- java/lang/StringUTF16 -/
def k8 : Class := { plain "java/lang/StringUTF16" (some 0) with
  accessFlags := 48
  interfaces := #[]
  cf := some (fileOf pool8 12 #[.nestMembers #[627, 629, 369]] #[{ accessFlags := 0, nameIndex := 9, descriptorIndex := 10, attributes := #[] }, { accessFlags := 8, nameIndex := 261, descriptorIndex := 262, attributes := #[] }, { accessFlags := 9, nameIndex := 117, descriptorIndex := 122, attributes := #[] }, { accessFlags := 9, nameIndex := 117, descriptorIndex := 118, attributes := #[] }] 48 6 #[] #[{ accessFlags := 26, nameIndex := 61, descriptorIndex := 62, attributes := #[] }, { accessFlags := 26, nameIndex := 65, descriptorIndex := 62, attributes := #[] }, { accessFlags := 24, nameIndex := 430, descriptorIndex := 62, attributes := #[] }, { accessFlags := 4120, nameIndex := 46, descriptorIndex := 47, attributes := #[] }])
  fields := #[{ name := "HI_BYTE_SHIFT", type := .int, accessFlags := 26, slot := 0, constantValue := 0 }, { name := "LO_BYTE_SHIFT", type := .int, accessFlags := 26, slot := 1, constantValue := 0 }, { name := "MAX_LENGTH", type := .int, accessFlags := 24, slot := 2, constantValue := 0 }, { name := "$assertionsDisabled", type := .boolean, accessFlags := 4120, slot := 3, constantValue := 0 }]
  methods := #[k8m0, k8m1, k8m2, k8m3]
  instanceTypes := #[]
  staticTypes := #[.int, .int, .int, .boolean]
  resolved := Array.replicate 635 none
  statics := none }

def pool9 : Array CpInfo := pool [(2, .class_ 4), (1, u "java/lang/Object"), (0, u "<init>"), (0, u "()V"), (0, .methodref 8 9), (0, .class_ 10), (0, .nameAndType 11 12), (0, u "java/lang/String"), (0, u "isBlank"), (0, u "()Z"), (9, .methodref 23 24), (0, .class_ 25), (0, .nameAndType 26 27), (0, u "com/example/tranche/tranche/Notation"), (0, u "holdsControl"), (0, u "(Ljava/lang/String;)Z"), (19, u "(Ljava/lang/String;Ljava/lang/String;)Ljava/lang/String;"), (7, .methodref 8 56), (0, .nameAndType 57 58), (0, u "length"), (0, u "()I"), (22, .methodref 8 82), (0, .nameAndType 83 84), (0, u "charAt"), (0, u "(I)C"), (72, u "MAX_DIGITS"), (0, u "I"), (2, u "LONG_DIGITS"), (1, u "MAX_WHOLE_DIGITS"), (1, u "DELETE"), (1, u "DATE_LENGTH"), (1, u "YEAR_END"), (1, u "MONTH_END"), (1, u "DAY_OF_YEAR_LENGTH"), (1, u "MONTH_DIGITS"), (1, u "LEAP_DAY"), (3, u "name")] 49

def k9m0 : Method := { name := "<init>", desc := "()V", sig := { parameters := [], returnType := none }, accessFlags := 2, code := none }
def k9c1 : Code := { maxStack := 3, maxLocals := 2, code := prog_14_method_2_code, exceptionTable := #[], attributes := #[] }
def k9m1 : Method := { name := "name", desc := "(Ljava/lang/String;Ljava/lang/String;)Ljava/lang/String;", sig := { parameters := [(.object "java/lang/String"), (.object "java/lang/String")], returnType := some (.object "java/lang/String") }, accessFlags := 9, code := some k9c1 }
def k9c2 : Code := { maxStack := 2, maxLocals := 2, code := prog_14_method_12_code, exceptionTable := #[], attributes := #[] }
def k9m2 : Method := { name := "holdsControl", desc := "(Ljava/lang/String;)Z", sig := { parameters := [(.object "java/lang/String")], returnType := some .boolean }, accessFlags := 10, code := some k9c2 }
/-- com/example/tranche/tranche/Notation -/
def k9 : Class := { plain "com/example/tranche/tranche/Notation" (some 0) with
  accessFlags := 49
  interfaces := #[]
  cf := some (fileOf pool9 23 #[] #[{ accessFlags := 2, nameIndex := 5, descriptorIndex := 6, attributes := #[] }, { accessFlags := 9, nameIndex := 181, descriptorIndex := 47, attributes := #[] }, { accessFlags := 10, nameIndex := 26, descriptorIndex := 27, attributes := #[] }] 49 2 #[] #[{ accessFlags := 26, nameIndex := 157, descriptorIndex := 158, attributes := #[] }, { accessFlags := 26, nameIndex := 161, descriptorIndex := 158, attributes := #[] }, { accessFlags := 26, nameIndex := 163, descriptorIndex := 158, attributes := #[] }, { accessFlags := 26, nameIndex := 165, descriptorIndex := 158, attributes := #[] }, { accessFlags := 26, nameIndex := 167, descriptorIndex := 158, attributes := #[] }, { accessFlags := 26, nameIndex := 169, descriptorIndex := 158, attributes := #[] }, { accessFlags := 26, nameIndex := 171, descriptorIndex := 158, attributes := #[] }, { accessFlags := 26, nameIndex := 173, descriptorIndex := 158, attributes := #[] }, { accessFlags := 26, nameIndex := 175, descriptorIndex := 158, attributes := #[] }, { accessFlags := 26, nameIndex := 177, descriptorIndex := 158, attributes := #[] }])
  fields := #[{ name := "MAX_DIGITS", type := .int, accessFlags := 26, slot := 0, constantValue := 0 }, { name := "LONG_DIGITS", type := .int, accessFlags := 26, slot := 1, constantValue := 0 }, { name := "MAX_WHOLE_DIGITS", type := .int, accessFlags := 26, slot := 2, constantValue := 0 }, { name := "DELETE", type := .int, accessFlags := 26, slot := 3, constantValue := 0 }, { name := "DATE_LENGTH", type := .int, accessFlags := 26, slot := 4, constantValue := 0 }, { name := "YEAR_END", type := .int, accessFlags := 26, slot := 5, constantValue := 0 }, { name := "MONTH_END", type := .int, accessFlags := 26, slot := 6, constantValue := 0 }, { name := "DAY_OF_YEAR_LENGTH", type := .int, accessFlags := 26, slot := 7, constantValue := 0 }, { name := "MONTH_DIGITS", type := .int, accessFlags := 26, slot := 8, constantValue := 0 }, { name := "LEAP_DAY", type := .int, accessFlags := 26, slot := 9, constantValue := 0 }]
  methods := #[k9m0, k9m1, k9m2]
  instanceTypes := #[]
  staticTypes := #[.int, .int, .int, .int, .int, .int, .int, .int, .int, .int]
  resolved := Array.replicate 231 none
  statics := none }

def pool10 : Array CpInfo := pool [(1, .class_ 2), (0, u "java/lang/String"), (1, .class_ 6), (1, u "java/lang/Object"), (0, u "<init>"), (0, u "()V"), (0, .methodref 1 10), (0, .nameAndType 11 12), (0, u "checkIndex"), (0, u "(II)V"), (1, .class_ 16), (1, u "java/lang/StringLatin1"), (33, .methodref 14 51), (0, .nameAndType 52 53), (0, u "getChar"), (0, u "([BI)C"), (3, u "([B)I"), (8, .fieldref 67 68), (0, .class_ 69), (0, .nameAndType 70 71), (0, u "java/lang/CharacterDataLatin1"), (0, u "instance"), (0, u "Ljava/lang/CharacterDataLatin1;"), (19, u "(I)Z"), (29, u "$assertionsDisabled"), (0, u "Z"), (88, .methodref 67 212), (0, .nameAndType 213 91), (0, u "isWhitespace"), (2, u "indexOfNonWhitespace"), (4, .class_ 223), (1, u "java/lang/StringLatin1$LinesSpliterator"), (28, u "charAt"), (137, .class_ 391), (0, u "java/lang/StringLatin1$CharsSpliterator")] 3

def k10m0 : Method := { name := "<init>", desc := "()V", sig := { parameters := [], returnType := none }, accessFlags := 0, code := none }
def k10c1 : Code := { maxStack := 2, maxLocals := 2, code := jdk_43_method_2_code, exceptionTable := #[], attributes := #[] }
def k10m1 : Method := { name := "charAt", desc := "([BI)C", sig := { parameters := [(.array .byte), .int], returnType := some .char }, accessFlags := 9, code := some k10c1 }
def k10c2 : Code := { maxStack := 2, maxLocals := 4, code := jdk_43_method_37_code, exceptionTable := #[], attributes := #[] }
def k10m2 : Method := { name := "indexOfNonWhitespace", desc := "([B)I", sig := { parameters := [(.array .byte)], returnType := some .int }, accessFlags := 9, code := some k10c2 }
def k10c3 : Code := { maxStack := 2, maxLocals := 2, code := jdk_43_method_44_code, exceptionTable := #[], attributes := #[] }
def k10m3 : Method := { name := "getChar", desc := "([BI)C", sig := { parameters := [(.array .byte), .int], returnType := some .char }, accessFlags := 9, code := some k10c3 }
/-- java/lang/StringLatin1 -/
def k10 : Class := { plain "java/lang/StringLatin1" (some 0) with
  accessFlags := 48
  interfaces := #[]
  cf := some (fileOf pool10 14 #[.nestMembers #[390, 221]] #[{ accessFlags := 0, nameIndex := 7, descriptorIndex := 8, attributes := #[] }, { accessFlags := 9, nameIndex := 252, descriptorIndex := 53, attributes := #[] }, { accessFlags := 9, nameIndex := 216, descriptorIndex := 57, attributes := #[] }, { accessFlags := 9, nameIndex := 52, descriptorIndex := 53, attributes := #[] }] 48 4 #[] #[{ accessFlags := 4120, nameIndex := 121, descriptorIndex := 122, attributes := #[] }])
  fields := #[{ name := "$assertionsDisabled", type := .boolean, accessFlags := 4120, slot := 0, constantValue := 0 }]
  methods := #[k10m0, k10m1, k10m2, k10m3]
  instanceTypes := #[]
  staticTypes := #[.boolean]
  resolved := Array.replicate 395 none
  statics := none }

def pool11 : Array CpInfo := pool [(2, .class_ 4), (1, u "java/lang/Object"), (0, u "<init>"), (0, u "()V"), (1, .class_ 10), (1, u "java/lang/CharacterData")] 75

def k11m0 : Method := { name := "<init>", desc := "()V", sig := { parameters := [], returnType := none }, accessFlags := 0, code := none }
/-- java/lang/CharacterData -/
def k11 : Class := { plain "java/lang/CharacterData" (some 0) with
  accessFlags := 1056
  interfaces := #[]
  cf := some (fileOf pool11 8 #[] #[{ accessFlags := 0, nameIndex := 5, descriptorIndex := 6, attributes := #[] }] 1056 2 #[] #[])
  fields := #[]
  methods := #[k11m0]
  instanceTypes := #[]
  staticTypes := #[]
  resolved := Array.replicate 86 none
  statics := none }

def pool12 : Array CpInfo := pool [(1, .fieldref 2 3), (0, .class_ 4), (0, .nameAndType 5 6), (0, u "java/lang/CharacterDataLatin1"), (0, u "A"), (0, u "[I"), (2, u "B"), (0, u "[C"), (3, u "(I)I"), (0, .methodref 2 16), (0, .nameAndType 17 14), (0, u "getProperties"), (3, u "(I)Z"), (5, u "DIGITS"), (0, u "[B"), (8, u "sharpsMap"), (1, .class_ 41), (1, u "java/lang/CharacterData"), (0, u "<init>"), (0, u "()V"), (3, u "instance"), (0, u "Ljava/lang/CharacterDataLatin1;"), (78, u "isWhitespace")] 13

def k12c0 : Code := { maxStack := 2, maxLocals := 4, code := jdk_116_method_1_code, exceptionTable := #[], attributes := #[] }
def k12m0 : Method := { name := "getProperties", desc := "(I)I", sig := { parameters := [.int], returnType := some .int }, accessFlags := 0, code := some k12c0 }
def k12c1 : Code := { maxStack := 2, maxLocals := 3, code := jdk_116_method_26_code, exceptionTable := #[], attributes := #[] }
def k12m1 : Method := { name := "isWhitespace", desc := "(I)Z", sig := { parameters := [.int], returnType := some .boolean }, accessFlags := 0, code := some k12c1 }
def k12m2 : Method := { name := "<init>", desc := "()V", sig := { parameters := [], returnType := none }, accessFlags := 2, code := none }
/-- java/lang/CharacterDataLatin1 -/
def k12 : Class := { plain "java/lang/CharacterDataLatin1" (some 11) with
  accessFlags := 32
  interfaces := #[]
  cf := some (fileOf pool12 2 #[] #[{ accessFlags := 0, nameIndex := 17, descriptorIndex := 14, attributes := #[] }, { accessFlags := 0, nameIndex := 127, descriptorIndex := 21, attributes := #[] }, { accessFlags := 2, nameIndex := 42, descriptorIndex := 43, attributes := #[] }] 32 39 #[] #[{ accessFlags := 26, nameIndex := 27, descriptorIndex := 28, attributes := #[] }, { accessFlags := 8, nameIndex := 37, descriptorIndex := 10, attributes := #[] }, { accessFlags := 24, nameIndex := 47, descriptorIndex := 48, attributes := #[] }, { accessFlags := 24, nameIndex := 5, descriptorIndex := 6, attributes := #[] }, { accessFlags := 24, nameIndex := 9, descriptorIndex := 10, attributes := #[] }])
  fields := #[{ name := "DIGITS", type := (.array .byte), accessFlags := 26, slot := 0, constantValue := 0 }, { name := "sharpsMap", type := (.array .char), accessFlags := 8, slot := 1, constantValue := 0 }, { name := "instance", type := (.object "java/lang/CharacterDataLatin1"), accessFlags := 24, slot := 2, constantValue := 0 }, { name := "A", type := (.array .int), accessFlags := 24, slot := 3, constantValue := 0 }, { name := "B", type := (.array .char), accessFlags := 24, slot := 4, constantValue := 0 }]
  methods := #[k12m0, k12m1, k12m2]
  instanceTypes := #[]
  staticTypes := #[(.array .byte), (.array .char), (.object "java/lang/CharacterDataLatin1"), (.array .int), (.array .char)]
  resolved := Array.replicate 141 none
  statics := some 1 }

def pool13 : Array CpInfo := pool [(2, .class_ 4), (1, u "java/lang/Object"), (0, u "<init>"), (0, u "()V"), (17, .class_ 26), (1, u "jdk/internal/util/Preconditions"), (6, u "checkIndex"), (21, .class_ 56), (0, u "jdk/internal/util/Preconditions$4"), (57, .class_ 115), (0, u "jdk/internal/util/Preconditions$1"), (7, u "SIOOBE_FORMATTER"), (0, u "Ljava/util/function/BiFunction;"), (0, .class_ 126), (0, u "jdk/internal/util/Preconditions$2"), (3, u "AIOOBE_FORMATTER"), (0, .class_ 132), (0, u "jdk/internal/util/Preconditions$3"), (3, u "IOOBE_FORMATTER"), (41, u "(IILjava/util/function/BiFunction;)I")] 15

def k13m0 : Method := { name := "<init>", desc := "()V", sig := { parameters := [], returnType := none }, accessFlags := 1, code := none }
def k13c1 : Code := { maxStack := 3, maxLocals := 3, code := jdk_41_method_11_code, exceptionTable := #[], attributes := #[] }
def k13m1 : Method := { name := "checkIndex", desc := "(IILjava/util/function/BiFunction;)I", sig := { parameters := [.int, .int, (.object "java/util/function/BiFunction")], returnType := some .int }, accessFlags := 9, code := some k13c1 }
/-- jdk/internal/util/Preconditions -/
def k13 : Class := { plain "jdk/internal/util/Preconditions" (some 0) with
  accessFlags := 33
  interfaces := #[]
  cf := some (fileOf pool13 24 #[.nestMembers #[55, 131, 125, 114]] #[{ accessFlags := 1, nameIndex := 5, descriptorIndex := 6, attributes := #[] }, { accessFlags := 9, nameIndex := 33, descriptorIndex := 178, attributes := #[] }] 33 2 #[] #[{ accessFlags := 25, nameIndex := 123, descriptorIndex := 124, attributes := #[] }, { accessFlags := 25, nameIndex := 130, descriptorIndex := 124, attributes := #[] }, { accessFlags := 25, nameIndex := 136, descriptorIndex := 124, attributes := #[] }])
  fields := #[{ name := "SIOOBE_FORMATTER", type := (.object "java/util/function/BiFunction"), accessFlags := 25, slot := 0, constantValue := 0 }, { name := "AIOOBE_FORMATTER", type := (.object "java/util/function/BiFunction"), accessFlags := 25, slot := 1, constantValue := 0 }, { name := "IOOBE_FORMATTER", type := (.object "java/util/function/BiFunction"), accessFlags := 25, slot := 2, constantValue := 0 }]
  methods := #[k13m0, k13m1]
  instanceTypes := #[]
  staticTypes := #[(.object "java/util/function/BiFunction"), (.object "java/util/function/BiFunction"), (.object "java/util/function/BiFunction")]
  resolved := Array.replicate 194 none
  statics := some 2 }

def pool14 : Array CpInfo := pool [(9, u "<init>"), (6, .class_ 18), (1, u "java/lang/Object"), (0, u "()V"), (1, .class_ 23), (1, u "jdk/internal/util/ArraysSupport"), (0, u "LOG2_ARRAY_LONG_INDEX_SCALE"), (0, u "I"), (2, u "U"), (0, u "Ljdk/internal/misc/Unsafe;"), (8, u "BIG_ENDIAN"), (0, u "Z"), (8, u "LOG2_BYTE_BIT_SIZE"), (4, u "LOG2_ARRAY_INT_INDEX_SCALE"), (54, u "JLA"), (0, u "Ljdk/internal/access/JavaLangAccess;"), (11, u "LOG2_ARRAY_BOOLEAN_INDEX_SCALE"), (9, u "LOG2_ARRAY_BYTE_INDEX_SCALE"), (5, u "LOG2_ARRAY_CHAR_INDEX_SCALE"), (5, u "LOG2_ARRAY_SHORT_INDEX_SCALE"), (18, u "LOG2_ARRAY_FLOAT_INDEX_SCALE"), (24, u "LOG2_ARRAY_DOUBLE_INDEX_SCALE"), (89, u "T_BOOLEAN"), (2, u "T_CHAR"), (1, u "T_FLOAT"), (1, u "T_DOUBLE"), (1, u "T_BYTE"), (1, u "T_SHORT"), (1, u "T_INT"), (1, u "T_LONG"), (1, u "SOFT_MAX_ARRAY_LENGTH")] 83

def k14m0 : Method := { name := "<init>", desc := "()V", sig := { parameters := [], returnType := none }, accessFlags := 2, code := none }
/-- jdk/internal/util/ArraysSupport -/
def k14 : Class := { plain "jdk/internal/util/ArraysSupport" (some 0) with
  accessFlags := 33
  interfaces := #[]
  cf := some (fileOf pool14 21 #[] #[{ accessFlags := 2, nameIndex := 9, descriptorIndex := 19, attributes := #[] }] 33 16 #[] #[{ accessFlags := 24, nameIndex := 28, descriptorIndex := 29, attributes := #[] }, { accessFlags := 26, nameIndex := 38, descriptorIndex := 39, attributes := #[] }, { accessFlags := 25, nameIndex := 121, descriptorIndex := 25, attributes := #[] }, { accessFlags := 25, nameIndex := 131, descriptorIndex := 25, attributes := #[] }, { accessFlags := 25, nameIndex := 137, descriptorIndex := 25, attributes := #[] }, { accessFlags := 25, nameIndex := 143, descriptorIndex := 25, attributes := #[] }, { accessFlags := 25, nameIndex := 53, descriptorIndex := 25, attributes := #[] }, { accessFlags := 25, nameIndex := 24, descriptorIndex := 25, attributes := #[] }, { accessFlags := 25, nameIndex := 162, descriptorIndex := 25, attributes := #[] }, { accessFlags := 25, nameIndex := 187, descriptorIndex := 25, attributes := #[] }, { accessFlags := 26, nameIndex := 48, descriptorIndex := 25, attributes := #[] }, { accessFlags := 25, nameIndex := 277, descriptorIndex := 25, attributes := #[] }, { accessFlags := 25, nameIndex := 280, descriptorIndex := 25, attributes := #[] }, { accessFlags := 25, nameIndex := 282, descriptorIndex := 25, attributes := #[] }, { accessFlags := 25, nameIndex := 284, descriptorIndex := 25, attributes := #[] }, { accessFlags := 25, nameIndex := 286, descriptorIndex := 25, attributes := #[] }, { accessFlags := 25, nameIndex := 288, descriptorIndex := 25, attributes := #[] }, { accessFlags := 25, nameIndex := 290, descriptorIndex := 25, attributes := #[] }, { accessFlags := 25, nameIndex := 292, descriptorIndex := 25, attributes := #[] }, { accessFlags := 26, nameIndex := 108, descriptorIndex := 109, attributes := #[] }, { accessFlags := 25, nameIndex := 294, descriptorIndex := 25, attributes := #[] }])
  fields := #[{ name := "U", type := (.object "jdk/internal/misc/Unsafe"), accessFlags := 24, slot := 0, constantValue := 0 }, { name := "BIG_ENDIAN", type := .boolean, accessFlags := 26, slot := 1, constantValue := 0 }, { name := "LOG2_ARRAY_BOOLEAN_INDEX_SCALE", type := .int, accessFlags := 25, slot := 2, constantValue := 0 }, { name := "LOG2_ARRAY_BYTE_INDEX_SCALE", type := .int, accessFlags := 25, slot := 3, constantValue := 0 }, { name := "LOG2_ARRAY_CHAR_INDEX_SCALE", type := .int, accessFlags := 25, slot := 4, constantValue := 0 }, { name := "LOG2_ARRAY_SHORT_INDEX_SCALE", type := .int, accessFlags := 25, slot := 5, constantValue := 0 }, { name := "LOG2_ARRAY_INT_INDEX_SCALE", type := .int, accessFlags := 25, slot := 6, constantValue := 0 }, { name := "LOG2_ARRAY_LONG_INDEX_SCALE", type := .int, accessFlags := 25, slot := 7, constantValue := 0 }, { name := "LOG2_ARRAY_FLOAT_INDEX_SCALE", type := .int, accessFlags := 25, slot := 8, constantValue := 0 }, { name := "LOG2_ARRAY_DOUBLE_INDEX_SCALE", type := .int, accessFlags := 25, slot := 9, constantValue := 0 }, { name := "LOG2_BYTE_BIT_SIZE", type := .int, accessFlags := 26, slot := 10, constantValue := 0 }, { name := "T_BOOLEAN", type := .int, accessFlags := 25, slot := 11, constantValue := 0 }, { name := "T_CHAR", type := .int, accessFlags := 25, slot := 12, constantValue := 0 }, { name := "T_FLOAT", type := .int, accessFlags := 25, slot := 13, constantValue := 0 }, { name := "T_DOUBLE", type := .int, accessFlags := 25, slot := 14, constantValue := 0 }, { name := "T_BYTE", type := .int, accessFlags := 25, slot := 15, constantValue := 0 }, { name := "T_SHORT", type := .int, accessFlags := 25, slot := 16, constantValue := 0 }, { name := "T_INT", type := .int, accessFlags := 25, slot := 17, constantValue := 0 }, { name := "T_LONG", type := .int, accessFlags := 25, slot := 18, constantValue := 0 }, { name := "JLA", type := (.object "jdk/internal/access/JavaLangAccess"), accessFlags := 26, slot := 19, constantValue := 0 }, { name := "SOFT_MAX_ARRAY_LENGTH", type := .int, accessFlags := 25, slot := 20, constantValue := 0 }]
  methods := #[k14m0]
  instanceTypes := #[]
  staticTypes := #[(.object "jdk/internal/misc/Unsafe"), .boolean, .int, .int, .int, .int, .int, .int, .int, .int, .int, .int, .int, .int, .int, .int, .int, .int, .int, (.object "jdk/internal/access/JavaLangAccess"), .int]
  resolved := Array.replicate 378 none
  statics := none }

def pool15 : Array CpInfo := pool [(1, u "java/lang/Cloneable"), (0, .class_ 1), (0, u "java/lang/Object"), (0, .class_ 3)] 3

/-- java/lang/Cloneable -/
def k15 : Class := { plain "java/lang/Cloneable" (some 0) with
  accessFlags := 1537
  interfaces := #[]
  cf := some (fileOf pool15 2 #[] #[] 1537 4 #[] #[])
  fields := #[]
  methods := #[]
  instanceTypes := #[]
  staticTypes := #[]
  resolved := Array.replicate 8 none
  statics := none }

/-- the primitive byte -/
def k16 : Class := { plain "byte" none with kind := .primitive 'B', accessFlags := 0x411 }
/-- [B -/
def k17 : Class := { plain "[B" (some 0) with kind := .array 16 .byte, interfaces := #[15, 2], accessFlags := 1041 }

/-- the primitive char -/
def k18 : Class := { plain "char" none with kind := .primitive 'C', accessFlags := 0x411 }
/-- [C -/
def k19 : Class := { plain "[C" (some 0) with kind := .array 18 .char, interfaces := #[15, 2], accessFlags := 1041 }

/-- the primitive int -/
def k20 : Class := { plain "int" none with kind := .primitive 'I', accessFlags := 0x411 }
/-- [I -/
def k21 : Class := { plain "[I" (some 0) with kind := .array 20 .int, interfaces := #[15, 2], accessFlags := 1041 }

def heap : Heap := #[{ cls := 7, slots := #[.long 0, .int 1, .null, .int 0, .null, .int 0, .int 0], vm := .statics 7 },
  { cls := 12, slots := #[.null, .null, .ref 4, .ref 5, .null], vm := .statics 12 },
  { cls := 13, slots := #[.null, .null, .null], vm := .statics 13 },
  { cls := 14, slots := #[], vm := .none },
  { cls := 12, slots := #[], vm := .none },
  { cls := 21, slots := #[.int 1207963663, .int 1207963663, .int 1207963663, .int 1207963663, .int 1207963663, .int 1207963663, .int 1207963663, .int 1207963663, .int 1207963663, .int 1476411407, .int 1342193679, .int 1476411407, .int 1610629135, .int 1342193679, .int 1207963663, .int 1207963663, .int 1207963663, .int 1207963663, .int 1207963663, .int 1207963663, .int 1207963663, .int 1207963663, .int 1207963663, .int 1207963663, .int 1207963663, .int 1207963663, .int 1207963663, .int 1207963663, .int 1342193679, .int 1342193679, .int 1342193679, .int 1476411407, .int 1610629132, .int 1744830488, .int 1744830488, .int 671088664, .int 671113242, .int 671088664, .int 1744830488, .int 1744830488, .int (-402653163), .int (-402653162), .int 1744830488, .int 536870937, .int 939524120, .int 536870932, .int 939524120, .int 939524120, .int 402667017, .int 402667017, .int 402667017, .int 402667017, .int 402667017, .int 402667017, .int 402667017, .int 402667017, .int 402667017, .int 402667017, .int 939524120, .int 1744830488, .int (-402653159), .int 1744830489, .int (-402653159), .int 1744830488, .int 1744830488, .int 8552417, .int 8552417, .int 8552417, .int 8552417, .int 8552417, .int 8552417, .int 8552417, .int 8552417, .int 8552417, .int 8552417, .int 8552417, .int 8552417, .int 8552417, .int 8552417, .int 8552417, .int 8552417, .int 8552417, .int 8552417, .int 8552417, .int 8552417, .int 8552417, .int 8552417, .int 8552417, .int 8552417, .int 8552417, .int 8552417, .int (-402653163), .int 1744830488, .int (-402653162), .int 1744830491, .int 1744850967, .int 1744830491, .int 8486882, .int 8486882, .int 8486882, .int 8486882, .int 8486882, .int 8486882, .int 8486882, .int 8486882, .int 8486882, .int 8486882, .int 8486882, .int 8486882, .int 8486882, .int 8486882, .int 8486882, .int 8486882, .int 8486882, .int 8486882, .int 8486882, .int 8486882, .int 8486882, .int 8486882, .int 8486882, .int 8486882, .int 8486882, .int 8486882, .int (-402653163), .int 1744830489, .int (-402653162), .int 1744830489, .int 1207963663, .int 1207963663, .int 1207963663, .int 1207963663, .int 1207963663, .int 1207963663, .int 1342181391, .int 1207963663, .int 1207963663, .int 1207963663, .int 1207963663, .int 1207963663, .int 1207963663, .int 1207963663, .int 1207963663, .int 1207963663, .int 1207963663, .int 1207963663, .int 1207963663, .int 1207963663, .int 1207963663, .int 1207963663, .int 1207963663, .int 1207963663, .int 1207963663, .int 1207963663, .int 1207963663, .int 1207963663, .int 1207963663, .int 1207963663, .int 1207963663, .int 1207963663, .int 1207963663, .int 939524108, .int 1744830488, .int 671113242, .int 671113242, .int 671113242, .int 671113242, .int 1744830492, .int 1744830488, .int 1744830491, .int 1744830492, .int 28677, .int (-402653155), .int 1744830489, .int 1207963664, .int 1744830492, .int 1744830491, .int 671088668, .int 671088665, .int 402654731, .int 402654731, .int 1744830491, .int 134049794, .int 1744830488, .int 1744830488, .int 1744830491, .int 402654475, .int 28677, .int (-402653154), .int 1744832523, .int 1744832523, .int 1744832523, .int 1744830488, .int 8548353, .int 8548353, .int 8548353, .int 8548353, .int 8548353, .int 8548353, .int 8548353, .int 8548353, .int 8548353, .int 8548353, .int 8548353, .int 8548353, .int 8548353, .int 8548353, .int 8548353, .int 8548353, .int 8548353, .int 8548353, .int 8548353, .int 8548353, .int 8548353, .int 8548353, .int 8548353, .int 1744830489, .int 8548353, .int 8548353, .int 8548353, .int 8548353, .int 8548353, .int 8548353, .int 8548353, .int 134049794, .int 8482818, .int 8482818, .int 8482818, .int 8482818, .int 8482818, .int 8482818, .int 8482818, .int 8482818, .int 8482818, .int 8482818, .int 8482818, .int 8482818, .int 8482818, .int 8482818, .int 8482818, .int 8482818, .int 8482818, .int 8482818, .int 8482818, .int 8482818, .int 8482818, .int 8482818, .int 8482818, .int 1744830489, .int 8482818, .int 8482818, .int 8482818, .int 8482818, .int 8482818, .int 8482818, .int 8482818, .int 102592514], vm := .none }]
def classes : Array Class := #[k0, k1, k2, k3, k4, k5, k6, k7, k8, k9, k10, k11, k12, k13, k14, k15, k16, k17, k18, k19, k20, k21]
def interned : List (Array UInt16 × Addr) := []
def slotsUsed : Nat := 271
def theMethod : MethodId := ⟨1, 1⟩
def args0 : Array Value := #[.int 3, .int 65, .int 66, .int 67, .int 68]
def aboutOver (below : List Frame) : State where
  vm := { classes := classes, interned := interned.toArray }
  heap := heap
  slotsUsed := slotsUsed
  threads := #[{ frames := .invoking theMethod args0 :: below }]
def below0 : List Frame := [.native { method := ⟨0, 0⟩, args := #[] }]
def about1 : State := aboutOver below0
def p0 : Program := .bare "" "" ""
def e0 : Env := launch0.env 0 0 0
theorem w_frames : about1.frames = Frame.invoking theMethod args0 :: below0 := rfl
set_option maxRecDepth 65536 in
theorem w_args : argsFit about1.vm theMethod args0 = true := by decide +kernel
set_option maxRecDepth 65536 in
theorem w_heap : heapFits about1 = true := by decide +kernel
set_option maxRecDepth 65536 in
theorem w_runnable : about1.curStatus? = some .runnable := by decide +kernel
set_option maxRecDepth 65536 in
theorem w_alone : about1.alone = true := by decide +kernel
set_option maxRecDepth 65536 in
theorem w_named : about1.methodNamed? x = some theMethod := by decide +kernel
set_option maxRecDepth 65536 in
theorem w_hears : about1.hears theMethod below0 = true := by decide +kernel
set_option maxRecDepth 65536 in
theorem w_ripe : about1.ripe theMethod args0 below0 = true := by decide +kernel
theorem w_running : about1.status = .running := rfl
set_option maxRecDepth 65536 in
theorem w_room : about1.hasRoom e0.platform room_1 = true :=
  launch0.hasRoom_least _ room_1 (by decide +kernel) (by decide +kernel) (by decide +kernel) (by decide +kernel) (by decide +kernel) (by decide +kernel)
theorem allAtoms_all (ts : List Jvm.Cond) (a : Array Jvm.Value) (st : Jvm.State) : (allAtoms ts).before a st = ts.all (fun c => c.before a st) := by
  induction ts with
  | nil => rfl
  | cons c t ih =>
    show (Jvm.Cond.and c (allAtoms t)).before a st = _
    rw [Jvm.Cond.before_and, ih, List.all_cons]
def words1 : List Jvm.Cond := Jvm.Cond.code x code maxLocals ret :: tables_1
/-- a 'code' word, met by the world's own term for the bytes: nothing is compared byte by byte -/
theorem code_word {y : MethodName} {bytes : ByteArray} {mx : Nat} {rt : Option FieldType} {a : Array Value} {s : State} {m : MethodId} {meth : Method} {c : Code} (h1 : s.methodNamed? y = some m) (h2 : s.vm.method? m = some meth) (h3 : meth.code = some c) (h4 : c.code = bytes)
    (h5 : (c.maxLocals == mx && c.exceptionTable.isEmpty && decide (c.maxStack ≤ mostOperands) && decide (meth.sig.returnType = rt) && !meth.locks && decide (parseMethodDescriptor y.desc = some meth.sig)) = true) : (Jvm.Cond.code y bytes mx rt).before a s = true := by
  simp only [Bool.and_eq_true, beq_iff_eq, Bool.not_eq_true', decide_eq_true_eq] at h5
  obtain ⟨⟨⟨⟨⟨g1, g2⟩, g3⟩, g4⟩, g5⟩, g6⟩ := h5
  simp [Cond.before, Cond.holds, Cond.value, h1, h2, h3, h4, g1, g2, g3, g4, g5, g6]
def isCode : Jvm.Cond → Bool
  | .code _ _ _ _ => true
  | _ => false
theorem all_split {L : List Jvm.Cond} {P : Jvm.Cond → Bool} (h1 : L.all (fun c => isCode c || P c) = true) (h2 : ∀ c ∈ L.filter isCode, P c = true) : L.all P = true := by
  refine List.all_eq_true.mpr fun c hc => ?_
  have h := List.all_eq_true.mp h1 c hc
  rcases Bool.eq_false_or_eq_true (isCode c) with hi | hi
  · exact h2 c (List.mem_filter.mpr ⟨hc, hi⟩)
  · simpa [hi] using h
set_option maxRecDepth 65536 in
theorem w_c0 : (Jvm.Cond.code x code maxLocals ret).before args0 about1 = true := code_word (m := ⟨1, 1⟩) (meth := k1m1) (c := k1c1) (by decide +kernel) rfl rfl rfl (by decide +kernel)
set_option maxRecDepth 65536 in
theorem w_c1 : (Jvm.Cond.code ({ cls := "com/example/tranche/tranche/NotationNamePinLaw", name := "text", desc := "(ICCCC)Ljava/lang/String;" } : Jvm.MethodName) method_4_code (5 : Nat) (Option.some (Jvm.ClassFile.FieldType.object "java/lang/String"))).before args0 about1 = true := code_word (m := ⟨1, 3⟩) (meth := k1m3) (c := k1c3) (by decide +kernel) rfl rfl rfl (by decide +kernel)
set_option maxRecDepth 65536 in
theorem w_c2 : (Jvm.Cond.code ({ cls := "java/lang/String", name := "<init>", desc := "([C)V" } : Jvm.MethodName) jdk_42_method_3_code (2 : Nat) (Option.none : Option Jvm.ClassFile.FieldType)).before args0 about1 = true := code_word (m := ⟨7, 1⟩) (meth := k7m1) (c := k7c1) (by decide +kernel) rfl rfl rfl (by decide +kernel)
set_option maxRecDepth 65536 in
theorem w_c3 : (Jvm.Cond.code ({ cls := "java/lang/String", name := "<init>", desc := "([CIILjava/lang/Void;)V" } : Jvm.MethodName) jdk_42_method_149_code (6 : Nat) (Option.none : Option Jvm.ClassFile.FieldType)).before args0 about1 = true := code_word (m := ⟨7, 6⟩) (meth := k7m6) (c := k7c6) (by decide +kernel) rfl rfl rfl (by decide +kernel)
set_option maxRecDepth 65536 in
theorem w_c4 : (Jvm.Cond.code ({ cls := "java/lang/Object", name := "<init>", desc := "()V" } : Jvm.MethodName) object_method_1_code (1 : Nat) (Option.none : Option Jvm.ClassFile.FieldType)).before args0 about1 = true := code_word (m := ⟨0, 0⟩) (meth := k0m0) (c := k0c0) (by decide +kernel) rfl rfl rfl (by decide +kernel)
set_option maxRecDepth 65536 in
theorem w_c5 : (Jvm.Cond.code ({ cls := "java/lang/StringUTF16", name := "compress", desc := "([CII)[B" } : Jvm.MethodName) jdk_52_method_16_code (6 : Nat) (Option.some (Jvm.ClassFile.FieldType.array Jvm.ClassFile.FieldType.byte))).before args0 about1 = true := code_word (m := ⟨8, 2⟩) (meth := k8m2) (c := k8c2) (by decide +kernel) rfl rfl rfl (by decide +kernel)
set_option maxRecDepth 65536 in
theorem w_c6 : (Jvm.Cond.code ({ cls := "java/lang/StringUTF16", name := "compress", desc := "([CI[BII)I" } : Jvm.MethodName) jdk_52_method_21_code (7 : Nat) (Option.some Jvm.ClassFile.FieldType.int)).before args0 about1 = true := code_word (m := ⟨8, 3⟩) (meth := k8m3) (c := k8c3) (by decide +kernel) rfl rfl rfl (by decide +kernel)
set_option maxRecDepth 65536 in
theorem w_c7 : (Jvm.Cond.code ({ cls := "java/lang/StringUTF16", name := "coderFromArrayLen", desc := "([BI)B" } : Jvm.MethodName) jdk_52_method_15_code (2 : Nat) (Option.some Jvm.ClassFile.FieldType.byte)).before args0 about1 = true := code_word (m := ⟨8, 1⟩) (meth := k8m1) (c := k8c1) (by decide +kernel) rfl rfl rfl (by decide +kernel)
set_option maxRecDepth 65536 in
theorem w_c8 : (Jvm.Cond.code ({ cls := "com/example/tranche/tranche/NotationNamePinLaw", name := "isControl", desc := "(C)Z" } : Jvm.MethodName) method_3_code (1 : Nat) (Option.some Jvm.ClassFile.FieldType.boolean)).before args0 about1 = true := code_word (m := ⟨1, 2⟩) (meth := k1m2) (c := k1c2) (by decide +kernel) rfl rfl rfl (by decide +kernel)
set_option maxRecDepth 65536 in
theorem w_c9 : (Jvm.Cond.code ({ cls := "com/example/tranche/tranche/Notation", name := "name", desc := "(Ljava/lang/String;Ljava/lang/String;)Ljava/lang/String;" } : Jvm.MethodName) prog_14_method_2_code (2 : Nat) (Option.some (Jvm.ClassFile.FieldType.object "java/lang/String"))).before args0 about1 = true := code_word (m := ⟨9, 1⟩) (meth := k9m1) (c := k9c1) (by decide +kernel) rfl rfl rfl (by decide +kernel)
set_option maxRecDepth 65536 in
theorem w_c10 : (Jvm.Cond.code ({ cls := "java/lang/String", name := "isBlank", desc := "()Z" } : Jvm.MethodName) jdk_42_method_117_code (1 : Nat) (Option.some Jvm.ClassFile.FieldType.boolean)).before args0 about1 = true := code_word (m := ⟨7, 4⟩) (meth := k7m4) (c := k7c4) (by decide +kernel) rfl rfl rfl (by decide +kernel)
set_option maxRecDepth 65536 in
theorem w_c11 : (Jvm.Cond.code ({ cls := "java/lang/String", name := "indexOfNonWhitespace", desc := "()I" } : Jvm.MethodName) jdk_42_method_120_code (1 : Nat) (Option.some Jvm.ClassFile.FieldType.int)).before args0 about1 = true := code_word (m := ⟨7, 5⟩) (meth := k7m5) (c := k7c5) (by decide +kernel) rfl rfl rfl (by decide +kernel)
set_option maxRecDepth 65536 in
theorem w_c12 : (Jvm.Cond.code ({ cls := "java/lang/String", name := "isLatin1", desc := "()Z" } : Jvm.MethodName) jdk_42_method_154_code (1 : Nat) (Option.some Jvm.ClassFile.FieldType.boolean)).before args0 about1 = true := code_word (m := ⟨7, 8⟩) (meth := k7m8) (c := k7c8) (by decide +kernel) rfl rfl rfl (by decide +kernel)
set_option maxRecDepth 65536 in
theorem w_c13 : (Jvm.Cond.code ({ cls := "java/lang/StringLatin1", name := "indexOfNonWhitespace", desc := "([B)I" } : Jvm.MethodName) jdk_43_method_37_code (4 : Nat) (Option.some Jvm.ClassFile.FieldType.int)).before args0 about1 = true := code_word (m := ⟨10, 2⟩) (meth := k10m2) (c := k10c2) (by decide +kernel) rfl rfl rfl (by decide +kernel)
set_option maxRecDepth 65536 in
theorem w_c14 : (Jvm.Cond.code ({ cls := "java/lang/StringLatin1", name := "getChar", desc := "([BI)C" } : Jvm.MethodName) jdk_43_method_44_code (2 : Nat) (Option.some Jvm.ClassFile.FieldType.char)).before args0 about1 = true := code_word (m := ⟨10, 3⟩) (meth := k10m3) (c := k10c3) (by decide +kernel) rfl rfl rfl (by decide +kernel)
set_option maxRecDepth 65536 in
theorem w_c15 : (Jvm.Cond.code ({ cls := "java/lang/CharacterDataLatin1", name := "isWhitespace", desc := "(I)Z" } : Jvm.MethodName) jdk_116_method_26_code (3 : Nat) (Option.some Jvm.ClassFile.FieldType.boolean)).before args0 about1 = true := code_word (m := ⟨12, 1⟩) (meth := k12m1) (c := k12c1) (by decide +kernel) rfl rfl rfl (by decide +kernel)
set_option maxRecDepth 65536 in
theorem w_c16 : (Jvm.Cond.code ({ cls := "java/lang/CharacterDataLatin1", name := "getProperties", desc := "(I)I" } : Jvm.MethodName) jdk_116_method_1_code (4 : Nat) (Option.some Jvm.ClassFile.FieldType.int)).before args0 about1 = true := code_word (m := ⟨12, 0⟩) (meth := k12m0) (c := k12c0) (by decide +kernel) rfl rfl rfl (by decide +kernel)
set_option maxRecDepth 65536 in
theorem w_c17 : (Jvm.Cond.code ({ cls := "java/lang/String", name := "length", desc := "()I" } : Jvm.MethodName) jdk_42_method_54_code (1 : Nat) (Option.some Jvm.ClassFile.FieldType.int)).before args0 about1 = true := code_word (m := ⟨7, 2⟩) (meth := k7m2) (c := k7c2) (by decide +kernel) rfl rfl rfl (by decide +kernel)
set_option maxRecDepth 65536 in
theorem w_c18 : (Jvm.Cond.code ({ cls := "java/lang/String", name := "coder", desc := "()B" } : Jvm.MethodName) jdk_42_method_152_code (1 : Nat) (Option.some Jvm.ClassFile.FieldType.byte)).before args0 about1 = true := code_word (m := ⟨7, 7⟩) (meth := k7m7) (c := k7c7) (by decide +kernel) rfl rfl rfl (by decide +kernel)
set_option maxRecDepth 65536 in
theorem w_c19 : (Jvm.Cond.code ({ cls := "com/example/tranche/tranche/Notation", name := "holdsControl", desc := "(Ljava/lang/String;)Z" } : Jvm.MethodName) prog_14_method_12_code (2 : Nat) (Option.some Jvm.ClassFile.FieldType.boolean)).before args0 about1 = true := code_word (m := ⟨9, 2⟩) (meth := k9m2) (c := k9c2) (by decide +kernel) rfl rfl rfl (by decide +kernel)
set_option maxRecDepth 65536 in
theorem w_c20 : (Jvm.Cond.code ({ cls := "java/lang/String", name := "charAt", desc := "(I)C" } : Jvm.MethodName) jdk_42_method_56_code (2 : Nat) (Option.some Jvm.ClassFile.FieldType.char)).before args0 about1 = true := code_word (m := ⟨7, 3⟩) (meth := k7m3) (c := k7c3) (by decide +kernel) rfl rfl rfl (by decide +kernel)
set_option maxRecDepth 65536 in
theorem w_c21 : (Jvm.Cond.code ({ cls := "java/lang/StringLatin1", name := "charAt", desc := "([BI)C" } : Jvm.MethodName) jdk_43_method_2_code (2 : Nat) (Option.some Jvm.ClassFile.FieldType.char)).before args0 about1 = true := code_word (m := ⟨10, 1⟩) (meth := k10m1) (c := k10c1) (by decide +kernel) rfl rfl rfl (by decide +kernel)
set_option maxRecDepth 65536 in
theorem w_c22 : (Jvm.Cond.code ({ cls := "java/lang/String", name := "checkIndex", desc := "(II)V" } : Jvm.MethodName) jdk_42_method_155_code (2 : Nat) (Option.none : Option Jvm.ClassFile.FieldType)).before args0 about1 = true := code_word (m := ⟨7, 9⟩) (meth := k7m9) (c := k7c9) (by decide +kernel) rfl rfl rfl (by decide +kernel)
set_option maxRecDepth 65536 in
theorem w_c23 : (Jvm.Cond.code ({ cls := "jdk/internal/util/Preconditions", name := "checkIndex", desc := "(IILjava/util/function/BiFunction;)I" } : Jvm.MethodName) jdk_41_method_11_code (3 : Nat) (Option.some Jvm.ClassFile.FieldType.int)).before args0 about1 = true := code_word (m := ⟨13, 1⟩) (meth := k13m1) (c := k13c1) (by decide +kernel) rfl rfl rfl (by decide +kernel)
def codes1 : List Jvm.Cond := [Jvm.Cond.code x code maxLocals ret, Jvm.Cond.code ({ cls := "com/example/tranche/tranche/NotationNamePinLaw", name := "text", desc := "(ICCCC)Ljava/lang/String;" } : Jvm.MethodName) method_4_code (5 : Nat) (Option.some (Jvm.ClassFile.FieldType.object "java/lang/String")), Jvm.Cond.code ({ cls := "java/lang/String", name := "<init>", desc := "([C)V" } : Jvm.MethodName) jdk_42_method_3_code (2 : Nat) (Option.none : Option Jvm.ClassFile.FieldType), Jvm.Cond.code ({ cls := "java/lang/String", name := "<init>", desc := "([CIILjava/lang/Void;)V" } : Jvm.MethodName) jdk_42_method_149_code (6 : Nat) (Option.none : Option Jvm.ClassFile.FieldType), Jvm.Cond.code ({ cls := "java/lang/Object", name := "<init>", desc := "()V" } : Jvm.MethodName) object_method_1_code (1 : Nat) (Option.none : Option Jvm.ClassFile.FieldType), Jvm.Cond.code ({ cls := "java/lang/StringUTF16", name := "compress", desc := "([CII)[B" } : Jvm.MethodName) jdk_52_method_16_code (6 : Nat) (Option.some (Jvm.ClassFile.FieldType.array Jvm.ClassFile.FieldType.byte)), Jvm.Cond.code ({ cls := "java/lang/StringUTF16", name := "compress", desc := "([CI[BII)I" } : Jvm.MethodName) jdk_52_method_21_code (7 : Nat) (Option.some Jvm.ClassFile.FieldType.int), Jvm.Cond.code ({ cls := "java/lang/StringUTF16", name := "coderFromArrayLen", desc := "([BI)B" } : Jvm.MethodName) jdk_52_method_15_code (2 : Nat) (Option.some Jvm.ClassFile.FieldType.byte), Jvm.Cond.code ({ cls := "com/example/tranche/tranche/NotationNamePinLaw", name := "isControl", desc := "(C)Z" } : Jvm.MethodName) method_3_code (1 : Nat) (Option.some Jvm.ClassFile.FieldType.boolean), Jvm.Cond.code ({ cls := "com/example/tranche/tranche/Notation", name := "name", desc := "(Ljava/lang/String;Ljava/lang/String;)Ljava/lang/String;" } : Jvm.MethodName) prog_14_method_2_code (2 : Nat) (Option.some (Jvm.ClassFile.FieldType.object "java/lang/String")), Jvm.Cond.code ({ cls := "java/lang/String", name := "isBlank", desc := "()Z" } : Jvm.MethodName) jdk_42_method_117_code (1 : Nat) (Option.some Jvm.ClassFile.FieldType.boolean), Jvm.Cond.code ({ cls := "java/lang/String", name := "indexOfNonWhitespace", desc := "()I" } : Jvm.MethodName) jdk_42_method_120_code (1 : Nat) (Option.some Jvm.ClassFile.FieldType.int), Jvm.Cond.code ({ cls := "java/lang/String", name := "isLatin1", desc := "()Z" } : Jvm.MethodName) jdk_42_method_154_code (1 : Nat) (Option.some Jvm.ClassFile.FieldType.boolean), Jvm.Cond.code ({ cls := "java/lang/StringLatin1", name := "indexOfNonWhitespace", desc := "([B)I" } : Jvm.MethodName) jdk_43_method_37_code (4 : Nat) (Option.some Jvm.ClassFile.FieldType.int), Jvm.Cond.code ({ cls := "java/lang/StringLatin1", name := "getChar", desc := "([BI)C" } : Jvm.MethodName) jdk_43_method_44_code (2 : Nat) (Option.some Jvm.ClassFile.FieldType.char), Jvm.Cond.code ({ cls := "java/lang/CharacterDataLatin1", name := "isWhitespace", desc := "(I)Z" } : Jvm.MethodName) jdk_116_method_26_code (3 : Nat) (Option.some Jvm.ClassFile.FieldType.boolean), Jvm.Cond.code ({ cls := "java/lang/CharacterDataLatin1", name := "getProperties", desc := "(I)I" } : Jvm.MethodName) jdk_116_method_1_code (4 : Nat) (Option.some Jvm.ClassFile.FieldType.int), Jvm.Cond.code ({ cls := "java/lang/String", name := "length", desc := "()I" } : Jvm.MethodName) jdk_42_method_54_code (1 : Nat) (Option.some Jvm.ClassFile.FieldType.int), Jvm.Cond.code ({ cls := "java/lang/String", name := "coder", desc := "()B" } : Jvm.MethodName) jdk_42_method_152_code (1 : Nat) (Option.some Jvm.ClassFile.FieldType.byte), Jvm.Cond.code ({ cls := "com/example/tranche/tranche/Notation", name := "holdsControl", desc := "(Ljava/lang/String;)Z" } : Jvm.MethodName) prog_14_method_12_code (2 : Nat) (Option.some Jvm.ClassFile.FieldType.boolean), Jvm.Cond.code ({ cls := "java/lang/String", name := "charAt", desc := "(I)C" } : Jvm.MethodName) jdk_42_method_56_code (2 : Nat) (Option.some Jvm.ClassFile.FieldType.char), Jvm.Cond.code ({ cls := "java/lang/StringLatin1", name := "charAt", desc := "([BI)C" } : Jvm.MethodName) jdk_43_method_2_code (2 : Nat) (Option.some Jvm.ClassFile.FieldType.char), Jvm.Cond.code ({ cls := "java/lang/String", name := "checkIndex", desc := "(II)V" } : Jvm.MethodName) jdk_42_method_155_code (2 : Nat) (Option.none : Option Jvm.ClassFile.FieldType), Jvm.Cond.code ({ cls := "jdk/internal/util/Preconditions", name := "checkIndex", desc := "(IILjava/util/function/BiFunction;)I" } : Jvm.MethodName) jdk_41_method_11_code (3 : Nat) (Option.some Jvm.ClassFile.FieldType.int)]
set_option maxRecDepth 65536 in
theorem codes_eq : words1.filter isCode = codes1 := rfl
theorem w_codes : ∀ c ∈ words1.filter isCode, c.before args0 about1 = true := by
  rw [codes_eq]
  intro c hc
  simp only [codes1, List.mem_cons, List.not_mem_nil, or_false] at hc
  rcases hc with rfl | rfl | rfl | rfl | rfl | rfl | rfl | rfl | rfl | rfl | rfl | rfl | rfl | rfl | rfl | rfl | rfl | rfl | rfl | rfl | rfl | rfl | rfl | rfl
  · exact w_c0
  · exact w_c1
  · exact w_c2
  · exact w_c3
  · exact w_c4
  · exact w_c5
  · exact w_c6
  · exact w_c7
  · exact w_c8
  · exact w_c9
  · exact w_c10
  · exact w_c11
  · exact w_c12
  · exact w_c13
  · exact w_c14
  · exact w_c15
  · exact w_c16
  · exact w_c17
  · exact w_c18
  · exact w_c19
  · exact w_c20
  · exact w_c21
  · exact w_c22
  · exact w_c23
set_option maxRecDepth 65536 in
theorem w_t1 : (words1.take 24).all (fun c => isCode c || c.before args0 about1) = true := by decide +kernel
set_option maxRecDepth 65536 in
theorem w_t2 : ((words1.drop 24).take 24).all (fun c => isCode c || c.before args0 about1) = true := by decide +kernel
set_option maxRecDepth 65536 in
theorem w_t3 : (((words1.drop 24).drop 24).take 24).all (fun c => isCode c || c.before args0 about1) = true := by decide +kernel
set_option maxRecDepth 65536 in
theorem w_t4 : ((((words1.drop 24).drop 24).drop 24).take 24).all (fun c => isCode c || c.before args0 about1) = true := by decide +kernel
set_option maxRecDepth 65536 in
theorem w_t5 : ((((words1.drop 24).drop 24).drop 24).drop 24).all (fun c => isCode c || c.before args0 about1) = true := by decide +kernel
theorem w_tables : (allAtoms (Jvm.Cond.code x code maxLocals ret :: tables_1)).before args0 about1 = true := by
  rw [allAtoms_all]
  show words1.all (fun c => c.before args0 about1) = true
  refine all_split ?_ w_codes
  rw [← List.take_append_drop 24 words1, List.all_append, w_t1, ← List.take_append_drop 24 (words1.drop 24), List.all_append, w_t2, ← List.take_append_drop 24 ((words1.drop 24).drop 24), List.all_append, w_t3, ← List.take_append_drop 24 (((words1.drop 24).drop 24).drop 24), List.all_append, w_t4, w_t5]
  rfl
set_option maxRecDepth 65536 in
theorem w_rest : rest_1_c.before args0 about1 = true := by decide +kernel
set_option maxRecDepth 65536 in
theorem w_case : (Jvm.Cond.and given_1 narrow_1).before args0 about1 = true := by decide +kernel
set_option maxRecDepth 65536 in
theorem w_consts : constsHeld consts_1 about1 := Jvm.Lit.constsHeldB_iff.mp (by decide +kernel)
theorem w_applies : (headSpec (Jvm.Cond.code x code maxLocals ret :: tables_1) room_1).applies x e0.platform about1 = true :=
  (Spec.applies_iff w_frames).mpr ⟨w_running, w_runnable, w_alone, w_named, w_hears, w_ripe, w_room, w_tables⟩
theorem atStart : AtStart classFile x code maxLocals ret World_1 tables_1 room_1 Calls_1 rest_1 Pre_1 launch0 p0 e0 about1 theMethod args0 below0 :=
  ⟨lists_1, trivial, launch0.admits_env _ _ _, launch0.least_env, fairChoices_fair.cas, fairChoices_fair.clock, w_frames, w_args, w_heap, w_applies, ⟨w_consts, trivial⟩, w_rest, w_case⟩
end start1
theorem witness_1 : WitnessClaimed_1 := ⟨start1.p0, start1.e0, start1.about1, start1.theMethod, start1.args0, start1.below0, start1.atStart⟩
end Jvm.Pilot.@@N@@
