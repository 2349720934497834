import JvmDerived
import JvmDerived.Pilot.@@N@@Statement
import JvmDerived.Pilot.@@N@@Code
set_option linter.unusedVariables false
set_option linter.unusedSimpArgs false
namespace Jvm.RoadKit
open Sem ClassFile Op Lib Jvm.Stand Jvm.Free Jvm.LawKit
section Own
variable {p : Program} {l : Launch} {e : Env} {R : Room} {s : State} {m : MethodId} {args : Array Value} {below : List Frame} {meth : Method} {c : Code} {T : State} {locs : List Loc} {cells slots : Nat} {Z : State} {a0 : Array Value} {h : Heap}
/-- from T with the frame g on top the run comes back with what Q says -/
def Go (p : Program) (e : Env) (below : List Frame) (Fin' : Outcome → State → Prop) (T : State) (g : JFrame) : Prop :=
  ∃ s₂ o, Steps p.tables e below (T.setTop g) s₂ ∧ s₂.status = .running ∧ Ended s₂ below o ∧ Fin' o s₂
/-- how a body ends -/
def Fn (s : State) (RC RS : Nat) (Q : Option Value → Heap → List Loc → Prop) (o : Outcome) (t : State) : Prop := ∃ v L, o = .returned v ∧ Q v t.heap L ∧ FrameEnd s o t L RC RS
/-- what stands fast through a body's walk -/
def Cx (p : Program) (s : State) (m : MethodId) (meth : Method) (c : Code) (Z : State) (own nm : String) (bytes : ByteArray) (maxL : Nat) (ret : Option FieldType) : Prop :=
  p.tables.exec = Jvm.exec ∧ Z.Warmed39 s.vm ∧ s.vm.findClass own = some m.cls ∧ c.code = bytes ∧ c.maxLocals = maxL ∧ meth.sig.returnType = ret ∧ meth.name = nm ∧ meth.locks = false
variable {RC RS : Nat} {Q : Option Value → Heap → List Loc → Prop} {Fin' : Outcome → State → Prop} {own nm : String} {bytes : ByteArray} {maxL : Nat} {ret : Option FieldType} {pc pc' : Nat} {Ls Ls' : Array Slot} {S : List Value}
theorem Go.via {T' : State} {g g' : JFrame} (G : Go p e below Fin' T' g') (k : ∀ t, Steps p.tables e below (T'.setTop g') t → Steps p.tables e below (T.setTop g) t) : Go p e below Fin' T g := by
  obtain ⟨s₂, o, st, r⟩ := G; exact ⟨s₂, o, k _ st, r⟩
theorem Go.cast {g g' : JFrame} (q : g = g') (G : Go p e below Fin' T g') : Go p e below Fin' T g := q ▸ G
/-- a body's contract -/
def Met1 (l : Launch) (Z : State) (y : MethodName) (bytes : ByteArray) (maxL : Nat) (ret : Option FieldType) (rm : Room) (as' : Array Value) (h0 : Heap) (Q : Option Value → Heap → List Loc → Prop) : Prop :=
  ∀ ws : List Jvm.Cond, MetFree l y (head1 (Jvm.Cond.code y bytes maxL ret :: ws) rm) (fun a U => a = as' ∧ Z.Warmed39 U.vm ∧ U.heap = h0) (fun _ _ _ _ _ => True) (fun _ U o U' => ∃ v L, o = .returned v ∧ Q v U'.heap L ∧ FrameEnd U o U' L rm.cells rm.slots)
theorem Met1.of_body {y : MethodName} {rm : Room} {as' : Array Value} {h0 : Heap} (hp : plainFor y = true) (ef : ∀ m, entryFrame m as' maxL = mkF m 0 Ls [])
    (body : ∀ {p : Program} {e : Env} {s : State} {m : MethodId} {below : List Frame} {meth : Method} {c : Code} {T : State}, Cx p s m meth c Z y.cls y.name bytes maxL ret → Stand p l e rm s m as' below meth c T [] 0 0 → T.heap = h0 → Go p e below (Fn s rm.cells rm.slots Q) T (mkF m 0 Ls [])) :
    Met1 l Z y bytes maxL ret rm as' h0 Q := by
  intro ws
  refine MetFree.of_bodySF hp hisR ?_
  intro p e s m args below meth c s₁ Bd hml0 hP hK
  obtain ⟨rfl, hZ, hh⟩ := hP
  have X0 : Stand p l e rm s m args below meth c s₁ [] 0 0 := Stand.of_body Bd
  have hlk : meth.locks = false := BodyLoose.notSynchronized Bd
  obtain ⟨s₂, o, st, r1, r2, r3⟩ := body (p := p) (e := e) (s := s) (m := m) (below := below) (meth := meth) (c := c) (T := s₁) ⟨Bd.exec, hZ, findClass_of_methodNamed Bd.named, Bd.bytes, hml0, Bd.returns, (name_of_methodNamed Bd.named Bd.method).1, hlk⟩ X0 (by rw [← hh, Bd.state]; rfl)
  exact ⟨s₂, o, castTop (ef m) st, r1, r2, r3⟩
/-- a contract may say less -/
theorem Met1.weak {y : MethodName} {rm : Room} {as' : Array Value} {h0 : Heap} {Q' : Option Value → Heap → List Loc → Prop} (M : Met1 l Z y bytes maxL ret rm as' h0 Q) (q : ∀ v h L, Q v h L → Q' v h L) : Met1 l Z y bytes maxL ret rm as' h0 Q' := by
  intro ws p e ha hc hk s m args below hf happ hP hK
  obtain ⟨n, o, h1, h2, h3, v, L, h4, h5, h6⟩ := M ws p e ha hc hk s m args below hf happ hP hK
  exact ⟨n, o, h1, h2, h3, v, L, h4, q _ _ _ h5, h6⟩

/-! plain steps -/
theorem Go.aloadN (C : Cx p s m meth c Z own nm bytes maxL ret) (X : Stand p l e R s m args below meth c T locs cells slots) {k : Fin 4} {v : Value} (hd : decode bytes pc = .ok (.aload_n k, 1)) (hl : Ls[k.val]? = some (.val v)) (hv : v.isRef = true) (hp : pc + 1 = pc') (G : Go p e below Fin' T (mkF m pc' Ls (v :: S))) : Go p e below Fin' T (mkF m pc Ls S) := by
  subst hp; exact G.via fun _ k => XS.aloadN X.here C.1 rfl (hb C.2.2.2.1 hd) hl hv k
theorem Go.aload (C : Cx p s m meth c Z own nm bytes maxL ret) (X : Stand p l e R s m args below meth c T locs cells slots) {k : Nat} {v : Value} (hd : decode bytes pc = .ok (.aload k, 2)) (hl : Ls[k]? = some (.val v)) (hv : v.isRef = true) (hp : pc + 2 = pc') (G : Go p e below Fin' T (mkF m pc' Ls (v :: S))) : Go p e below Fin' T (mkF m pc Ls S) := by
  subst hp; exact G.via fun _ k => XS.aload X.here C.1 rfl (hb C.2.2.2.1 hd) hl hv k
theorem Go.iloadN (C : Cx p s m meth c Z own nm bytes maxL ret) (X : Stand p l e R s m args below meth c T locs cells slots) {k : Fin 4} {v : Int32} (hd : decode bytes pc = .ok (.iload_n k, 1)) (hl : Ls[k.val]? = some (.val (.int v))) (hp : pc + 1 = pc') (G : Go p e below Fin' T (mkF m pc' Ls (.int v :: S))) : Go p e below Fin' T (mkF m pc Ls S) := by
  subst hp; exact G.via fun _ k => XS.iloadN X.here C.1 rfl (hb C.2.2.2.1 hd) hl k
theorem Go.iload (C : Cx p s m meth c Z own nm bytes maxL ret) (X : Stand p l e R s m args below meth c T locs cells slots) {k : Nat} {v : Int32} (hd : decode bytes pc = .ok (.iload k, 2)) (hl : Ls[k]? = some (.val (.int v))) (hp : pc + 2 = pc') (G : Go p e below Fin' T (mkF m pc' Ls (.int v :: S))) : Go p e below Fin' T (mkF m pc Ls S) := by
  subst hp; exact G.via fun _ k => XS.iload X.here C.1 rfl (hb C.2.2.2.1 hd) hl k
theorem Go.istoreN (C : Cx p s m meth c Z own nm bytes maxL ret) (X : Stand p l e R s m args below meth c T locs cells slots) {k : Fin 4} {v : Int32} (hd : decode bytes pc = .ok (.istore_n k, 1)) (hl : storeLocals Ls k.val (.int v) = some Ls') (hp : pc + 1 = pc') (G : Go p e below Fin' T (mkF m pc' Ls' S)) : Go p e below Fin' T (mkF m pc Ls (.int v :: S)) := by
  subst hp; exact G.via fun _ k => XS.istoreN X.here C.1 rfl (hb C.2.2.2.1 hd) rfl hl k
theorem Go.istore (C : Cx p s m meth c Z own nm bytes maxL ret) (X : Stand p l e R s m args below meth c T locs cells slots) {k : Nat} {v : Int32} (hd : decode bytes pc = .ok (.istore k, 2)) (hl : storeLocals Ls k (.int v) = some Ls') (hp : pc + 2 = pc') (G : Go p e below Fin' T (mkF m pc' Ls' S)) : Go p e below Fin' T (mkF m pc Ls (.int v :: S)) := by
  subst hp; exact G.via fun _ k => XS.istore X.here C.1 rfl (hb C.2.2.2.1 hd) rfl hl k
theorem Go.lloadN (C : Cx p s m meth c Z own nm bytes maxL ret) (X : Stand p l e R s m args below meth c T locs cells slots) {k : Fin 4} {v : Int64} (hd : decode bytes pc = .ok (.lload_n k, 1)) (hl : Ls[k.val]? = some (.val (.long v))) (hp : pc + 1 = pc') (G : Go p e below Fin' T (mkF m pc' Ls (.long v :: S))) : Go p e below Fin' T (mkF m pc Ls S) := by
  subst hp; exact G.via fun _ k => XS.lloadN X.here C.1 rfl (hb C.2.2.2.1 hd) hl k
theorem Go.lload (C : Cx p s m meth c Z own nm bytes maxL ret) (X : Stand p l e R s m args below meth c T locs cells slots) {k : Nat} {v : Int64} (hd : decode bytes pc = .ok (.lload k, 2)) (hl : Ls[k]? = some (.val (.long v))) (hp : pc + 2 = pc') (G : Go p e below Fin' T (mkF m pc' Ls (.long v :: S))) : Go p e below Fin' T (mkF m pc Ls S) := by
  subst hp; exact G.via fun _ k => XS.lload X.here C.1 rfl (hb C.2.2.2.1 hd) hl k
theorem Go.lstoreN (C : Cx p s m meth c Z own nm bytes maxL ret) (X : Stand p l e R s m args below meth c T locs cells slots) {k : Fin 4} {v : Int64} (hd : decode bytes pc = .ok (.lstore_n k, 1)) (hl : storeLocals Ls k.val (.long v) = some Ls') (hp : pc + 1 = pc') (G : Go p e below Fin' T (mkF m pc' Ls' S)) : Go p e below Fin' T (mkF m pc Ls (.long v :: S)) := by
  subst hp; exact G.via fun _ k => XS.lstoreN X.here C.1 rfl (hb C.2.2.2.1 hd) rfl hl k
theorem Go.lstore (C : Cx p s m meth c Z own nm bytes maxL ret) (X : Stand p l e R s m args below meth c T locs cells slots) {k : Nat} {v : Int64} (hd : decode bytes pc = .ok (.lstore k, 2)) (hl : storeLocals Ls k (.long v) = some Ls') (hp : pc + 2 = pc') (G : Go p e below Fin' T (mkF m pc' Ls' S)) : Go p e below Fin' T (mkF m pc Ls (.long v :: S)) := by
  subst hp; exact G.via fun _ k => XS.lstore X.here C.1 rfl (hb C.2.2.2.1 hd) rfl hl k
theorem Go.astoreN (C : Cx p s m meth c Z own nm bytes maxL ret) (X : Stand p l e R s m args below meth c T locs cells slots) {k : Fin 4} {v : Value} (hd : decode bytes pc = .ok (.astore_n k, 1)) (hv : v.isRef = true) (hl : storeLocals Ls k.val v = some Ls') (hp : pc + 1 = pc') (G : Go p e below Fin' T (mkF m pc' Ls' S)) : Go p e below Fin' T (mkF m pc Ls (v :: S)) := by
  subst hp; exact G.via fun _ k => XS.astoreN X.here C.1 rfl (hb C.2.2.2.1 hd) rfl hv hl k
theorem Go.astore (C : Cx p s m meth c Z own nm bytes maxL ret) (X : Stand p l e R s m args below meth c T locs cells slots) {k : Nat} {v : Value} (hd : decode bytes pc = .ok (.astore k, 2)) (hv : v.isRef = true) (hl : storeLocals Ls k v = some Ls') (hp : pc + 2 = pc') (G : Go p e below Fin' T (mkF m pc' Ls' S)) : Go p e below Fin' T (mkF m pc Ls (v :: S)) := by
  subst hp; exact G.via fun _ k => XS.astore X.here C.1 rfl (hb C.2.2.2.1 hd) rfl hv hl k
theorem Go.iconst (C : Cx p s m meth c Z own nm bytes maxL ret) (X : Stand p l e R s m args below meth c T locs cells slots) {i : Int} {z : Int32} (hd : decode bytes pc = .ok (.iconst i, 1)) (hz : Int32.ofInt i = z) (hp : pc + 1 = pc') (G : Go p e below Fin' T (mkF m pc' Ls (.int z :: S))) : Go p e below Fin' T (mkF m pc Ls S) := by
  subst hp; exact G.via fun _ k => XT.iconstV X.here C.1 rfl z (hb C.2.2.2.1 hd) hz k
theorem Go.bipush (C : Cx p s m meth c Z own nm bytes maxL ret) (X : Stand p l e R s m args below meth c T locs cells slots) {i : Int} {z : Int32} (hd : decode bytes pc = .ok (.bipush i, 2)) (hz : (Int8.ofInt i).toInt32 = z) (hp : pc + 2 = pc') (G : Go p e below Fin' T (mkF m pc' Ls (.int z :: S))) : Go p e below Fin' T (mkF m pc Ls S) := by
  subst hp; exact G.via fun _ k => XT.bipushV X.here C.1 rfl z (hb C.2.2.2.1 hd) hz k
theorem Go.sipush (C : Cx p s m meth c Z own nm bytes maxL ret) (X : Stand p l e R s m args below meth c T locs cells slots) {i : Int} {z : Int32} (hd : decode bytes pc = .ok (.sipush i, 3)) (hz : (Int16.ofInt i).toInt32 = z) (hp : pc + 3 = pc') (G : Go p e below Fin' T (mkF m pc' Ls (.int z :: S))) : Go p e below Fin' T (mkF m pc Ls S) := by
  subst hp; exact G.via fun _ k => XT.sipushV X.here C.1 rfl z (hb C.2.2.2.1 hd) hz k
theorem Go.lconst (C : Cx p s m meth c Z own nm bytes maxL ret) (X : Stand p l e R s m args below meth c T locs cells slots) {i : Fin 2} {z : Int64} (hd : decode bytes pc = .ok (.lconst i, 1)) (hz : Int64.ofNat i = z) (hp : pc + 1 = pc') (G : Go p e below Fin' T (mkF m pc' Ls (.long z :: S))) : Go p e below Fin' T (mkF m pc Ls S) := by
  subst hp; exact G.via fun _ k => XT.lconstV X.here C.1 rfl z (hb C.2.2.2.1 hd) hz k
theorem Go.aconstNull (C : Cx p s m meth c Z own nm bytes maxL ret) (X : Stand p l e R s m args below meth c T locs cells slots)  (hd : decode bytes pc = .ok (.aconst_null, 1))  (hp : pc + 1 = pc') (G : Go p e below Fin' T (mkF m pc' Ls (.null :: S))) : Go p e below Fin' T (mkF m pc Ls S) := by
  subst hp; exact G.via fun _ k => XS.aconstNull X.here C.1 rfl (hb C.2.2.2.1 hd) k
theorem Go.ldcI (C : Cx p s m meth c Z own nm bytes maxL ret) (X : Stand p l e R s m args below meth c T locs cells slots) {i : Nat} {z : Int32} (hd : decode bytes pc = .ok (.ldc i, 2)) (w : (Cond.constant own i z).before a0 Z = true) (hp : pc + 2 = pc') (G : Go p e below Fin' T (mkF m pc' Ls (.int z :: S))) : Go p e below Fin' T (mkF m pc Ls S) := by
  subst hp; exact G.via fun _ k => X.ldcI C.1 C.2.2.1 (mvT C.2.1 w) rfl (hb C.2.2.2.1 hd) k
theorem Go.ldcWI (C : Cx p s m meth c Z own nm bytes maxL ret) (X : Stand p l e R s m args below meth c T locs cells slots) {i : Nat} {z : Int32} (hd : decode bytes pc = .ok (.ldc_w i, 3)) (w : (Cond.constant own i z).before a0 Z = true) (hp : pc + 3 = pc') (G : Go p e below Fin' T (mkF m pc' Ls (.int z :: S))) : Go p e below Fin' T (mkF m pc Ls S) := by
  subst hp; exact G.via (X.ldcwInt C.1 C.2.2.1 (mvT C.2.1 w) (g := mkF m pc Ls S) rfl (hb C.2.2.2.1 hd))
theorem Go.ldc2J (C : Cx p s m meth c Z own nm bytes maxL ret) (X : Stand p l e R s m args below meth c T locs cells slots) {i : Nat} {z : Int64} (hd : decode bytes pc = .ok (.ldc2_w i, 3)) (w : (Cond.constantLong own i z).before a0 Z = true) (hp : pc + 3 = pc') (G : Go p e below Fin' T (mkF m pc' Ls (.long z :: S))) : Go p e below Fin' T (mkF m pc Ls S) := by
  subst hp; exact G.via fun _ k => X.ldc2J C.1 C.2.2.1 (mvT C.2.1 w) rfl (hb C.2.2.2.1 hd) k
theorem Go.iadd (C : Cx p s m meth c Z own nm bytes maxL ret) (X : Stand p l e R s m args below meth c T locs cells slots) {x y : Int32} (hd : decode bytes pc = .ok (.iadd, 1))  (hp : pc + 1 = pc') (G : Go p e below Fin' T (mkF m pc' Ls (.int (x + y) :: S))) : Go p e below Fin' T (mkF m pc Ls (.int y :: .int x :: S)) := by
  subst hp; exact G.via fun _ k => XS.iadd X.here C.1 rfl (hb C.2.2.2.1 hd) rfl k
theorem Go.ladd (C : Cx p s m meth c Z own nm bytes maxL ret) (X : Stand p l e R s m args below meth c T locs cells slots) {x y : Int64} (hd : decode bytes pc = .ok (.ladd, 1))  (hp : pc + 1 = pc') (G : Go p e below Fin' T (mkF m pc' Ls (.long (x + y) :: S))) : Go p e below Fin' T (mkF m pc Ls (.long y :: .long x :: S)) := by
  subst hp; exact G.via fun _ k => XS.ladd X.here C.1 rfl (hb C.2.2.2.1 hd) rfl k
theorem Go.isub (C : Cx p s m meth c Z own nm bytes maxL ret) (X : Stand p l e R s m args below meth c T locs cells slots) {x y : Int32} (hd : decode bytes pc = .ok (.isub, 1))  (hp : pc + 1 = pc') (G : Go p e below Fin' T (mkF m pc' Ls (.int (x - y) :: S))) : Go p e below Fin' T (mkF m pc Ls (.int y :: .int x :: S)) := by
  subst hp; exact G.via fun _ k => XS.isub X.here C.1 rfl (hb C.2.2.2.1 hd) rfl k
theorem Go.lsub (C : Cx p s m meth c Z own nm bytes maxL ret) (X : Stand p l e R s m args below meth c T locs cells slots) {x y : Int64} (hd : decode bytes pc = .ok (.lsub, 1))  (hp : pc + 1 = pc') (G : Go p e below Fin' T (mkF m pc' Ls (.long (x - y) :: S))) : Go p e below Fin' T (mkF m pc Ls (.long y :: .long x :: S)) := by
  subst hp; exact G.via fun _ k => XS.lsub X.here C.1 rfl (hb C.2.2.2.1 hd) rfl k
theorem Go.imul (C : Cx p s m meth c Z own nm bytes maxL ret) (X : Stand p l e R s m args below meth c T locs cells slots) {x y : Int32} (hd : decode bytes pc = .ok (.imul, 1))  (hp : pc + 1 = pc') (G : Go p e below Fin' T (mkF m pc' Ls (.int (x * y) :: S))) : Go p e below Fin' T (mkF m pc Ls (.int y :: .int x :: S)) := by
  subst hp; exact G.via fun _ k => XS.imul X.here C.1 rfl (hb C.2.2.2.1 hd) rfl k
theorem Go.lmul (C : Cx p s m meth c Z own nm bytes maxL ret) (X : Stand p l e R s m args below meth c T locs cells slots) {x y : Int64} (hd : decode bytes pc = .ok (.lmul, 1))  (hp : pc + 1 = pc') (G : Go p e below Fin' T (mkF m pc' Ls (.long (x * y) :: S))) : Go p e below Fin' T (mkF m pc Ls (.long y :: .long x :: S)) := by
  subst hp; exact G.via fun _ k => XS.lmul X.here C.1 rfl (hb C.2.2.2.1 hd) rfl k
theorem Go.iand (C : Cx p s m meth c Z own nm bytes maxL ret) (X : Stand p l e R s m args below meth c T locs cells slots) {x y : Int32} (hd : decode bytes pc = .ok (.iand, 1))  (hp : pc + 1 = pc') (G : Go p e below Fin' T (mkF m pc' Ls (.int (x &&& y) :: S))) : Go p e below Fin' T (mkF m pc Ls (.int y :: .int x :: S)) := by
  subst hp; exact G.via fun _ k => XS.iand X.here C.1 rfl (hb C.2.2.2.1 hd) rfl k
theorem Go.land (C : Cx p s m meth c Z own nm bytes maxL ret) (X : Stand p l e R s m args below meth c T locs cells slots) {x y : Int64} (hd : decode bytes pc = .ok (.land, 1))  (hp : pc + 1 = pc') (G : Go p e below Fin' T (mkF m pc' Ls (.long (x &&& y) :: S))) : Go p e below Fin' T (mkF m pc Ls (.long y :: .long x :: S)) := by
  subst hp; exact G.via fun _ k => XS.land X.here C.1 rfl (hb C.2.2.2.1 hd) rfl k
theorem Go.ior (C : Cx p s m meth c Z own nm bytes maxL ret) (X : Stand p l e R s m args below meth c T locs cells slots) {x y : Int32} (hd : decode bytes pc = .ok (.ior, 1))  (hp : pc + 1 = pc') (G : Go p e below Fin' T (mkF m pc' Ls (.int (x ||| y) :: S))) : Go p e below Fin' T (mkF m pc Ls (.int y :: .int x :: S)) := by
  subst hp; exact G.via fun _ k => XS.ior X.here C.1 rfl (hb C.2.2.2.1 hd) rfl k
theorem Go.lor (C : Cx p s m meth c Z own nm bytes maxL ret) (X : Stand p l e R s m args below meth c T locs cells slots) {x y : Int64} (hd : decode bytes pc = .ok (.lor, 1))  (hp : pc + 1 = pc') (G : Go p e below Fin' T (mkF m pc' Ls (.long (x ||| y) :: S))) : Go p e below Fin' T (mkF m pc Ls (.long y :: .long x :: S)) := by
  subst hp; exact G.via fun _ k => XS.lor X.here C.1 rfl (hb C.2.2.2.1 hd) rfl k
theorem Go.ixor (C : Cx p s m meth c Z own nm bytes maxL ret) (X : Stand p l e R s m args below meth c T locs cells slots) {x y : Int32} (hd : decode bytes pc = .ok (.ixor, 1))  (hp : pc + 1 = pc') (G : Go p e below Fin' T (mkF m pc' Ls (.int (x ^^^ y) :: S))) : Go p e below Fin' T (mkF m pc Ls (.int y :: .int x :: S)) := by
  subst hp; exact G.via fun _ k => XS.ixor X.here C.1 rfl (hb C.2.2.2.1 hd) rfl k
theorem Go.lxor (C : Cx p s m meth c Z own nm bytes maxL ret) (X : Stand p l e R s m args below meth c T locs cells slots) {x y : Int64} (hd : decode bytes pc = .ok (.lxor, 1))  (hp : pc + 1 = pc') (G : Go p e below Fin' T (mkF m pc' Ls (.long (x ^^^ y) :: S))) : Go p e below Fin' T (mkF m pc Ls (.long y :: .long x :: S)) := by
  subst hp; exact G.via fun _ k => XS.lxor X.here C.1 rfl (hb C.2.2.2.1 hd) rfl k
theorem Go.ishl (C : Cx p s m meth c Z own nm bytes maxL ret) (X : Stand p l e R s m args below meth c T locs cells slots) {x y : Int32} (hd : decode bytes pc = .ok (.ishl, 1))  (hp : pc + 1 = pc') (G : Go p e below Fin' T (mkF m pc' Ls (.int (x <<< (y &&& 31)) :: S))) : Go p e below Fin' T (mkF m pc Ls (.int y :: .int x :: S)) := by
  subst hp; exact G.via fun _ k => XS.ishl X.here C.1 rfl (hb C.2.2.2.1 hd) rfl k
theorem Go.ishr (C : Cx p s m meth c Z own nm bytes maxL ret) (X : Stand p l e R s m args below meth c T locs cells slots) {x y : Int32} (hd : decode bytes pc = .ok (.ishr, 1))  (hp : pc + 1 = pc') (G : Go p e below Fin' T (mkF m pc' Ls (.int (x >>> (y &&& 31)) :: S))) : Go p e below Fin' T (mkF m pc Ls (.int y :: .int x :: S)) := by
  subst hp; exact G.via fun _ k => XS.ishr X.here C.1 rfl (hb C.2.2.2.1 hd) rfl k
theorem Go.iushr (C : Cx p s m meth c Z own nm bytes maxL ret) (X : Stand p l e R s m args below meth c T locs cells slots) {x y : Int32} (hd : decode bytes pc = .ok (.iushr, 1))  (hp : pc + 1 = pc') (G : Go p e below Fin' T (mkF m pc' Ls (.int ((x.toUInt32 >>> (y &&& 31).toUInt32).toInt32) :: S))) : Go p e below Fin' T (mkF m pc Ls (.int y :: .int x :: S)) := by
  subst hp; exact G.via fun _ k => XS.iushr X.here C.1 rfl (hb C.2.2.2.1 hd) rfl k
theorem Go.lshl (C : Cx p s m meth c Z own nm bytes maxL ret) (X : Stand p l e R s m args below meth c T locs cells slots) {x : Int64} {y : Int32} (hd : decode bytes pc = .ok (.lshl, 1))  (hp : pc + 1 = pc') (G : Go p e below Fin' T (mkF m pc' Ls (.long (x <<< (y &&& 0x3f).toInt64) :: S))) : Go p e below Fin' T (mkF m pc Ls (.int y :: .long x :: S)) := by
  subst hp; exact G.via fun _ k => XS.lshl X.here C.1 rfl (hb C.2.2.2.1 hd) rfl k
theorem Go.lshr (C : Cx p s m meth c Z own nm bytes maxL ret) (X : Stand p l e R s m args below meth c T locs cells slots) {x : Int64} {y : Int32} (hd : decode bytes pc = .ok (.lshr, 1))  (hp : pc + 1 = pc') (G : Go p e below Fin' T (mkF m pc' Ls (.long (x >>> (y &&& 0x3f).toInt64) :: S))) : Go p e below Fin' T (mkF m pc Ls (.int y :: .long x :: S)) := by
  subst hp; exact G.via fun _ k => XS.lshr X.here C.1 rfl (hb C.2.2.2.1 hd) rfl k
theorem Go.lushr (C : Cx p s m meth c Z own nm bytes maxL ret) (X : Stand p l e R s m args below meth c T locs cells slots) {x : Int64} {y : Int32} (hd : decode bytes pc = .ok (.lushr, 1))  (hp : pc + 1 = pc') (G : Go p e below Fin' T (mkF m pc' Ls (.long ((x.toUInt64 >>> (y &&& 0x3f).toInt64.toUInt64).toInt64) :: S))) : Go p e below Fin' T (mkF m pc Ls (.int y :: .long x :: S)) := by
  subst hp; exact G.via fun _ k => XS.lushr X.here C.1 rfl (hb C.2.2.2.1 hd) rfl k
theorem Go.idiv (C : Cx p s m meth c Z own nm bytes maxL ret) (X : Stand p l e R s m args below meth c T locs cells slots) {x y : Int32} (hd : decode bytes pc = .ok (.idiv, 1)) (hy : y ≠ 0) (hp : pc + 1 = pc') (G : Go p e below Fin' T (mkF m pc' Ls (.int (x / y) :: S))) : Go p e below Fin' T (mkF m pc Ls (.int y :: .int x :: S)) := by
  subst hp; exact G.via fun _ k => XS.idiv X.here C.1 rfl (hb C.2.2.2.1 hd) rfl hy k
theorem Go.irem (C : Cx p s m meth c Z own nm bytes maxL ret) (X : Stand p l e R s m args below meth c T locs cells slots) {x y : Int32} (hd : decode bytes pc = .ok (.irem, 1)) (hy : y ≠ 0) (hp : pc + 1 = pc') (G : Go p e below Fin' T (mkF m pc' Ls (.int (x % y) :: S))) : Go p e below Fin' T (mkF m pc Ls (.int y :: .int x :: S)) := by
  subst hp; exact G.via fun _ k => iremM X C.1 rfl (hb C.2.2.2.1 hd) rfl hy k
theorem Go.ldiv (C : Cx p s m meth c Z own nm bytes maxL ret) (X : Stand p l e R s m args below meth c T locs cells slots) {x y : Int64} (hd : decode bytes pc = .ok (.ldiv, 1)) (hy : y ≠ 0) (hp : pc + 1 = pc') (G : Go p e below Fin' T (mkF m pc' Ls (.long (x / y) :: S))) : Go p e below Fin' T (mkF m pc Ls (.long y :: .long x :: S)) := by
  subst hp; exact G.via fun _ k => XS.ldiv X.here C.1 rfl (hb C.2.2.2.1 hd) rfl hy k
theorem Go.ineg (C : Cx p s m meth c Z own nm bytes maxL ret) (X : Stand p l e R s m args below meth c T locs cells slots) {x : Int32} (hd : decode bytes pc = .ok (.ineg, 1))  (hp : pc + 1 = pc') (G : Go p e below Fin' T (mkF m pc' Ls (.int (-x) :: S))) : Go p e below Fin' T (mkF m pc Ls (.int x :: S)) := by
  subst hp; exact G.via fun _ k => XS.ineg X.here C.1 rfl (hb C.2.2.2.1 hd) rfl k
theorem Go.lneg (C : Cx p s m meth c Z own nm bytes maxL ret) (X : Stand p l e R s m args below meth c T locs cells slots) {x : Int64} (hd : decode bytes pc = .ok (.lneg, 1))  (hp : pc + 1 = pc') (G : Go p e below Fin' T (mkF m pc' Ls (.long (-x) :: S))) : Go p e below Fin' T (mkF m pc Ls (.long x :: S)) := by
  subst hp; exact G.via fun _ k => XS.lneg X.here C.1 rfl (hb C.2.2.2.1 hd) rfl k
theorem Go.i2l (C : Cx p s m meth c Z own nm bytes maxL ret) (X : Stand p l e R s m args below meth c T locs cells slots) {x : Int32} (hd : decode bytes pc = .ok (.i2l, 1))  (hp : pc + 1 = pc') (G : Go p e below Fin' T (mkF m pc' Ls (.long (x.toInt64) :: S))) : Go p e below Fin' T (mkF m pc Ls (.int x :: S)) := by
  subst hp; exact G.via fun _ k => XS.i2l X.here C.1 rfl (hb C.2.2.2.1 hd) rfl k
theorem Go.l2i (C : Cx p s m meth c Z own nm bytes maxL ret) (X : Stand p l e R s m args below meth c T locs cells slots) {x : Int64} (hd : decode bytes pc = .ok (.l2i, 1))  (hp : pc + 1 = pc') (G : Go p e below Fin' T (mkF m pc' Ls (.int (x.toInt32) :: S))) : Go p e below Fin' T (mkF m pc Ls (.long x :: S)) := by
  subst hp; exact G.via fun _ k => XS.l2i X.here C.1 rfl (hb C.2.2.2.1 hd) rfl k
theorem Go.i2b (C : Cx p s m meth c Z own nm bytes maxL ret) (X : Stand p l e R s m args below meth c T locs cells slots) {x : Int32} (hd : decode bytes pc = .ok (.i2b, 1))  (hp : pc + 1 = pc') (G : Go p e below Fin' T (mkF m pc' Ls (.int (x.toInt8.toInt32) :: S))) : Go p e below Fin' T (mkF m pc Ls (.int x :: S)) := by
  subst hp; exact G.via fun _ k => XS.i2b X.here C.1 rfl (hb C.2.2.2.1 hd) rfl k
theorem Go.i2c (C : Cx p s m meth c Z own nm bytes maxL ret) (X : Stand p l e R s m args below meth c T locs cells slots) {x : Int32} (hd : decode bytes pc = .ok (.i2c, 1))  (hp : pc + 1 = pc') (G : Go p e below Fin' T (mkF m pc' Ls (.int (x.toUInt32.toUInt16.toUInt32.toInt32) :: S))) : Go p e below Fin' T (mkF m pc Ls (.int x :: S)) := by
  subst hp; exact G.via fun _ k => XS.i2c X.here C.1 rfl (hb C.2.2.2.1 hd) rfl k
theorem Go.i2s (C : Cx p s m meth c Z own nm bytes maxL ret) (X : Stand p l e R s m args below meth c T locs cells slots) {x : Int32} (hd : decode bytes pc = .ok (.i2s, 1))  (hp : pc + 1 = pc') (G : Go p e below Fin' T (mkF m pc' Ls (.int (x.toInt16.toInt32) :: S))) : Go p e below Fin' T (mkF m pc Ls (.int x :: S)) := by
  subst hp; exact G.via fun _ k => XS.i2s X.here C.1 rfl (hb C.2.2.2.1 hd) rfl k
theorem Go.lcmp (C : Cx p s m meth c Z own nm bytes maxL ret) (X : Stand p l e R s m args below meth c T locs cells slots) {x y : Int64} (hd : decode bytes pc = .ok (.lcmp, 1))  (hp : pc + 1 = pc') (G : Go p e below Fin' T (mkF m pc' Ls (.int (lcmpW x y) :: S))) : Go p e below Fin' T (mkF m pc Ls (.long y :: .long x :: S)) := by
  subst hp; exact G.via fun _ k => XS.lcmp X.here C.1 rfl (hb C.2.2.2.1 hd) rfl k
theorem Go.iinc (C : Cx p s m meth c Z own nm bytes maxL ret) (X : Stand p l e R s m args below meth c T locs cells slots) {k : Nat} {i : Int} {z x : Int32} (hd : decode bytes pc = .ok (.iinc k i, 3)) (hz : Int32.ofInt i = z) (hl : Ls[k]? = some (.val (.int x))) (hl' : storeLocals Ls k (.int (x + z)) = some Ls') (hp : pc + 3 = pc') (G : Go p e below Fin' T (mkF m pc' Ls' S)) : Go p e below Fin' T (mkF m pc Ls S) := by
  subst hp; exact G.via fun _ k => XT.iincV X.here C.1 rfl z (hb C.2.2.2.1 hd) hz hl hl' k
theorem Go.dup (C : Cx p s m meth c Z own nm bytes maxL ret) (X : Stand p l e R s m args below meth c T locs cells slots) {v : Value} (hd : decode bytes pc = .ok (.dup, 1)) (hc : v.category = 1) (hp : pc + 1 = pc') (G : Go p e below Fin' T (mkF m pc' Ls (v :: v :: S))) : Go p e below Fin' T (mkF m pc Ls (v :: S)) := by
  subst hp; exact G.via fun _ k => XS.dup X.here C.1 rfl (hb C.2.2.2.1 hd) rfl hc k
theorem Go.pop (C : Cx p s m meth c Z own nm bytes maxL ret) (X : Stand p l e R s m args below meth c T locs cells slots) {v : Value} (hd : decode bytes pc = .ok (.pop, 1)) (hc : v.category = 1) (hp : pc + 1 = pc') (G : Go p e below Fin' T (mkF m pc' Ls S)) : Go p e below Fin' T (mkF m pc Ls (v :: S)) := by
  subst hp; exact G.via fun _ k => XS.pop X.here C.1 rfl (hb C.2.2.2.1 hd) rfl hc k
theorem Go.dupX1 (C : Cx p s m meth c Z own nm bytes maxL ret) (X : Stand p l e R s m args below meth c T locs cells slots) {v w : Value} (hd : decode bytes pc = .ok (.dup_x1, 1)) (hc : v.category = 1) (hc' : w.category = 1) (hp : pc + 1 = pc') (G : Go p e below Fin' T (mkF m pc' Ls (v :: w :: v :: S))) : Go p e below Fin' T (mkF m pc Ls (v :: w :: S)) := by
  subst hp; exact G.via fun _ k => XS.dupX1 X.here C.1 rfl (hb C.2.2.2.1 hd) rfl hc hc' k
theorem Go.dup2 (C : Cx p s m meth c Z own nm bytes maxL ret) (X : Stand p l e R s m args below meth c T locs cells slots) {v w : Value} (hd : decode bytes pc = .ok (.dup2, 1)) (hc : v.category = 1) (hc' : w.category = 1) (hp : pc + 1 = pc') (G : Go p e below Fin' T (mkF m pc' Ls (v :: w :: v :: w :: S))) : Go p e below Fin' T (mkF m pc Ls (v :: w :: S)) := by
  subst hp; exact G.via fun _ k => XT.dup2 X.here C.1 rfl (hb C.2.2.2.1 hd) rfl hc hc' k
theorem Go.dup2L (C : Cx p s m meth c Z own nm bytes maxL ret) (X : Stand p l e R s m args below meth c T locs cells slots) {x : Int64} (hd : decode bytes pc = .ok (.dup2, 1))  (hp : pc + 1 = pc') (G : Go p e below Fin' T (mkF m pc' Ls (.long x :: .long x :: S))) : Go p e below Fin' T (mkF m pc Ls (.long x :: S)) := by
  subst hp; exact G.via fun _ k => XT.dup2L X.here C.1 rfl (hb C.2.2.2.1 hd) rfl k
theorem Go.goto (C : Cx p s m meth c Z own nm bytes maxL ret) (X : Stand p l e R s m args below meth c T locs cells slots)  {o : Int} (hd : decode bytes pc = .ok (.goto o, 3))  (ho : 0 ≤ (pc : Int) + o) (hp : ((pc : Int) + o).toNat = pc') (G : Go p e below Fin' T (mkF m pc' Ls S)) : Go p e below Fin' T (mkF m pc Ls S) :=
  G.via fun _ k => XS.goto X.here C.1 rfl rfl (hb C.2.2.2.1 hd) ho hp k
theorem Go.ifYes (C : Cx p s m meth c Z own nm bytes maxL ret) (X : Stand p l e R s m args below meth c T locs cells slots) {cd : ClassFile.Cond} {x : Int32} {o : Int} (hd : decode bytes pc = .ok (.ifCond cd o, 3)) (hc : ifCond.holds cd x = true) (ho : 0 ≤ (pc : Int) + o) (hp : ((pc : Int) + o).toNat = pc') (G : Go p e below Fin' T (mkF m pc' Ls S)) : Go p e below Fin' T (mkF m pc Ls (.int x :: S)) :=
  G.via fun _ k => XS.ifYes X.here C.1 rfl rfl (hb C.2.2.2.1 hd) rfl hc ho hp k
theorem Go.ifNo (C : Cx p s m meth c Z own nm bytes maxL ret) (X : Stand p l e R s m args below meth c T locs cells slots) {cd : ClassFile.Cond} {x : Int32} {o : Int} (hd : decode bytes pc = .ok (.ifCond cd o, 3)) (hc : ifCond.holds cd x = false) (hp : pc + 3 = pc') (G : Go p e below Fin' T (mkF m pc' Ls S)) : Go p e below Fin' T (mkF m pc Ls (.int x :: S)) := by
  subst hp; exact G.via fun _ k => XS.ifNo X.here C.1 rfl (hb C.2.2.2.1 hd) rfl hc k
theorem Go.icmpYes (C : Cx p s m meth c Z own nm bytes maxL ret) (X : Stand p l e R s m args below meth c T locs cells slots) {cd : ClassFile.Cond} {x y : Int32} {o : Int} (hd : decode bytes pc = .ok (.if_icmp cd o, 3)) (hc : if_icmp.holds cd x y = true) (ho : 0 ≤ (pc : Int) + o) (hp : ((pc : Int) + o).toNat = pc') (G : Go p e below Fin' T (mkF m pc' Ls S)) : Go p e below Fin' T (mkF m pc Ls (.int y :: .int x :: S)) :=
  G.via fun _ k => XS.icmpYes X.here C.1 rfl rfl (hb C.2.2.2.1 hd) rfl hc ho hp k
theorem Go.icmpNo (C : Cx p s m meth c Z own nm bytes maxL ret) (X : Stand p l e R s m args below meth c T locs cells slots) {cd : ClassFile.Cond} {x y : Int32} {o : Int} (hd : decode bytes pc = .ok (.if_icmp cd o, 3)) (hc : if_icmp.holds cd x y = false) (hp : pc + 3 = pc') (G : Go p e below Fin' T (mkF m pc' Ls S)) : Go p e below Fin' T (mkF m pc Ls (.int y :: .int x :: S)) := by
  subst hp; exact G.via fun _ k => XS.icmpNo X.here C.1 rfl (hb C.2.2.2.1 hd) rfl hc k
theorem Go.ifnullYes (C : Cx p s m meth c Z own nm bytes maxL ret) (X : Stand p l e R s m args below meth c T locs cells slots)  {o : Int} (hd : decode bytes pc = .ok (.ifnull o, 3))  (ho : 0 ≤ (pc : Int) + o) (hp : ((pc : Int) + o).toNat = pc') (G : Go p e below Fin' T (mkF m pc' Ls S)) : Go p e below Fin' T (mkF m pc Ls (.null :: S)) :=
  G.via fun _ k => XS.ifnullYes X.here C.1 rfl rfl (hb C.2.2.2.1 hd) rfl ho hp k
theorem Go.ifnullNo (C : Cx p s m meth c Z own nm bytes maxL ret) (X : Stand p l e R s m args below meth c T locs cells slots) {b : Addr} {o : Int} (hd : decode bytes pc = .ok (.ifnull o, 3))  (hp : pc + 3 = pc') (G : Go p e below Fin' T (mkF m pc' Ls S)) : Go p e below Fin' T (mkF m pc Ls (.ref b :: S)) := by
  subst hp; exact G.via fun _ k => XS.ifnullNo X.here C.1 rfl (hb C.2.2.2.1 hd) rfl k
theorem Go.ifnonnullYes (C : Cx p s m meth c Z own nm bytes maxL ret) (X : Stand p l e R s m args below meth c T locs cells slots) {b : Addr} {o : Int} (hd : decode bytes pc = .ok (.ifnonnull o, 3))  (ho : 0 ≤ (pc : Int) + o) (hp : ((pc : Int) + o).toNat = pc') (G : Go p e below Fin' T (mkF m pc' Ls S)) : Go p e below Fin' T (mkF m pc Ls (.ref b :: S)) :=
  G.via fun _ k => XS.ifnonnullYes X.here C.1 rfl rfl (hb C.2.2.2.1 hd) rfl ho hp k
theorem Go.ifnonnullNo (C : Cx p s m meth c Z own nm bytes maxL ret) (X : Stand p l e R s m args below meth c T locs cells slots)  {o : Int} (hd : decode bytes pc = .ok (.ifnonnull o, 3))  (hp : pc + 3 = pc') (G : Go p e below Fin' T (mkF m pc' Ls S)) : Go p e below Fin' T (mkF m pc Ls (.null :: S)) := by
  subst hp; exact G.via fun _ k => XS.ifnonnullNo X.here C.1 rfl (hb C.2.2.2.1 hd) rfl k
theorem Go.acmpYes (C : Cx p s m meth c Z own nm bytes maxL ret) (X : Stand p l e R s m args below meth c T locs cells slots) {cd : ClassFile.ACond} {v w : Value} {o : Int} (hd : decode bytes pc = .ok (.if_acmp cd o, 3)) (hv : v.isRef = true) (hw : w.isRef = true) (hc : XT.acmp cd v w = true) (ho : 0 ≤ (pc : Int) + o) (hp : ((pc : Int) + o).toNat = pc') (G : Go p e below Fin' T (mkF m pc' Ls S)) : Go p e below Fin' T (mkF m pc Ls (w :: v :: S)) :=
  G.via fun _ k => XT.acmpYes X.here C.1 rfl rfl (hb C.2.2.2.1 hd) rfl hv hw hc ho hp k
theorem Go.acmpNo (C : Cx p s m meth c Z own nm bytes maxL ret) (X : Stand p l e R s m args below meth c T locs cells slots) {cd : ClassFile.ACond} {v w : Value} {o : Int} (hd : decode bytes pc = .ok (.if_acmp cd o, 3)) (hv : v.isRef = true) (hw : w.isRef = true) (hc : XT.acmp cd v w = false) (hp : pc + 3 = pc') (G : Go p e below Fin' T (mkF m pc' Ls S)) : Go p e below Fin' T (mkF m pc Ls (w :: v :: S)) := by
  subst hp; exact G.via fun _ k => XT.acmpNo X.here C.1 rfl (hb C.2.2.2.1 hd) rfl hv hw hc k
theorem Go.tswIn (C : Cx p s m meth c Z own nm bytes maxL ret) (X : Stand p l e R s m args below meth c T locs cells slots) {dflt low high : Int} {offs : Array Int} {len : Nat} {o : Int} {i : Int32} (hd : decode bytes pc = .ok (.tableswitch dflt low high offs, len)) (hin : ¬ (i.toInt < low ∨ i.toInt > high)) (hoff : offs[(i.toInt - low).toNat]? = some o) (ho : 0 ≤ (pc : Int) + o) (hp : ((pc : Int) + o).toNat = pc') (G : Go p e below Fin' T (mkF m pc' Ls S)) : Go p e below Fin' T (mkF m pc Ls (.int i :: S)) :=
  G.via fun _ k => XS.tswIn X.here C.1 rfl rfl (hb C.2.2.2.1 hd) rfl hin hoff ho hp k
theorem Go.tswOut (C : Cx p s m meth c Z own nm bytes maxL ret) (X : Stand p l e R s m args below meth c T locs cells slots) {dflt low high : Int} {offs : Array Int} {len : Nat} {i : Int32} (hd : decode bytes pc = .ok (.tableswitch dflt low high offs, len)) (hout : i.toInt < low ∨ i.toInt > high) (ho : 0 ≤ (pc : Int) + dflt) (hp : ((pc : Int) + dflt).toNat = pc') (G : Go p e below Fin' T (mkF m pc' Ls S)) : Go p e below Fin' T (mkF m pc Ls (.int i :: S)) :=
  G.via fun _ k => XS.tswOut X.here C.1 rfl rfl (hb C.2.2.2.1 hd) rfl hout ho hp k
/-! the returns -/
theorem Go.retV (C : Cx p s m meth c Z own nm bytes maxL ret) (X : Stand p l e R s m args below meth c T locs cells slots)  (hr : ret = none) (hd : decode bytes pc = .ok (.return_, 1))  (hq : Q none T.heap locs) (hc : cells ≤ RC) (hs : slots ≤ RS) : Go p e below (Fn s RC RS Q) T (mkF m pc Ls []) := by
  have hret := C.2.2.2.2.2.1
  have hlk := C.2.2.2.2.2.2.2
  rw [hr] at hret
  obtain ⟨fs, hl, hrun, hended, hW, hsame⟩ := X.leave (v := none) (fun h => by first | rfl | (rw [hret] at h; cases h)) hlk
  exact ⟨_, _, X.returnOut C.1 hret (hb C.2.2.2.1 hd) hl, hrun, hended, _, _, rfl, hq, ⟨_, rfl⟩, hW, hsame.mono hc hs⟩
theorem Go.retN (C : Cx p s m meth c Z own nm bytes maxL ret) (X : Stand p l e R s m args below meth c T locs cells slots) {t : FieldType} {z : Int32} (hr : ret = some t) (hd : decode bytes pc = .ok (.ireturn, 1)) (ht : t = .boolean ∨ t = .byte ∨ t = .char ∨ t = .short) (hq : Q (some (.int (nar t z))) T.heap locs) (hc : cells ≤ RC) (hs : slots ≤ RS) : Go p e below (Fn s RC RS Q) T (mkF m pc Ls (.int z :: S)) := by
  have hret := C.2.2.2.2.2.1
  have hlk := C.2.2.2.2.2.2.2
  rw [hr] at hret
  obtain ⟨fs, hl, hrun, hended, hW, hsame⟩ := X.leave (v := (some (.int (nar t z)))) (fun h => by first | rfl | (rw [hret] at h; cases h)) hlk
  exact ⟨_, _, Jvm.RoadKit.retN X C.1 hret ht (hb C.2.2.2.1 hd) hl, hrun, hended, _, _, rfl, hq, ⟨_, rfl⟩, hW, hsame.mono hc hs⟩
theorem Go.retI (C : Cx p s m meth c Z own nm bytes maxL ret) (X : Stand p l e R s m args below meth c T locs cells slots) {z : Int32} (hr : ret = some .int) (hd : decode bytes pc = .ok (.ireturn, 1))  (hq : Q (some (.int z)) T.heap locs) (hc : cells ≤ RC) (hs : slots ≤ RS) : Go p e below (Fn s RC RS Q) T (mkF m pc Ls (.int z :: S)) := by
  have hret := C.2.2.2.2.2.1
  have hlk := C.2.2.2.2.2.2.2
  rw [hr] at hret
  obtain ⟨fs, hl, hrun, hended, hW, hsame⟩ := X.leave (v := (some (.int z))) (fun h => by first | rfl | (rw [hret] at h; cases h)) hlk
  exact ⟨_, _, retOut X C.1 hret rfl (Or.inl ⟨rfl, Or.inl rfl, z, rfl⟩) (hb C.2.2.2.1 hd) hl, hrun, hended, _, _, rfl, hq, ⟨_, rfl⟩, hW, hsame.mono hc hs⟩
theorem Go.retJ (C : Cx p s m meth c Z own nm bytes maxL ret) (X : Stand p l e R s m args below meth c T locs cells slots) {z : Int64} (hr : ret = some .long) (hd : decode bytes pc = .ok (.lreturn, 1))  (hq : Q (some (.long z)) T.heap locs) (hc : cells ≤ RC) (hs : slots ≤ RS) : Go p e below (Fn s RC RS Q) T (mkF m pc Ls (.long z :: S)) := by
  have hret := C.2.2.2.2.2.1
  have hlk := C.2.2.2.2.2.2.2
  rw [hr] at hret
  obtain ⟨fs, hl, hrun, hended, hW, hsame⟩ := X.leave (v := (some (.long z))) (fun h => by first | rfl | (rw [hret] at h; cases h)) hlk
  exact ⟨_, _, retOut X C.1 hret rfl (Or.inr (Or.inl ⟨rfl, rfl, z, rfl⟩)) (hb C.2.2.2.1 hd) hl, hrun, hended, _, _, rfl, hq, ⟨_, rfl⟩, hW, hsame.mono hc hs⟩
theorem Go.retA (C : Cx p s m meth c Z own nm bytes maxL ret) (X : Stand p l e R s m args below meth c T locs cells slots) {t : FieldType} {v : Value} (hr : ret = some t) (hd : decode bytes pc = .ok (.areturn, 1)) (ht : t.isReference = true) (hv : v.isRef = true) (hn : narrow t v = v) (hq : Q (some v) T.heap locs) (hc : cells ≤ RC) (hs : slots ≤ RS) : Go p e below (Fn s RC RS Q) T (mkF m pc Ls (v :: S)) := by
  have hret := C.2.2.2.2.2.1
  have hlk := C.2.2.2.2.2.2.2
  rw [hr] at hret
  obtain ⟨fs, hl, hrun, hended, hW, hsame⟩ := X.leave (v := (some v)) (fun h => by first | rfl | (rw [hret] at h; cases h)) hlk
  exact ⟨_, _, retOut X C.1 hret hn (Or.inr (Or.inr (Or.inr (Or.inr ⟨rfl, ht, hv⟩)))) (hb C.2.2.2.1 hd) hl, hrun, hended, _, _, rfl, hq, ⟨_, rfl⟩, hW, hsame.mono hc hs⟩
/-! arrays whose elements are all known -/
def AL (Z : State) (h : Heap) (a : Addr) (k : ClassId) (ty : FieldType) (vs : List Value) : Prop := ∃ c : Cell, Arr Z h a c ty ∧ c.cls = k ∧ c.slots = vs.toArray
theorem AL.lt {a : Addr} {k : ClassId} {ty : FieldType} {vs : List Value} (F : AL Z h a k ty vs) : a < h.size := by obtain ⟨c, A, -⟩ := F; exact A.lt
theorem AL.ext {h' : Heap} {a : Addr} {k : ClassId} {ty : FieldType} {vs : List Value} (E : Ext h h') (F : AL Z h a k ty vs) : AL Z h' a k ty vs := by obtain ⟨c, A, r⟩ := F; exact ⟨c, A.ext E, r⟩
theorem AL.other {h' : Heap} {a b : Addr} {sl : Nat} {v : Value} {k : ClassId} {ty : FieldType} {vs : List Value} (W : Wr h h' a sl v) (F : AL Z h b k ty vs) (q : b ≠ a) : AL Z h' b k ty vs := by obtain ⟨c, A, r⟩ := F; exact ⟨c, A.other W q, r⟩
theorem AL.keep {h' : Heap} {a : Addr} {ws : List Addr} {k : ClassId} {ty : FieldType} {vs : List Value} (F : AL Z h a k ty vs) (K : Keep h h' ws) (q : a ∉ ws) : AL Z h' a k ty vs := by obtain ⟨c, A, r⟩ := F; exact ⟨c, ⟨K.2.1 a c A.1 q, A.2⟩, r⟩
theorem AL.set {h' : Heap} {a : Addr} {i : Nat} {v : Value} {k : ClassId} {ty : FieldType} {vs : List Value} (F : AL Z h a k ty vs) (W : Wr h h' a i v) : AL Z h' a k ty (vs.set i v) := by
  obtain ⟨c, A, r1, r2⟩ := F
  exact ⟨_, A.same W, r1, by simp [Cell.setSlot, r2]⟩
theorem AL.new {a : Addr} {k : ClassId} {ty : FieldType} {n : Int32} (A : Arr Z h a (newA k ty n) ty) : AL Z h a k ty (List.replicate n.toNatClampNeg (defaultValue ty)) := ⟨_, A, rfl, by simp [newA]⟩
theorem AL.arv {a : Addr} {k : ClassId} {ty : FieldType} {n : Int32} {vs : List Value} {dv : Value} (F : AL Z h a k ty vs) (hn : ¬ n < 0) (hl : n.toNatClampNeg = vs.length) (hf : ∀ v ∈ vs, fits ty v = true) : Arv Z h a k ty n vs dv := by
  obtain ⟨c, A, r1, r2⟩ := F
  refine ⟨c, A, r1, by rw [r2]; simp [hl], hn, fun i hi => ?_, fun i hi => ?_⟩
  · have hi' : i < vs.length := by simpa [r2] using hi
    simp [r2, List.getD, List.getElem?_eq_getElem hi']
  · have hi' : i < vs.length := by simpa [r2] using hi
    have q : vs.getD i dv = vs[i] := by simp [List.getD, List.getElem?_eq_getElem hi']
    rw [q]; exact hf _ (List.getElem_mem hi')
theorem AL.of_arv {a : Addr} {k : ClassId} {ty : FieldType} {n : Int32} {vs : List Value} {dv : Value} (F : Arv Z h a k ty n vs dv) (hl : n.toNatClampNeg = vs.length) : AL Z h a k ty vs := by
  obtain ⟨c, A, r1, r2, -, H, -⟩ := F
  refine ⟨c, A, r1, ?_⟩
  apply Array.ext_getElem?
  intro i
  by_cases hi : i < c.slots.size
  · have hi' : i < vs.length := by omega
    rw [H i hi]
    simp [List.getD, List.getElem?_eq_getElem hi']
  · have hi' : vs.length ≤ i := by omega
    rw [Array.getElem?_eq_none (by omega)]
    simp [List.getElem?_eq_none hi']
theorem Sta.old {n d K1 : String} {v : Value} (F : Sta Z Z.heap K1 n d v) (O : Ext Z.heap h) : Sta Z h K1 n d v := F.ext O
theorem Ext.trans {h1 h2 h3 : Heap} (E : Ext h1 h2) (E' : Ext h2 h3) : Ext h1 h3 := ⟨Nat.le_trans E.1 E'.1, fun x c q => E'.2 x c (E.2 x c q)⟩
theorem Ext.refl (h : Heap) : Ext h h := ⟨Nat.le_refl _, fun _ _ q => q⟩
theorem Ext.wr {h1 h2 h3 : Heap} {a : Addr} {sl : Nat} {v : Value} (E : Ext h1 h2) (W : Wr h2 h3 a sl v) (q : h1.size ≤ a) : Ext h1 h3 := by
  refine ⟨by rw [W.size]; exact E.1, fun x c hx => ?_⟩
  obtain ⟨c', e1, -, -, -, e5, -⟩ := wr_at W (E.2 x c hx)
  have ne : x ≠ a := fun e => absurd (Array.getElem?_eq_some_iff.mp hx).1 (by rw [e]; exact Nat.not_lt.mpr q)
  rw [← e5 ne]; exact e1
theorem Ext.keep {h1 h2 h3 : Heap} {ws : List Addr} (E : Ext h1 h2) (K : Keep h2 h3 ws) (q : ∀ x ∈ ws, h1.size ≤ x) : Ext h1 h3 := ⟨Nat.le_trans E.1 K.1, fun x c hx => K.2.1 x c (E.2 x c hx) fun z => absurd (Array.getElem?_eq_some_iff.mp hx).1 (Nat.not_lt.mpr (q x z))⟩
theorem Keep.toExt {h1 h2 : Heap} (K : Keep h1 h2 []) : Ext h1 h2 := ⟨K.1, fun x c hx => K.2.1 x c hx (fun z => nomatch z)⟩
theorem Keep.of_ext {h1 h2 : Heap} {ws : List Addr} (E : Ext h1 h2) : Keep h1 h2 ws := (Keep.refl h1 ws).ext E
theorem Keep.drop {h1 h2 : Heap} {ws ws' : List Addr} (K : Keep h1 h2 ws) (q : ∀ x ∈ ws, x ∈ ws' ∨ h1.size ≤ x) : Keep h1 h2 ws' := (Keep.refl h1 ws').trans K q
theorem Ins.keep {h' : Heap} {a : Addr} {ws : List Addr} {K1 : String} {bo : Bool} (F : Ins Z h a K1 bo) (K : Keep h h' ws) : Ins Z h' a K1 bo := by
  obtain ⟨cell, cT, h1, h2, h3⟩ := F
  obtain ⟨c', e1, e2, e3, -⟩ := K.2.2 _ _ h1
  exact ⟨c', cT, e1, h2, by rw [e2, e3]; exact h3⟩
/-! steps that read the tables or the heap -/
theorem Go.getF (C : Cx p s m meth c Z own nm bytes maxL ret) (X : Stand p l e R s m args below meth c T locs cells slots) {idx : Nat} {R0 O n d host : String} {a : Addr} {v : Value} (w : (Cond.fieldLink own idx R0 n d).before a0 Z = true ∨ (Cond.fieldLinkNest own idx R0 n d host).before a0 Z = true) (via : Via Z R0 O n d) (eT : T.heap = h) (F : Fld Z h a O n d v) (hd : decode bytes pc = .ok (.getfield idx, 3)) (hp : pc + 3 = pc')
    (K : ∀ T', Stand p l e R s m args below meth c T' locs cells slots → T'.heap = h → Go p e below Fin' T' (mkF m pc' Ls (v :: S))) : Go p e below Fin' T (mkF m pc Ls (.ref a :: S)) := by
  subst hp
  obtain ⟨T', X', e', st⟩ := Jvm.RoadKit.getF X C.1 C.2.1 C.2.2.1 w via eT F (g := mkF m pc Ls (.ref a :: S)) rfl rfl (hb C.2.2.2.1 hd)
  exact (K T' X' e').via st
theorem Go.getS (C : Cx p s m meth c Z own nm bytes maxL ret) (X : Stand p l e R s m args below meth c T locs cells slots) {idx : Nat} {R0 O n d host : String} {v : Value} (w : (Cond.fieldLink own idx R0 n d).before a0 Z = true ∨ (Cond.fieldLinkNest own idx R0 n d host).before a0 Z = true) (via : Via Z R0 O n d) (eT : T.heap = h) (F : Sta Z h O n d v) (hd : decode bytes pc = .ok (.getstatic idx, 3)) (hp : pc + 3 = pc')
    (K : ∀ T', Stand p l e R s m args below meth c T' locs cells slots → T'.heap = h → Go p e below Fin' T' (mkF m pc' Ls (v :: S))) : Go p e below Fin' T (mkF m pc Ls S) := by
  subst hp
  obtain ⟨T', X', e', st⟩ := getS2 X C.1 C.2.1 C.2.2.1 w via eT F (g := mkF m pc Ls S) rfl (hb C.2.2.2.1 hd)
  exact (K T' X' e').via st
theorem Go.putF (C : Cx p s m meth c Z own nm bytes maxL ret) (X : Stand p l e R s m args below meth c T locs cells slots) {idx kk : Nat} {R0 O n d host K1 : String} {a : Addr} {v old : Value} {ty : FieldType} (w : (Cond.fieldLink own idx R0 n d).before a0 Z = true ∨ (Cond.fieldLinkNest own idx R0 n d host).before a0 Z = true) (via : Via Z R0 O n d) (eT : T.heap = h) (F : Fld Z h a O n d old) (E : Exa Z h a K1) (L : (Cond.lays K1 O n d).before a0 Z = true ∨ ((Cond.laysFinal K1 O n d).before a0 Z = true ∧ own = O ∧ nm = "<init>")) (wi : (Cond.instantiable K1 kk).before a0 Z = true) (hty : parseFieldDescriptor d = some ty) (hn : narrow ty v = v) (hf : fits ty v = true) (hd : decode bytes pc = .ok (.putfield idx, 3)) (hp : pc + 3 = pc')
    (K : ∀ T' h', Stand p l e R s m args below meth c T' (locs ++ [⟨a, slotOf Z O n d⟩]) cells slots → T'.heap = h' → Wr h h' a (slotOf Z O n d) v → Fld Z h' a O n d v → Go p e below Fin' T' (mkF m pc' Ls S)) : Go p e below Fin' T (mkF m pc Ls (v :: .ref a :: S)) := by
  subst hp
  obtain ⟨T', h', X', e', W', st⟩ := Jvm.RoadKit.putF X C.1 C.2.1 C.2.2.1 w via eT F E (L.imp id fun q => ⟨q.1, q.2.1, C.2.2.2.2.2.2.1.trans q.2.2⟩) wi hty hn hf (g := mkF m pc Ls (v :: .ref a :: S)) rfl rfl (hb C.2.2.2.1 hd)
  exact (K T' h' X' e' W' (F.same W')).via st
theorem Go.putFN (C : Cx p s m meth c Z own nm bytes maxL ret) (X : Stand p l e R s m args below meth c T locs cells slots) {idx kk : Nat} {R0 O n d K1 : String} {a : Addr} {v v' old : Value} {ty : FieldType} (w : (Cond.fieldLink own idx R0 n d).before a0 Z = true) (via : Via Z R0 O n d) (eT : T.heap = h) (F : Fld Z h a O n d old) (E : Exa Z h a K1) (L : (Cond.lays K1 O n d).before a0 Z = true ∨ ((Cond.laysFinal K1 O n d).before a0 Z = true ∧ own = O ∧ nm = "<init>")) (wi : (Cond.instantiable K1 kk).before a0 Z = true) (hty : parseFieldDescriptor d = some ty) (hn : narrow ty v = v') (hf : fits ty v' = true) (hd : decode bytes pc = .ok (.putfield idx, 3)) (hp : pc + 3 = pc')
    (K : ∀ T' h', Stand p l e R s m args below meth c T' (locs ++ [⟨a, slotOf Z O n d⟩]) cells slots → T'.heap = h' → Wr h h' a (slotOf Z O n d) v' → Fld Z h' a O n d v' → Go p e below Fin' T' (mkF m pc' Ls S)) : Go p e below Fin' T (mkF m pc Ls (v :: .ref a :: S)) := by
  subst hp
  obtain ⟨T', h', X', e', W', st⟩ := Jvm.RoadKit.putFN X C.1 C.2.1 C.2.2.1 w via eT F E (L.imp id fun q => ⟨q.1, q.2.1, C.2.2.2.2.2.2.1.trans q.2.2⟩) wi hty hn hf (g := mkF m pc Ls (v :: .ref a :: S)) rfl rfl (hb C.2.2.2.1 hd)
  exact (K T' h' X' e' W' (F.same W')).via st
theorem Go.newO (C : Cx p s m meth c Z own nm bytes maxL ret) (X : Stand p l e R s m args below meth c T locs cells slots) {idx n : Nat} {K1 : String} (w : (Cond.classLink own idx K1).before a0 Z = true) (wi : (Cond.instantiable K1 n).before a0 Z = true) (wz : (Cond.initialized K1).before a0 Z = true) (eT : T.heap = h) (hc : cells + 1 ≤ R.cells) (hl : slots + n ≤ R.slots) (hd : decode bytes pc = .ok (.new idx, 3)) (hp : pc + 3 = pc')
    (K : ∀ T' h' b, Stand p l e R s m args below meth c T' locs (cells + 1) (slots + n) → T'.heap = h' → b = h.size → Ext h h' → Exa Z h' b K1 → (∀ {O nm d : String} {ty : FieldType}, Laid Z a0 K1 O nm d → parseFieldDescriptor d = some ty → Fld Z h' b O nm d (defaultValue ty)) → Go p e below Fin' T' (mkF m pc' Ls (.ref b :: S))) : Go p e below Fin' T (mkF m pc Ls S) := by
  subst hp
  obtain ⟨T', h', X', e', E', A', D', -, st⟩ := Jvm.RoadKit.newO X C.1 C.2.1 C.2.2.1 w wi wz eT (g := mkF m pc Ls S) rfl (hb C.2.2.2.1 hd) hc hl
  exact (K T' h' h.size X' e' rfl E' A' D').via st
theorem Go.newP (C : Cx p s m meth c Z own nm bytes maxL ret) (X : Stand p l e R s m args below meth c T locs cells slots) {aty : ArrayType} {n : Int32} {cap : Nat} {vs : List Value} {ad : String} (had : "[" ++ (newarray.typeOf aty).toString = ad) (w : (Cond.arrayClass (newarray.typeOf aty)).before a0 Z = true) (eT : T.heap = h) (hn : ¬ n < 0) (hcap : n.toNatClampNeg ≤ cap) (hb8 : cap * 8 ≤ 536870912) (hc : cells + 1 ≤ R.cells) (hl : slots + cap ≤ R.slots) (hvs : List.replicate n.toNatClampNeg (defaultValue (newarray.typeOf aty)) = vs) (hd : decode bytes pc = .ok (.newarray aty, 2)) (hp : pc + 2 = pc')
    (K : ∀ T' h' b k, Stand p l e R s m args below meth c T' locs (cells + 1) (slots + cap) → T'.heap = h' → b = h.size → Ext h h' → AL Z h' b k (newarray.typeOf aty) vs → Exa Z h' b ad → Go p e below Fin' T' (mkF m pc' Ls (.ref b :: S))) : Go p e below Fin' T (mkF m pc Ls (.int n :: S)) := by
  subst hp
  obtain ⟨T', h', k, X', e', E', A', E2, st⟩ := Jvm.RoadKit.newPE X C.1 C.2.1 w eT (g := mkF m pc Ls (.int n :: S)) rfl (hb C.2.2.2.1 hd) rfl hn hcap hb8 hc hl had
  exact (K T' h' h.size k X' e' rfl E' (hvs ▸ AL.new A') E2).via st
theorem Go.newR (C : Cx p s m meth c Z own nm bytes maxL ret) (X : Stand p l e R s m args below meth c T locs cells slots) {idx : Nat} {K1 ad : String} {n : Int32} {cap : Nat} {vs : List Value} (had : "[" ++ (FieldType.object K1).toString = ad) (w : (Cond.classLink own idx K1).before a0 Z = true) (w2 : (Cond.arrayOver (.object K1)).before a0 Z = true) (eT : T.heap = h) (hn : ¬ n < 0) (hcap : n.toNatClampNeg ≤ cap) (hb8 : cap * 8 ≤ 536870912) (hc : cells + 1 ≤ R.cells) (hl : slots + cap ≤ R.slots) (hvs : List.replicate n.toNatClampNeg (defaultValue (.object K1)) = vs) (hd : decode bytes pc = .ok (.anewarray idx, 3)) (hp : pc + 3 = pc')
    (K : ∀ T' h' b k, Stand p l e R s m args below meth c T' locs (cells + 1) (slots + cap) → T'.heap = h' → b = h.size → Ext h h' → AL Z h' b k (.object K1) vs → Exa Z h' b ad → Ovr Z k K1 → Go p e below Fin' T' (mkF m pc' Ls (.ref b :: S))) : Go p e below Fin' T (mkF m pc Ls (.int n :: S)) := by
  subst hp
  obtain ⟨T', h', k, X', e', E', A', E2, O', st⟩ := Jvm.RoadKit.newRE X C.1 C.2.1 C.2.2.1 w w2 eT (g := mkF m pc Ls (.int n :: S)) rfl (hb C.2.2.2.1 hd) rfl hn hcap hb8 hc hl had
  exact (K T' h' h.size k X' e' rfl E' (hvs ▸ AL.new A') E2 O').via st
theorem Go.newRA (C : Cx p s m meth c Z own nm bytes maxL ret) (X : Stand p l e R s m args below meth c T locs cells slots) {idx : Nat} {K1 ad : String} {ty : FieldType} {n : Int32} {cap : Nat} {vs : List Value} (hC : (FieldType.array ty).toString = K1) (had : "[" ++ K1 = ad) (w : (Cond.classLink own idx K1).before a0 Z = true) (w2 : (Cond.arrayOver (.array ty)).before a0 Z = true) (eT : T.heap = h) (hn : ¬ n < 0) (hcap : n.toNatClampNeg ≤ cap) (hb8 : cap * 8 ≤ 536870912) (hc : cells + 1 ≤ R.cells) (hl : slots + cap ≤ R.slots) (hvs : List.replicate n.toNatClampNeg (defaultValue (.array ty)) = vs) (hd : decode bytes pc = .ok (.anewarray idx, 3)) (hp : pc + 3 = pc')
    (K : ∀ T' h' b k, Stand p l e R s m args below meth c T' locs (cells + 1) (slots + cap) → T'.heap = h' → b = h.size → Ext h h' → AL Z h' b k (.array ty) vs → Exa Z h' b ad → OvrA Z k ty K1 → Go p e below Fin' T' (mkF m pc' Ls (.ref b :: S))) : Go p e below Fin' T (mkF m pc Ls (.int n :: S)) := by
  subst hp
  obtain ⟨T', h', k, X', e', E', A', E2, O', st⟩ := Jvm.RoadKit.newRA X C.1 C.2.1 C.2.2.1 hC w w2 eT (g := mkF m pc Ls (.int n :: S)) rfl (hb C.2.2.2.1 hd) rfl hn hcap hb8 hc hl had
  exact (K T' h' h.size k X' e' rfl E' (hvs ▸ AL.new A') E2 O').via st
theorem AL.stoA {a y : Addr} {k : ClassId} {t0 ty : FieldType} {vs : List Value} {K1 : String} (F : AL Z h a k t0 vs) (O : OvrA Z k ty K1) (I : Ins Z h y K1 true) : Sto Z h a (.ref y) := by
  obtain ⟨c, A, r, -⟩ := F; exact Sto.ofVA A r O I
theorem Go.getFR (C : Cx p s m meth c Z own nm bytes maxL ret) (X : Stand p l e R s m args below meth c T locs cells slots) {idx : Nat} {O n d : String} {a : Addr} {v : Value} (w : (Cond.fieldRef own idx O n d).before a0 Z = true) (eT : T.heap = h) (F : Fld Z h a O n d v) (hd : decode bytes pc = .ok (.getfield idx, 3)) (hp : pc + 3 = pc')
    (K : Go p e below Fin' T (mkF m pc' Ls (v :: S))) : Go p e below Fin' T (mkF m pc Ls (.ref a :: S)) := by
  subst hp
  obtain ⟨cell, cf, k, i, f, h1, h2, h3, h4, -, -, h7⟩ := F
  have hZT : Z.Warmed39 T.vm := wtrans C.2.1 X.warmed
  have w' : (Cond.fieldRef own idx O n d).before args T = true := (Cond.fieldRef_warmed39 hZT w :)
  have hown : T.vm.findClass own = some m.cls := by rw [X.warmed.alike.findClass]; exact C.2.2.1
  obtain ⟨c', k', i', f', e1, hr⟩ := Cond.fieldRef_spec hown w'
  obtain ⟨k2, q1, -⟩ := State.fieldFound?_setVm (s := Z) hZT.alike h2
  have q1' : T.fieldFound? O n d = some (cf, k2, i, f) := q1
  cases q1'.symm.trans e1
  exact K.via fun t kt => (X.getfieldR C.1 (g := mkF m pc Ls (.ref a :: S)) rfl hr h3 rfl (by rw [eT]; exact h1) h4 h7 (hb C.2.2.2.1 hd) (Steps.refl _)).trans kt
theorem Go.clone (C : Cx p s m meth c Z own nm bytes maxL ret) (X : Stand p l e R s m args below meth c T locs cells slots) {idx : Nat} {ad : String} {a : Addr} {k : ClassId} {ty : FieldType} {vs : List Value} {W cap : Nat} (w1 : (Cond.methodLink own idx ⟨ad, "clone", "()Ljava/lang/Object;"⟩).before a0 Z = true) (w2 : (Cond.sameMethod ad "java/lang/Object" "clone" "()Ljava/lang/Object;").before a0 Z = true) (w3 : (Cond.native ⟨"java/lang/Object", "clone", "()Ljava/lang/Object;"⟩).before a0 Z = true) (w4 : (Cond.instanceMethod ⟨"java/lang/Object", "clone", "()Ljava/lang/Object;"⟩).before a0 Z = true) (w5 : (Cond.selects ad ⟨ad, "clone", "()Ljava/lang/Object;"⟩ ⟨"java/lang/Object", "clone", "()Ljava/lang/Object;"⟩).before a0 Z = true) (w6 : (Cond.castable ad "java/lang/Cloneable").before a0 Z = true) (eT : T.heap = h) (F : AL Z h a k ty vs) (E : Exa Z h a ad) (hfit : ∀ v ∈ vs, fits ty v = true) (hls : Ls.size = maxL) (hf : 1 ≤ R.frames) (hW : (S.map fun v => v.category).sum ≤ W) (hlo : W + 14 ≤ R.locals) (hcap : vs.length ≤ cap) (hc : cells + 1 ≤ R.cells) (hsl : slots + cap ≤ R.slots) (hd : decode bytes pc = .ok (.invokevirtual idx, 3)) (hp : pc + 3 = pc')
    (K : ∀ T' h' b, Stand p l e R s m args below meth c T' locs (cells + 1) (slots + cap) → T'.heap = h' → b = h.size → Ext h h' → AL Z h' b k ty vs → Exa Z h' b ad → Go p e below Fin' T' (mkF m pc' Ls (.ref b :: S))) : Go p e below Fin' T (mkF m pc Ls (.ref a :: S)) := by
  subst hp
  obtain ⟨cl, A, q1, q2⟩ := F
  have FC : FitC Z cl := fitC_of A fun i hi v hv => by
    rw [q2] at hv
    exact hfit v (List.mem_of_getElem? (by simpa using hv))
  have hsz : cl.slots.size = vs.length := by rw [q2]; simp
  obtain ⟨T', h', X', e', ex, A', E', st⟩ := cloneA X C.1 C.2.1 C.2.2.1 w1 w2 w3 w4 w5 w6 eT A E FC (g := mkF m pc Ls (.ref a :: S)) rfl (by show Ls.size = _; rw [C.2.2.2.2.1]; exact hls) rfl (hb C.2.2.2.1 hd) hf (W := W) (by show 2 * 0 + _ ≤ _; omega) hlo (cap := cap) (by omega) hc hsl
  exact (K T' h' h.size X' e' rfl ex ⟨cloneOf cl, A', q1, q2⟩ E').via st
theorem range_drop (vs : List Value) (dv : Value) (i n : Nat) (hn : i + n ≤ vs.length) : ((List.range n).map fun j => vs.getD (i + j) dv) = (vs.drop i).take n := by
  apply List.ext_getElem
  · simp; omega
  · intro j h1 h2
    have h3 : i + j < vs.length := by simp at h1; omega
    simp [List.getD, List.getElem?_eq_getElem h3]
theorem Go.arrcopy (C : Cx p s m meth c Z own nm bytes maxL ret) (X : Stand p l e R s m args below meth c T locs cells slots) {idx : Nat} {a b : Addr} {k k' : ClassId} {ty ty' : FieldType} {vs vd vd' : List Value} {sp dp nn : Int32} {i j n W : Nat} (w1 : (Cond.methodLink own idx Jvm.Stand.acN).before a0 Z = true) (w2 : (Cond.native Jvm.Stand.acN).before a0 Z = true) (w3 : (Cond.static Jvm.Stand.acN).before a0 Z = true) (w4 : (Cond.initialized "java/lang/System").before a0 Z = true) (eT : T.heap = h) (A : AL Z h a k ty vs) (B : AL Z h b k' ty' vd) (hfa : ∀ v ∈ vs, fits ty v = true) (hfb : ∀ v ∈ vd, fits ty' v = true) (hla : vs.length < 2 ^ 31) (hlb : vd.length < 2 ^ 31) (hty : (ty = ty' ∧ refKind ty = false) ∨ (refKind ty = true ∧ refKind ty' = true ∧ StoL Z h b ((vs.drop i).take n))) (h1 : ¬ sp < 0) (h2 : ¬ dp < 0) (h3 : ¬ nn < 0) (hi : sp.toNatClampNeg = i) (hj : dp.toNatClampNeg = j) (hn : nn.toNatClampNeg = n) (h4 : i + n ≤ vs.length) (h5 : j + n ≤ vd.length) (hvd : vd.take j ++ (vs.drop i).take n ++ vd.drop (j + n) = vd') {n0 : Nat} (N : Fr n0 locs) (ge : n0 ≤ b) (hls : Ls.size = maxL) (hf : 1 ≤ R.frames) (hW : (S.map fun v => v.category).sum ≤ W) (hlo : W + (nativeFrameWords "java/lang/System" "arraycopy" 5 + 11) ≤ R.locals) (hd : decode bytes pc = .ok (.invokestatic idx, 3)) (hp : pc + 3 = pc')
    (K : ∀ T' h' L, Stand p l e R s m args below meth c T' L cells slots → T'.heap = h' → Fr n0 L → Keep h h' [b] → AL Z h' b k' ty' vd' → Go p e below Fin' T' (mkF m pc' Ls S)) : Go p e below Fin' T (mkF m pc Ls (.int nn :: .int dp :: .ref b :: .int sp :: .ref a :: S)) := by
  subst hp
  subst hi hj hn hvd
  have za : vs.length.toInt32.toNatClampNeg = vs.length := by simp only [Int32.toNatClampNeg, len_toInt hla]; omega
  have zb : vd.length.toInt32.toNatClampNeg = vd.length := by simp only [Int32.toNatClampNeg, len_toInt hlb]; omega
  have na : ¬ vs.length.toInt32 < 0 := by simp only [Int32.lt_iff_toInt_lt, len_toInt hla, Int32.reduceToInt]; omega
  have nb : ¬ vd.length.toInt32 < 0 := by simp only [Int32.lt_iff_toInt_lt, len_toInt hlb, Int32.reduceToInt]; omega
  have A' : Arv Z h a k ty vs.length.toInt32 vs .null := A.arv na za hfa
  have B' : Arv Z h b k' ty' vd.length.toInt32 vd .null := B.arv nb zb hfb
  obtain ⟨T', h', L, X', e', N', K', R', st⟩ := cpA X C.1 C.2.1 C.2.2.1 w1 w2 w3 w4 eT A' B' hty h1 h2 h3 (by rw [za]; exact h4) (by rw [zb]; exact h5) (range_drop vs .null _ _ h4).symm h5 N ge (g := mkF m pc Ls (.int nn :: .int dp :: .ref b :: .int sp :: .ref a :: S)) rfl (by show Ls.size = _; rw [C.2.2.2.2.1]; exact hls) rfl (hb C.2.2.2.1 hd) hf (W := W) (by show 2 * 0 + _ ≤ _; omega) hlo
  exact (K T' h' L X' e' N' K' (AL.of_arv R' (by rw [zb]; simp; omega))).via st
theorem Go.castY (C : Cx p s m meth c Z own nm bytes maxL ret) (X : Stand p l e R s m args below meth c T locs cells slots) {idx : Nat} {K1 : String} {a : Addr} (w : (Cond.classLink own idx K1).before a0 Z = true) (eT : T.heap = h) (F : Ins Z h a K1 true) (hd : decode bytes pc = .ok (.checkcast idx, 3)) (hp : pc + 3 = pc')
    (K : ∀ T', Stand p l e R s m args below meth c T' locs cells slots → T'.heap = h → Go p e below Fin' T' (mkF m pc' Ls (.ref a :: S))) : Go p e below Fin' T (mkF m pc Ls (.ref a :: S)) := by
  subst hp
  obtain ⟨T', X', e', st⟩ := Jvm.RoadKit.castY X C.1 C.2.1 C.2.2.1 w eT F (g := mkF m pc Ls (.ref a :: S)) rfl rfl (hb C.2.2.2.1 hd)
  exact (K T' X' e').via st
theorem Go.instY (C : Cx p s m meth c Z own nm bytes maxL ret) (X : Stand p l e R s m args below meth c T locs cells slots) {idx : Nat} {K1 : String} {a : Addr} (w : (Cond.classLink own idx K1).before a0 Z = true) (eT : T.heap = h) (F : Ins Z h a K1 true) (hd : decode bytes pc = .ok (.instanceof idx, 3)) (hp : pc + 3 = pc')
    (K : ∀ T', Stand p l e R s m args below meth c T' locs cells slots → T'.heap = h → Go p e below Fin' T' (mkF m pc' Ls (.int 1 :: S))) : Go p e below Fin' T (mkF m pc Ls (.ref a :: S)) := by
  subst hp
  obtain ⟨T', X', e', st⟩ := Jvm.RoadKit.instY X C.1 C.2.1 C.2.2.1 w eT F (g := mkF m pc Ls (.ref a :: S)) rfl rfl (hb C.2.2.2.1 hd)
  exact (K T' X' e').via st
theorem Go.gcls (C : Cx p s m meth c Z own nm bytes maxL ret) (X : Stand p l e R s m args below meth c T locs cells slots) {idx : Nat} {K1 : String} {a mr : Addr} {W : Nat} (w1 : (Cond.methodLink own idx ⟨"java/lang/Object", "getClass", "()Ljava/lang/Class;"⟩).before a0 Z = true) (w2 : (Cond.declares ⟨"java/lang/Object", "getClass", "()Ljava/lang/Class;"⟩).before a0 Z = true) (w3 : (Cond.noSuperclass "java/lang/Object").before a0 Z = true) (w4 : (Cond.selects K1 ⟨"java/lang/Object", "getClass", "()Ljava/lang/Class;"⟩ ⟨"java/lang/Object", "getClass", "()Ljava/lang/Class;"⟩).before a0 Z = true) (w5 : (Cond.instanceMethod ⟨"java/lang/Object", "getClass", "()Ljava/lang/Class;"⟩).before a0 Z = true) (w6 : (Cond.native ⟨"java/lang/Object", "getClass", "()Ljava/lang/Class;"⟩).before a0 Z = true) (eT : T.heap = h) (E : Exa Z h a K1) (M : Mir Z K1 mr) (hls : Ls.size = maxL) (hf : 1 ≤ R.frames) (hW : (S.map fun v => v.category).sum ≤ W) (hlo : W + 14 ≤ R.locals) (hd : decode bytes pc = .ok (.invokevirtual idx, 3)) (hp : pc + 3 = pc')
    (K : ∀ T', Stand p l e R s m args below meth c T' locs cells slots → T'.heap = h → Go p e below Fin' T' (mkF m pc' Ls (.ref mr :: S))) : Go p e below Fin' T (mkF m pc Ls (.ref a :: S)) := by
  subst hp
  obtain ⟨T', X', e', st⟩ := Jvm.RoadKit.gcls X C.1 C.2.1 C.2.2.1 w1 w2 w3 w4 w5 w6 eT E M (g := mkF m pc Ls (.ref a :: S)) rfl (by show Ls.size = _; rw [C.2.2.2.2.1]; exact hls) rfl (hb C.2.2.2.1 hd) hf (W := W) (by show 2 * 0 + _ ≤ _; omega) hlo
  exact (K T' X' e').via st
theorem Go.ldcM (C : Cx p s m meth c Z own nm bytes maxL ret) (X : Stand p l e R s m args below meth c T locs cells slots) {idx : Nat} {K1 : String} {mr : Addr} (w : (Cond.classLink own idx K1).before a0 Z = true) (eT : T.heap = h) (M : Mir Z K1 mr) (hd : decode bytes pc = .ok (.ldc idx, 2)) (hp : pc + 2 = pc')
    (K : ∀ T', Stand p l e R s m args below meth c T' locs cells slots → T'.heap = h → Go p e below Fin' T' (mkF m pc' Ls (.ref mr :: S))) : Go p e below Fin' T (mkF m pc Ls S) := by
  subst hp
  obtain ⟨cc, kc, m1, m2, m3, -⟩ := M
  obtain ⟨k', q, ek⟩ := C.2.1.alike.2.2 _ _ m2
  have f1 : s.vm.findClass K1 = some cc := by rw [C.2.1.alike.findClass]; exact m1
  have f2 : k'.mirror = some mr := by rw [ek]; exact m3
  have hev : (Term.mirror K1).eval args s none [] s = some (.ref mr) := by simp [Term.eval, f1, q, f2]
  obtain ⟨vm', X', st⟩ := X.ldcMirror C.1 C.2.2.1 (mv C.2.1 w) hev (g := mkF m pc Ls S) rfl (hb C.2.2.2.1 hd)
  exact (K _ X' eT).via st
theorem NS.rootI {O K1 : String} {n : Nat} (w : (Cond.noSuperclass O).before a0 Z = true) (wk : (Cond.instantiable K1 n).before a0 Z = true) (hn : O ≠ K1) : NS Z O K1 := by
  obtain ⟨c, k, h1, h2, h3, -, -⟩ := Cond.noSuperclass_spec w
  obtain ⟨t, -, g1, -⟩ := Cond.instantiable_spec wk
  have ne := ids_ne h1 g1 hn
  refine ⟨c, t, h1, g1, fun fuel => ?_⟩
  cases fuel with
  | zero => rfl
  | succ f => simp [Vm.isSubclassAux, ne, h2, h3]
theorem NS.noI {K0 S0 K1 : String} {n : Nat} (w : (Cond.superclass K0 S0).before a0 Z = true) (wk : (Cond.instantiable K1 n).before a0 Z = true) (N : NS Z K0 K1) (hn : K0 ≠ K1) : ∃ c t, Z.vm.findClass K0 = some c ∧ Z.vm.findClass K1 = some t ∧ Z.vm.assignable c t = false := by
  obtain ⟨c, t, h0, g0, n3⟩ := N
  obtain ⟨p, k, kp, h1, h2, h3, h4, h5, -, h7⟩ := Cond.superclass_spec h0 w
  obtain ⟨t', k', g1, g2, g3, g4, -⟩ := Cond.instantiable_spec wk
  cases g0.symm.trans g1
  have ne := ids_ne h0 g0 hn
  have gi : k'.isInterface = false := by
    cases q : k'.isInterface with
    | false => rfl
    | true => simp [q] at g4
  refine ⟨c, t, h0, g0, ?_⟩
  show Z.vm.assignableAux (255 + 1) c t = false
  simp [Vm.assignableAux, ne, h2, g2, h5, g3, gi, Vm.isSubclass, n3]
theorem Go.instNo (C : Cx p s m meth c Z own nm bytes maxL ret) (X : Stand p l e R s m args below meth c T locs cells slots) {idx : Nat} {K1 K2 : String} {a : Addr} (w : (Cond.classLink own idx K1).before a0 Z = true) (eT : T.heap = h) (E : Exa Z h a K2) (F : ∃ c t, Z.vm.findClass K2 = some c ∧ Z.vm.findClass K1 = some t ∧ Z.vm.assignable c t = false) (hd : decode bytes pc = .ok (.instanceof idx, 3)) (hp : pc + 3 = pc')
    (K : ∀ T', Stand p l e R s m args below meth c T' locs cells slots → T'.heap = h → Go p e below Fin' T' (mkF m pc' Ls (.int 0 :: S))) : Go p e below Fin' T (mkF m pc Ls (.ref a :: S)) := by
  subst hp
  obtain ⟨T', X', e', st⟩ := Jvm.RoadKit.instNo X C.1 C.2.1 C.2.2.1 w eT E F (g := mkF m pc Ls (.ref a :: S)) rfl rfl (hb C.2.2.2.1 hd)
  exact (K T' X' e').via st
theorem Go.castNull (C : Cx p s m meth c Z own nm bytes maxL ret) (X : Stand p l e R s m args below meth c T locs cells slots) {idx : Nat}  (hd : decode bytes pc = .ok (.checkcast idx, 3)) (hp : pc + 3 = pc')
    (K : Go p e below Fin' T (mkF m pc' Ls (.null :: S))) : Go p e below Fin' T (mkF m pc Ls (.null :: S)) := by
  subst hp
  exact K.via (X.checkcastNull C.1 (g := mkF m pc Ls (.null :: S)) rfl rfl (hb C.2.2.2.1 hd))
theorem Go.instNull (C : Cx p s m meth c Z own nm bytes maxL ret) (X : Stand p l e R s m args below meth c T locs cells slots) {idx : Nat}  (hd : decode bytes pc = .ok (.instanceof idx, 3)) (hp : pc + 3 = pc')
    (K : Go p e below Fin' T (mkF m pc' Ls (.int 0 :: S))) : Go p e below Fin' T (mkF m pc Ls (.null :: S)) := by
  subst hp
  exact K.via (X.instanceofNull C.1 (g := mkF m pc Ls (.null :: S)) rfl rfl (hb C.2.2.2.1 hd))
theorem Go.stI (C : Cx p s m meth c Z own nm bytes maxL ret) (X : Stand p l e R s m args below meth c T locs cells slots) {a : Addr} {k : ClassId} {vs vs' : List Value} {j : Int32} {i : Nat} {x x' : Int32} (eT : T.heap = h) (F : AL Z h a k .int vs) (hj : ¬ j < 0) (hji : j.toNatClampNeg = i) (hi : i < vs.length) (hx : x = x') (hvs : vs.set i (.int x') = vs') (hd : decode bytes pc = .ok (.iastore, 1)) (hp : pc + 1 = pc')
    (K : ∀ T' h', Stand p l e R s m args below meth c T' (locs ++ [⟨a, i⟩]) cells slots → T'.heap = h' → Wr h h' a i (.int x') → AL Z h' a k .int vs' → Go p e below Fin' T' (mkF m pc' Ls S)) : Go p e below Fin' T (mkF m pc Ls (.int x :: .int j :: .ref a :: S)) := by
  subst hp
  subst hji hvs hx
  have F0 := F
  obtain ⟨cl, A, q1, q2⟩ := F
  obtain ⟨T', h', X', e', W', st⟩ := Jvm.RoadKit.stI X C.1 C.2.1 eT A (j := j) (fun q => q.elim hj fun y => by rw [q2] at y; simp at y; omega) (g := mkF m pc Ls (.int x :: .int j :: .ref a :: S)) rfl rfl (hb C.2.2.2.1 hd)
  exact (K T' h' X' e' W' (F0.set W')).via st
theorem Go.stC (C : Cx p s m meth c Z own nm bytes maxL ret) (X : Stand p l e R s m args below meth c T locs cells slots) {a : Addr} {k : ClassId} {vs vs' : List Value} {j : Int32} {i : Nat} {x x' : Int32} (eT : T.heap = h) (F : AL Z h a k .char vs) (hj : ¬ j < 0) (hji : j.toNatClampNeg = i) (hi : i < vs.length) (hx : (nar .char x) = x') (hvs : vs.set i (.int x') = vs') (hd : decode bytes pc = .ok (.castore, 1)) (hp : pc + 1 = pc')
    (K : ∀ T' h', Stand p l e R s m args below meth c T' (locs ++ [⟨a, i⟩]) cells slots → T'.heap = h' → Wr h h' a i (.int x') → AL Z h' a k .char vs' → Go p e below Fin' T' (mkF m pc' Ls S)) : Go p e below Fin' T (mkF m pc Ls (.int x :: .int j :: .ref a :: S)) := by
  subst hp
  subst hji hvs hx
  have F0 := F
  obtain ⟨cl, A, q1, q2⟩ := F
  obtain ⟨T', h', X', e', W', st⟩ := Jvm.RoadKit.stC X C.1 C.2.1 eT A (j := j) (fun q => q.elim hj fun y => by rw [q2] at y; simp at y; omega) (g := mkF m pc Ls (.int x :: .int j :: .ref a :: S)) rfl rfl (hb C.2.2.2.1 hd)
  exact (K T' h' X' e' W' (F0.set W')).via st
theorem Go.stS (C : Cx p s m meth c Z own nm bytes maxL ret) (X : Stand p l e R s m args below meth c T locs cells slots) {a : Addr} {k : ClassId} {vs vs' : List Value} {j : Int32} {i : Nat} {x x' : Int32} (eT : T.heap = h) (F : AL Z h a k .short vs) (hj : ¬ j < 0) (hji : j.toNatClampNeg = i) (hi : i < vs.length) (hx : (nar .short x) = x') (hvs : vs.set i (.int x') = vs') (hd : decode bytes pc = .ok (.sastore, 1)) (hp : pc + 1 = pc')
    (K : ∀ T' h', Stand p l e R s m args below meth c T' (locs ++ [⟨a, i⟩]) cells slots → T'.heap = h' → Wr h h' a i (.int x') → AL Z h' a k .short vs' → Go p e below Fin' T' (mkF m pc' Ls S)) : Go p e below Fin' T (mkF m pc Ls (.int x :: .int j :: .ref a :: S)) := by
  subst hp
  subst hji hvs hx
  have F0 := F
  obtain ⟨cl, A, q1, q2⟩ := F
  obtain ⟨T', h', X', e', W', st⟩ := Jvm.RoadKit.stS X C.1 C.2.1 eT A (j := j) (fun q => q.elim hj fun y => by rw [q2] at y; simp at y; omega) (g := mkF m pc Ls (.int x :: .int j :: .ref a :: S)) rfl rfl (hb C.2.2.2.1 hd)
  exact (K T' h' X' e' W' (F0.set W')).via st
theorem Go.stB (C : Cx p s m meth c Z own nm bytes maxL ret) (X : Stand p l e R s m args below meth c T locs cells slots) {a : Addr} {k : ClassId} {vs vs' : List Value} {j : Int32} {i : Nat} {x x' : Int32} (eT : T.heap = h) (F : AL Z h a k .byte vs) (hj : ¬ j < 0) (hji : j.toNatClampNeg = i) (hi : i < vs.length) (hx : (nar .byte x) = x') (hvs : vs.set i (.int x') = vs') (hd : decode bytes pc = .ok (.bastore, 1)) (hp : pc + 1 = pc')
    (K : ∀ T' h', Stand p l e R s m args below meth c T' (locs ++ [⟨a, i⟩]) cells slots → T'.heap = h' → Wr h h' a i (.int x') → AL Z h' a k .byte vs' → Go p e below Fin' T' (mkF m pc' Ls S)) : Go p e below Fin' T (mkF m pc Ls (.int x :: .int j :: .ref a :: S)) := by
  subst hp
  subst hji hvs hx
  have F0 := F
  obtain ⟨cl, A, q1, q2⟩ := F
  obtain ⟨T', h', X', e', W', st⟩ := Jvm.RoadKit.stB X C.1 C.2.1 eT A (j := j) (fun q => q.elim hj fun y => by rw [q2] at y; simp at y; omega) (g := mkF m pc Ls (.int x :: .int j :: .ref a :: S)) rfl rfl (hb C.2.2.2.1 hd)
  exact (K T' h' X' e' W' (F0.set W')).via st
theorem Go.stZ (C : Cx p s m meth c Z own nm bytes maxL ret) (X : Stand p l e R s m args below meth c T locs cells slots) {a : Addr} {k : ClassId} {vs vs' : List Value} {j : Int32} {i : Nat} {x x' : Int32} (eT : T.heap = h) (F : AL Z h a k .boolean vs) (hj : ¬ j < 0) (hji : j.toNatClampNeg = i) (hi : i < vs.length) (hx : (nar .boolean x) = x') (hvs : vs.set i (.int x') = vs') (hd : decode bytes pc = .ok (.bastore, 1)) (hp : pc + 1 = pc')
    (K : ∀ T' h', Stand p l e R s m args below meth c T' (locs ++ [⟨a, i⟩]) cells slots → T'.heap = h' → Wr h h' a i (.int x') → AL Z h' a k .boolean vs' → Go p e below Fin' T' (mkF m pc' Ls S)) : Go p e below Fin' T (mkF m pc Ls (.int x :: .int j :: .ref a :: S)) := by
  subst hp
  subst hji hvs hx
  have F0 := F
  obtain ⟨cl, A, q1, q2⟩ := F
  obtain ⟨T', h', X', e', W', st⟩ := Jvm.RoadKit.stZ X C.1 C.2.1 eT A (j := j) (fun q => q.elim hj fun y => by rw [q2] at y; simp at y; omega) (g := mkF m pc Ls (.int x :: .int j :: .ref a :: S)) rfl rfl (hb C.2.2.2.1 hd)
  exact (K T' h' X' e' W' (F0.set W')).via st
theorem Go.stJ (C : Cx p s m meth c Z own nm bytes maxL ret) (X : Stand p l e R s m args below meth c T locs cells slots) {a : Addr} {k : ClassId} {vs vs' : List Value} {j : Int32} {i : Nat} {x x' : Int64} (eT : T.heap = h) (F : AL Z h a k .long vs) (hj : ¬ j < 0) (hji : j.toNatClampNeg = i) (hi : i < vs.length) (hx : x = x') (hvs : vs.set i (.long x') = vs') (hd : decode bytes pc = .ok (.lastore, 1)) (hp : pc + 1 = pc')
    (K : ∀ T' h', Stand p l e R s m args below meth c T' (locs ++ [⟨a, i⟩]) cells slots → T'.heap = h' → Wr h h' a i (.long x') → AL Z h' a k .long vs' → Go p e below Fin' T' (mkF m pc' Ls S)) : Go p e below Fin' T (mkF m pc Ls (.long x :: .int j :: .ref a :: S)) := by
  subst hp
  subst hji hvs hx
  have F0 := F
  obtain ⟨cl, A, q1, q2⟩ := F
  obtain ⟨T', h', X', e', W', st⟩ := Jvm.RoadKit.stJ X C.1 C.2.1 eT A (j := j) (fun q => q.elim hj fun y => by rw [q2] at y; simp at y; omega) (g := mkF m pc Ls (.long x :: .int j :: .ref a :: S)) rfl rfl (hb C.2.2.2.1 hd)
  exact (K T' h' X' e' W' (F0.set W')).via st
theorem Go.stR (C : Cx p s m meth c Z own nm bytes maxL ret) (X : Stand p l e R s m args below meth c T locs cells slots) {a : Addr} {k : ClassId} {ty : FieldType} {vs vs' : List Value} {j : Int32} {i : Nat} {v : Value} (eT : T.heap = h) (F : AL Z h a k ty vs) (hj : ¬ j < 0) (hji : j.toNatClampNeg = i) (hi : i < vs.length) (hty : ty.isReference = true) (Fs : Sto Z h a v) (hvs : vs.set i v = vs') (hd : decode bytes pc = .ok (.aastore, 1)) (hp : pc + 1 = pc')
    (K : ∀ T' h', Stand p l e R s m args below meth c T' (locs ++ [⟨a, i⟩]) cells slots → T'.heap = h' → Wr h h' a i v → AL Z h' a k ty vs' → Go p e below Fin' T' (mkF m pc' Ls S)) : Go p e below Fin' T (mkF m pc Ls (v :: .int j :: .ref a :: S)) := by
  subst hp
  subst hji hvs
  have F0 := F
  obtain ⟨cl, A, q1, q2⟩ := F
  obtain ⟨T', h', X', e', W', st⟩ := Jvm.RoadKit.stR X C.1 C.2.1 eT A (j := j) (fun q => q.elim hj fun y => by rw [q2] at y; simp at y; omega) hty Fs (g := mkF m pc Ls (v :: .int j :: .ref a :: S)) rfl rfl (hb C.2.2.2.1 hd)
  exact (K T' h' X' e' W' (F0.set W')).via st
theorem AL.sto {a y : Addr} {k : ClassId} {ty : FieldType} {vs : List Value} {K1 : String} (F : AL Z h a k ty vs) (O : Ovr Z k K1) (I : Ins Z h y K1 true) : Sto Z h a (.ref y) := by
  obtain ⟨c, A, r, -⟩ := F; exact Sto.ofV A r O I
theorem Go.ldI (C : Cx p s m meth c Z own nm bytes maxL ret) (X : Stand p l e R s m args below meth c T locs cells slots) {a : Addr} {k : ClassId} {vs : List Value} {j : Int32} {i : Nat} {v : Value} (eT : T.heap = h) (F : AL Z h a k .int vs) (hj : ¬ j < 0) (hji : j.toNatClampNeg = i) (hv : vs[i]? = some v) (hd : decode bytes pc = .ok (.iaload, 1)) (hp : pc + 1 = pc')
    (K : Go p e below Fin' T (mkF m pc' Ls (v :: S))) : Go p e below Fin' T (mkF m pc Ls (.int j :: .ref a :: S)) := by
  subst hp
  subst hji
  obtain ⟨cl, A, q1, q2⟩ := F
  have hlt : j.toNatClampNeg < vs.length := (List.getElem?_eq_some_iff.mp hv).1
  exact K.via fun t k => X.iaload C.1 (j := j) (v := v) (by rw [eT]; exact A.1) (State.isArrayOf_alike C.2.1.alike A.2.1) A.2.2 (fun q => q.elim hj fun y => by rw [q2] at y; simp at y; omega) (by rw [q2]; simpa using hv) (g := mkF m pc Ls (.int j :: .ref a :: S)) rfl rfl (hb C.2.2.2.1 hd) t k
theorem Go.ldC (C : Cx p s m meth c Z own nm bytes maxL ret) (X : Stand p l e R s m args below meth c T locs cells slots) {a : Addr} {k : ClassId} {vs : List Value} {j : Int32} {i : Nat} {v : Value} (eT : T.heap = h) (F : AL Z h a k .char vs) (hj : ¬ j < 0) (hji : j.toNatClampNeg = i) (hv : vs[i]? = some v) (hd : decode bytes pc = .ok (.caload, 1)) (hp : pc + 1 = pc')
    (K : Go p e below Fin' T (mkF m pc' Ls (v :: S))) : Go p e below Fin' T (mkF m pc Ls (.int j :: .ref a :: S)) := by
  subst hp
  subst hji
  obtain ⟨cl, A, q1, q2⟩ := F
  have hlt : j.toNatClampNeg < vs.length := (List.getElem?_eq_some_iff.mp hv).1
  exact K.via fun t k => X.caload C.1 (j := j) (v := v) (by rw [eT]; exact A.1) (State.isArrayOf_alike C.2.1.alike A.2.1) A.2.2 (fun q => q.elim hj fun y => by rw [q2] at y; simp at y; omega) (by rw [q2]; simpa using hv) (g := mkF m pc Ls (.int j :: .ref a :: S)) rfl rfl (hb C.2.2.2.1 hd) t k
theorem Go.ldB (C : Cx p s m meth c Z own nm bytes maxL ret) (X : Stand p l e R s m args below meth c T locs cells slots) {a : Addr} {k : ClassId} {vs : List Value} {j : Int32} {i : Nat} {v : Value} (eT : T.heap = h) (F : AL Z h a k .byte vs) (hj : ¬ j < 0) (hji : j.toNatClampNeg = i) (hv : vs[i]? = some v) (hd : decode bytes pc = .ok (.baload, 1)) (hp : pc + 1 = pc')
    (K : Go p e below Fin' T (mkF m pc' Ls (v :: S))) : Go p e below Fin' T (mkF m pc Ls (.int j :: .ref a :: S)) := by
  subst hp
  subst hji
  obtain ⟨cl, A, q1, q2⟩ := F
  have hlt : j.toNatClampNeg < vs.length := (List.getElem?_eq_some_iff.mp hv).1
  exact K.via fun t k => X.baloadBytes C.1 (j := j) (v := v) (by rw [eT]; exact A.1) (State.isArrayOf_alike C.2.1.alike A.2.1) A.2.2 (fun q => q.elim hj fun y => by rw [q2] at y; simp at y; omega) (by rw [q2]; simpa using hv) (g := mkF m pc Ls (.int j :: .ref a :: S)) rfl rfl (hb C.2.2.2.1 hd) t k
theorem Go.ldZ (C : Cx p s m meth c Z own nm bytes maxL ret) (X : Stand p l e R s m args below meth c T locs cells slots) {a : Addr} {k : ClassId} {vs : List Value} {j : Int32} {i : Nat} {v : Value} (eT : T.heap = h) (F : AL Z h a k .boolean vs) (hj : ¬ j < 0) (hji : j.toNatClampNeg = i) (hv : vs[i]? = some v) (hd : decode bytes pc = .ok (.baload, 1)) (hp : pc + 1 = pc')
    (K : Go p e below Fin' T (mkF m pc' Ls (v :: S))) : Go p e below Fin' T (mkF m pc Ls (.int j :: .ref a :: S)) := by
  subst hp
  subst hji
  obtain ⟨cl, A, q1, q2⟩ := F
  have hlt : j.toNatClampNeg < vs.length := (List.getElem?_eq_some_iff.mp hv).1
  exact K.via fun t k => X.baloadBooleans C.1 (j := j) (v := v) (by rw [eT]; exact A.1) (State.isArrayOf_alike C.2.1.alike A.2.1) A.2.2 (fun q => q.elim hj fun y => by rw [q2] at y; simp at y; omega) (by rw [q2]; simpa using hv) (g := mkF m pc Ls (.int j :: .ref a :: S)) rfl rfl (hb C.2.2.2.1 hd) t k
theorem Go.ldJ (C : Cx p s m meth c Z own nm bytes maxL ret) (X : Stand p l e R s m args below meth c T locs cells slots) {a : Addr} {k : ClassId} {vs : List Value} {j : Int32} {i : Nat} {v : Value} (eT : T.heap = h) (F : AL Z h a k .long vs) (hj : ¬ j < 0) (hji : j.toNatClampNeg = i) (hv : vs[i]? = some v) (hd : decode bytes pc = .ok (.laload, 1)) (hp : pc + 1 = pc')
    (K : Go p e below Fin' T (mkF m pc' Ls (v :: S))) : Go p e below Fin' T (mkF m pc Ls (.int j :: .ref a :: S)) := by
  subst hp
  subst hji
  obtain ⟨cl, A, q1, q2⟩ := F
  have hlt : j.toNatClampNeg < vs.length := (List.getElem?_eq_some_iff.mp hv).1
  exact K.via fun t k => X.laload C.1 (j := j) (v := v) (by rw [eT]; exact A.1) (State.isArrayOf_alike C.2.1.alike A.2.1) A.2.2 (fun q => q.elim hj fun y => by rw [q2] at y; simp at y; omega) (by rw [q2]; simpa using hv) (g := mkF m pc Ls (.int j :: .ref a :: S)) rfl rfl (hb C.2.2.2.1 hd) t k
theorem Go.ldR (C : Cx p s m meth c Z own nm bytes maxL ret) (X : Stand p l e R s m args below meth c T locs cells slots) {a : Addr} {k : ClassId} {vs : List Value} {j : Int32} {i : Nat} {v : Value} {ty : FieldType} (eT : T.heap = h) (F : AL Z h a k ty vs) (hj : ¬ j < 0) (hji : j.toNatClampNeg = i) (hv : vs[i]? = some v) (hty : ty.isReference = true) (hd : decode bytes pc = .ok (.aaload, 1)) (hp : pc + 1 = pc')
    (K : Go p e below Fin' T (mkF m pc' Ls (v :: S))) : Go p e below Fin' T (mkF m pc Ls (.int j :: .ref a :: S)) := by
  subst hp
  subst hji
  obtain ⟨cl, A, q1, q2⟩ := F
  have hlt : j.toNatClampNeg < vs.length := (List.getElem?_eq_some_iff.mp hv).1
  exact K.via fun t k => X.aaload C.1 (j := j) (v := v) (by rw [eT]; exact A.1) (State.isArrayOf_alike C.2.1.alike A.2.1) hty A.2.2 (fun q => q.elim hj fun y => by rw [q2] at y; simp at y; omega) (by rw [q2]; simpa using hv) (g := mkF m pc Ls (.int j :: .ref a :: S)) rfl rfl (hb C.2.2.2.1 hd) t k
theorem Go.alen (C : Cx p s m meth c Z own nm bytes maxL ret) (X : Stand p l e R s m args below meth c T locs cells slots) {a : Addr} {k : ClassId} {ty : FieldType} {vs : List Value} {z : Int32} (eT : T.heap = h) (F : AL Z h a k ty vs) (hz : vs.length.toInt32 = z) (hd : decode bytes pc = .ok (.arraylength, 1)) (hp : pc + 1 = pc')
    (K : Go p e below Fin' T (mkF m pc' Ls (.int z :: S))) : Go p e below Fin' T (mkF m pc Ls (.ref a :: S)) := by
  subst hp
  subst hz
  obtain ⟨cl, A, q1, q2⟩ := F
  have q3 : cl.slots.size = vs.length := by rw [q2]; simp
  refine K.via fun t k => X.arraylength C.1 (by rw [eT]; exact A.1) (State.isArrayOf_alike C.2.1.alike A.2.1) (g := mkF m pc Ls (.ref a :: S)) rfl rfl (hb C.2.2.2.1 hd) t ?_
  rw [q3]; exact k
theorem Go.ldcR (C : Cx p s m meth c Z own nm bytes maxL ret) (X : Stand p l e R s m args below meth c T locs cells slots) {idx : Nat} {text : String} {a : Addr} (w : (Cond.stringRef own idx text).before a0 Z = true) (L : Lit Z own idx a) (hd : decode bytes pc = .ok (.ldc idx, 2)) (hp : pc + 2 = pc')
    (K : Go p e below Fin' T (mkF m pc' Ls (.ref a :: S))) : Go p e below Fin' T (mkF m pc Ls S) := by
  subst hp
  exact K.via (Jvm.RoadKit.ldcR X C.1 C.2.1 C.2.2.1 w L (g := mkF m pc Ls S) rfl (hb C.2.2.2.1 hd))
/-! calls -/
theorem Go.initO (C : Cx p s m meth c Z own nm bytes maxL ret) (X : Stand p l e R s m args below meth c T locs cells slots) {idx : Nat} {a : Addr} (w1 : (Cond.methodLink own idx Lib.objectInit).before a0 Z = true) (w2 : (Cond.instanceMethod Lib.objectInit).before a0 Z = true) (w3 : (Cond.code Lib.objectInit ⟨#[0xb1]⟩ 1 none).before a0 Z = true) (eT : T.heap = h) (hls : Ls.size = maxL) (hf : 1 ≤ R.frames) {W : Nat} (hW : (S.map fun v => v.category).sum ≤ W) (hl : W + 12 ≤ R.locals) (hd : decode bytes pc = .ok (.invokespecial idx, 3)) (hp : pc + 3 = pc')
    (K : ∀ T', Stand p l e R s m args below meth c T' locs cells slots → T'.heap = h → Go p e below Fin' T' (mkF m pc' Ls S)) : Go p e below Fin' T (mkF m pc Ls (.ref a :: S)) := by
  subst hp
  obtain ⟨T', X', e', st⟩ := Jvm.RoadKit.initO X C.1 C.2.1 C.2.2.1 w1 w2 w3 eT (g := mkF m pc Ls (.ref a :: S)) rfl (by rw [C.2.2.2.2.1]; exact hls) rfl (hb C.2.2.2.1 hd) hf (W := W) (by show 2 * 0 + _ ≤ _; omega) hl
  exact (K T' X' e').via st
theorem Go.callS (C : Cx p s m meth c Z own nm bytes maxL ret) (X : Stand p l e R s m args below meth c T locs cells slots) {idx : Nat} {y : MethodName} {bytes' : ByteArray} {maxL' : Nat} {ret' : Option FieldType} {rm : Room} {as' : Array Value} {Q' : Option Value → Heap → List Loc → Prop} {argsL rest : List Value} {ps : List FieldType} {r : Option FieldType} {W : Nat} (w1 : (Cond.methodLink own idx y).before a0 Z = true) (w2 : (Cond.static y).before a0 Z = true) (hy : y.cls ≠ "java/lang/invoke/MethodHandle" ∧ y.cls ≠ "java/lang/invoke/VarHandle") (M : Met1 l Z y bytes' maxL' ret' rm as' h Q') (wc : (Cond.code y bytes' maxL' ret').before a0 Z = true) (wz : (Cond.initialized y.cls).before a0 Z = true) (eT : T.heap = h) (hS : S = argsL.reverse ++ rest) (has : (argsL).toArray = as') (pd : parseMethodDescriptor y.desc = some ⟨ps, r⟩) (hlen : argsL.length = ps.length) (hW : (rest.map fun v => v.category).sum ≤ W) (hls : Ls.size = maxL) (hf : rm.frames + 1 ≤ R.frames) (hlo : W + (maxL' + 11) + rm.locals ≤ R.locals) (hc : cells + rm.cells ≤ R.cells) (hs : slots + rm.slots ≤ R.slots) (hd : decode bytes pc = .ok (.invokestatic idx, 3)) (hp : pc + 3 = pc')
    (K : ∀ T' v L, Stand p l e R s m args below meth c T' (locs ++ L) (cells + rm.cells) (slots + rm.slots) → Q' v T'.heap L → Go p e below Fin' T' (mkF m pc' Ls (v.toList ++ rest))) : Go p e below Fin' T (mkF m pc Ls S) := by
  subst hp
  subst hS has
  obtain ⟨v, _, ⟨T', L', k', n'⟩, -, X', ⟨L, hQ, l', y', z'⟩, st⟩ := Jvm.LawKit.callS X C.1 (y := y) C.2.2.1 (mvT C.2.1 w1) (mvT C.2.1 w2) (mvT C.2.1 wz) (mvT C.2.1 wc) hy (backOf (W := W) (M []) C.2.1 wc wz hf hlo) (g := mkF m pc Ls (argsL.reverse ++ rest)) rfl (by show Ls.size = _; rw [C.2.2.2.2.1]; exact hls) (argsL := argsL) (rest := rest) (lenOf pd hlen) rfl (by show 2 * 0 + _ ≤ _; omega) (hb C.2.2.2.1 hd) (fun _ _ => ⟨rfl, eT, hc, hs⟩)
  dsimp only [Pt.U, Pt.locs, Pt.cells, Pt.slots] at X' l' y' z' st hQ
  subst l' y' z'
  exact (K T' v L X' hQ).via st
theorem Go.callI (C : Cx p s m meth c Z own nm bytes maxL ret) (X : Stand p l e R s m args below meth c T locs cells slots) {idx : Nat} {y : MethodName} {a : Addr} {bytes' : ByteArray} {maxL' : Nat} {ret' : Option FieldType} {rm : Room} {as' : Array Value} {Q' : Option Value → Heap → List Loc → Prop} {argsL rest : List Value} {ps : List FieldType} {r : Option FieldType} {W : Nat} (hini : y.name = "<init>") (w1 : (Cond.methodLink own idx y).before a0 Z = true) (w2 : (Cond.instanceMethod y).before a0 Z = true) (hy : y.cls ≠ "java/lang/invoke/MethodHandle" ∧ y.cls ≠ "java/lang/invoke/VarHandle") (M : Met1 l Z y bytes' maxL' ret' rm as' h Q') (wc : (Cond.code y bytes' maxL' ret').before a0 Z = true) (wz : (Cond.initialized y.cls).before a0 Z = true) (eT : T.heap = h) (hS : S = argsL.reverse ++ .ref a :: rest) (has : (.ref a :: argsL).toArray = as') (pd : parseMethodDescriptor y.desc = some ⟨ps, r⟩) (hlen : argsL.length = ps.length) (hW : (rest.map fun v => v.category).sum ≤ W) (hls : Ls.size = maxL) (hf : rm.frames + 1 ≤ R.frames) (hlo : W + (maxL' + 11) + rm.locals ≤ R.locals) (hc : cells + rm.cells ≤ R.cells) (hs : slots + rm.slots ≤ R.slots) (hr0 : ret' = none) (hd : decode bytes pc = .ok (.invokespecial idx, 3)) (hp : pc + 3 = pc')
    (K : ∀ T' v L, Stand p l e R s m args below meth c T' (locs ++ L) (cells + rm.cells) (slots + rm.slots) → Q' v T'.heap L → Go p e below Fin' T' (mkF m pc' Ls (v.toList ++ rest))) : Go p e below Fin' T (mkF m pc Ls S) := by
  subst hp
  subst hr0
  subst hS has
  obtain ⟨v, _, ⟨T', L', k', n'⟩, -, X', ⟨L, hQ, l', y', z'⟩, st⟩ := X.specialBack C.1 (y := y) hini C.2.2.1 (mvT C.2.1 w1) (mvT C.2.1 w2) (mvT C.2.1 wc) hy (backOf (W := W) (M []) C.2.1 wc wz hf hlo) (g := mkF m pc Ls (argsL.reverse ++ .ref a :: rest)) rfl (by show Ls.size = _; rw [C.2.2.2.2.1]; exact hls) (Steps.refl _) (a := a) (argsL := argsL) (rest := rest) (lenOf pd hlen) rfl (by show 2 * 0 + _ ≤ _; omega) (hb C.2.2.2.1 hd) (fun _ _ => ⟨rfl, eT, hc, hs⟩)
  dsimp only [Pt.U, Pt.locs, Pt.cells, Pt.slots] at X' l' y' z' st hQ
  subst l' y' z'
  exact (K T' v L X' hQ).via fun t k => st.trans k
theorem Go.callIN (C : Cx p s m meth c Z own nm bytes maxL ret) (X : Stand p l e R s m args below meth c T locs cells slots) {idx : Nat} {host : String} {y : MethodName} {a : Addr} {bytes' : ByteArray} {maxL' : Nat} {ret' : Option FieldType} {rm : Room} {as' : Array Value} {Q' : Option Value → Heap → List Loc → Prop} {argsL rest : List Value} {ps : List FieldType} {r : Option FieldType} {W : Nat} (hini : y.name = "<init>") (w1 : (Cond.methodLinkNest own idx y host).before a0 Z = true) (w2 : (Cond.instanceMethod y).before a0 Z = true) (hy : y.cls ≠ "java/lang/invoke/MethodHandle" ∧ y.cls ≠ "java/lang/invoke/VarHandle") (M : Met1 l Z y bytes' maxL' ret' rm as' h Q') (wc : (Cond.code y bytes' maxL' ret').before a0 Z = true) (wz : (Cond.initialized y.cls).before a0 Z = true) (eT : T.heap = h) (hS : S = argsL.reverse ++ .ref a :: rest) (has : (.ref a :: argsL).toArray = as') (pd : parseMethodDescriptor y.desc = some ⟨ps, r⟩) (hlen : argsL.length = ps.length) (hW : (rest.map fun v => v.category).sum ≤ W) (hls : Ls.size = maxL) (hf : rm.frames + 1 ≤ R.frames) (hlo : W + (maxL' + 11) + rm.locals ≤ R.locals) (hc : cells + rm.cells ≤ R.cells) (hs : slots + rm.slots ≤ R.slots) (hr0 : ret' = none) (hd : decode bytes pc = .ok (.invokespecial idx, 3)) (hp : pc + 3 = pc')
    (K : ∀ T' v L, Stand p l e R s m args below meth c T' (locs ++ L) (cells + rm.cells) (slots + rm.slots) → Q' v T'.heap L → Go p e below Fin' T' (mkF m pc' Ls (v.toList ++ rest))) : Go p e below Fin' T (mkF m pc Ls S) := by
  subst hp
  subst hr0
  have w1' : (Cond.methodLinkNest own idx y host).before args s = true := (Cond.methodLinkNest_wide C.2.1 w1 :)
  subst hS has
  obtain ⟨v, _, ⟨T', L', k', n'⟩, -, X', ⟨L, hQ, l', y', z'⟩, st⟩ := X.specialBackNest C.1 (y := y) hini C.2.2.1 w1' (mvT C.2.1 w2) (mvT C.2.1 wc) hy (backOf (W := W) (M []) C.2.1 wc wz hf hlo) (g := mkF m pc Ls (argsL.reverse ++ .ref a :: rest)) rfl (by show Ls.size = _; rw [C.2.2.2.2.1]; exact hls) (Steps.refl _) (a := a) (argsL := argsL) (rest := rest) (lenOf pd hlen) rfl (by show 2 * 0 + _ ≤ _; omega) (hb C.2.2.2.1 hd) (fun _ _ => ⟨rfl, eT, hc, hs⟩)
  dsimp only [Pt.U, Pt.locs, Pt.cells, Pt.slots] at X' l' y' z' st hQ
  subst l' y' z'
  exact (K T' v L X' hQ).via fun t k => st.trans k
theorem Go.callP (C : Cx p s m meth c Z own nm bytes maxL ret) (X : Stand p l e R s m args below meth c T locs cells slots) {idx : Nat} {y : MethodName} {a : Addr} {K1 : String} {bytes' : ByteArray} {maxL' : Nat} {ret' : Option FieldType} {rm : Room} {as' : Array Value} {Q' : Option Value → Heap → List Loc → Prop} {argsL rest : List Value} {ps : List FieldType} {r : Option FieldType} {W : Nat} (w1 : (Cond.methodLink own idx y).before a0 Z = true) (w2 : (Cond.instanceMethod y).before a0 Z = true) (w3 : (Cond.selects y.cls y y).before a0 Z = true) (w4 : (Cond.privateMethod y).before a0 Z = true) (E : Exa Z h a K1) (hy : y.cls ≠ "java/lang/invoke/MethodHandle" ∧ y.cls ≠ "java/lang/invoke/VarHandle") (M : Met1 l Z y bytes' maxL' ret' rm as' h Q') (wc : (Cond.code y bytes' maxL' ret').before a0 Z = true) (wz : (Cond.initialized y.cls).before a0 Z = true) (eT : T.heap = h) (hS : S = argsL.reverse ++ .ref a :: rest) (has : (.ref a :: argsL).toArray = as') (pd : parseMethodDescriptor y.desc = some ⟨ps, r⟩) (hlen : argsL.length = ps.length) (hW : (rest.map fun v => v.category).sum ≤ W) (hls : Ls.size = maxL) (hf : rm.frames + 1 ≤ R.frames) (hlo : W + (maxL' + 11) + rm.locals ≤ R.locals) (hc : cells + rm.cells ≤ R.cells) (hs : slots + rm.slots ≤ R.slots) (hd : decode bytes pc = .ok (.invokevirtual idx, 3)) (hp : pc + 3 = pc')
    (K : ∀ T' v L, Stand p l e R s m args below meth c T' (locs ++ L) (cells + rm.cells) (slots + rm.slots) → Q' v T'.heap L → Go p e below Fin' T' (mkF m pc' Ls (v.toList ++ rest))) : Go p e below Fin' T (mkF m pc Ls S) := by
  subst hp
  obtain ⟨cq, q1, q2⟩ := E.cell
  subst hS has
  obtain ⟨v, _, ⟨T', L', k', n'⟩, -, X', ⟨L, hQ, l', y', z'⟩, st⟩ := X.privateBack C.1 (y := y) C.2.2.1 (mvT C.2.1 w1) (mvT C.2.1 w2) (mvT C.2.1 w3) (Cond.privateMethod_at (mvP C.2.1 w4 (args := #[]))) (mvT C.2.1 wc) hy (backOf (W := W) (M []) C.2.1 wc wz hf hlo) (g := mkF m pc Ls (argsL.reverse ++ .ref a :: rest)) rfl (by show Ls.size = _; rw [C.2.2.2.2.1]; exact hls) (Steps.refl _) (a := a) (by rw [eT]; exact q1) q2 (argsL := argsL) (rest := rest) (lenOf pd hlen) rfl (by show 2 * 0 + _ ≤ _; omega) (hb C.2.2.2.1 hd) (fun _ _ => ⟨rfl, eT, hc, hs⟩)
  dsimp only [Pt.U, Pt.locs, Pt.cells, Pt.slots] at X' l' y' z' st hQ
  subst l' y' z'
  exact (K T' v L X' hQ).via fun t k => st.trans k
theorem Go.callV (C : Cx p s m meth c Z own nm bytes maxL ret) (X : Stand p l e R s m args below meth c T locs cells slots) {idx : Nat} {y z : MethodName} {a : Addr} {K1 : String} {bytes' : ByteArray} {maxL' : Nat} {ret' : Option FieldType} {rm : Room} {as' : Array Value} {Q' : Option Value → Heap → List Loc → Prop} {argsL rest : List Value} {ps : List FieldType} {r : Option FieldType} {W : Nat} (w1 : (Cond.methodLink own idx y).before a0 Z = true) (w2 : (Cond.declares y).before a0 Z = true) (hnf : NotFace s y) (w3 : (Cond.selects K1 y z).before a0 Z = true) (w4 : (Cond.instanceMethod z).before a0 Z = true) (E : Exa Z h a K1) (hy : y.cls ≠ "java/lang/invoke/MethodHandle" ∧ y.cls ≠ "java/lang/invoke/VarHandle") (M : Met1 l Z z bytes' maxL' ret' rm as' h Q') (wc : (Cond.code z bytes' maxL' ret').before a0 Z = true) (wz : (Cond.initialized z.cls).before a0 Z = true) (eT : T.heap = h) (hS : S = argsL.reverse ++ .ref a :: rest) (has : (.ref a :: argsL).toArray = as') (pd : parseMethodDescriptor y.desc = some ⟨ps, r⟩) (hlen : argsL.length = ps.length) (hW : (rest.map fun v => v.category).sum ≤ W) (hls : Ls.size = maxL) (hf : rm.frames + 1 ≤ R.frames) (hlo : W + (maxL' + 11) + rm.locals ≤ R.locals) (hc : cells + rm.cells ≤ R.cells) (hs : slots + rm.slots ≤ R.slots) (hd : decode bytes pc = .ok (.invokevirtual idx, 3)) (hp : pc + 3 = pc')
    (K : ∀ T' v L, Stand p l e R s m args below meth c T' (locs ++ L) (cells + rm.cells) (slots + rm.slots) → Q' v T'.heap L → Go p e below Fin' T' (mkF m pc' Ls (v.toList ++ rest))) : Go p e below Fin' T (mkF m pc Ls S) := by
  subst hp
  obtain ⟨cq, kq, qa, qb, qc⟩ := isOf C.2.1 eT E
  subst hS has
  obtain ⟨v, _, ⟨T', L', k', n'⟩, -, X', ⟨L, hQ, l', y', z'⟩, st⟩ := X.virtualBack C.1 (y := y) (z := z) C.2.2.1 (mvT C.2.1 w1) (mvT C.2.1 w2) hnf (mvT C.2.1 w3) (mvT C.2.1 w4) hy (backOf (W := W) (M []) C.2.1 wc wz hf hlo) qa qc (g := mkF m pc Ls (argsL.reverse ++ .ref a :: rest)) rfl (by show Ls.size = _; rw [C.2.2.2.2.1]; exact hls) (Steps.refl _) (argsL := argsL) (rest := rest) (lenOf pd hlen) rfl (by show 2 * 0 + _ ≤ _; omega) (hb C.2.2.2.1 hd) (fun _ _ => ⟨rfl, eT, hc, hs⟩)
  dsimp only [Pt.U, Pt.locs, Pt.cells, Pt.slots] at X' l' y' z' st hQ
  subst l' y' z'
  exact (K T' v L X' hQ).via fun t k => st.trans k
theorem Go.callF (C : Cx p s m meth c Z own nm bytes maxL ret) (X : Stand p l e R s m args below meth c T locs cells slots) {idx count : Nat} {y z : MethodName} {a : Addr} {K1 : String} {bytes' : ByteArray} {maxL' : Nat} {ret' : Option FieldType} {rm : Room} {as' : Array Value} {Q' : Option Value → Heap → List Loc → Prop} {argsL rest : List Value} {ps : List FieldType} {r : Option FieldType} {W : Nat} (w1 : (Cond.methodLink own idx y).before a0 Z = true) (w2 : (Cond.declares y).before a0 Z = true) (w3 : (Cond.interfaceMethod y.cls y.cls y.name y.desc).before a0 Z = true) (w4 : (Cond.selects K1 y z).before a0 Z = true) (w5 : (Cond.instanceMethod z).before a0 Z = true) (w6 : (Cond.publicMethod z).before a0 Z = true) (w7 : (Cond.unhidden K1 y.name y.desc).before a0 Z = true) (w8 : (Cond.castable K1 y.cls).before a0 Z = true) (hfa : ((Cond.interfaceMethod y.cls y.cls y.name y.desc).onTables && (Cond.interfaceMethod y.cls y.cls y.name y.desc).keepsFace) = true) (E : Exa Z h a K1) (hy : y.cls ≠ "java/lang/invoke/MethodHandle" ∧ y.cls ≠ "java/lang/invoke/VarHandle") (M : Met1 l Z z bytes' maxL' ret' rm as' h Q') (wc : (Cond.code z bytes' maxL' ret').before a0 Z = true) (wz : (Cond.initialized z.cls).before a0 Z = true) (eT : T.heap = h) (hS : S = argsL.reverse ++ .ref a :: rest) (has : (.ref a :: argsL).toArray = as') (pd : parseMethodDescriptor y.desc = some ⟨ps, r⟩) (hlen : argsL.length = ps.length) (hW : (rest.map fun v => v.category).sum ≤ W) (hls : Ls.size = maxL) (hf : rm.frames + 1 ≤ R.frames) (hlo : W + (maxL' + 11) + rm.locals ≤ R.locals) (hc : cells + rm.cells ≤ R.cells) (hs : slots + rm.slots ≤ R.slots) (hd : decode bytes pc = .ok (.invokeinterface idx count, 5)) (hp : pc + 5 = pc')
    (K : ∀ T' v L, Stand p l e R s m args below meth c T' (locs ++ L) (cells + rm.cells) (slots + rm.slots) → Q' v T'.heap L → Go p e below Fin' T' (mkF m pc' Ls (v.toList ++ rest))) : Go p e below Fin' T (mkF m pc Ls S) := by
  subst hp
  obtain ⟨cq, kq, qa, qb, qc⟩ := isOf C.2.1 eT E
  subst hS has
  obtain ⟨v, _, ⟨T', L', k', n'⟩, -, X', ⟨L, hQ, l', y', z'⟩, st⟩ := X.interfaceBack C.1 (xi := y) (y := z) C.2.2.1 (mvT C.2.1 w1) (mvT C.2.1 w2) (mvT C.2.1 w3 hfa) (mvT C.2.1 w4) (mvT C.2.1 w5) (mvT C.2.1 w6) (mvT C.2.1 w7) (mvT C.2.1 w8) hy (backOf (W := W) (M []) C.2.1 wc wz hf hlo) qa qb qc (g := mkF m pc Ls (argsL.reverse ++ .ref a :: rest)) rfl (by show Ls.size = _; rw [C.2.2.2.2.1]; exact hls) (Steps.refl _) (argsL := argsL) (rest := rest) (lenOf pd hlen) rfl (by show 2 * 0 + _ ≤ _; omega) (hb C.2.2.2.1 hd) (fun _ _ => ⟨rfl, eT, hc, hs⟩)
  dsimp only [Pt.U, Pt.locs, Pt.cells, Pt.slots] at X' l' y' z' st hQ
  subst l' y' z'
  exact (K T' v L X' hQ).via fun t k => st.trans k
theorem notFace_at {y : MethodName} {K1 : String} (hZ : Z.Warmed39 s.vm) (w : (Cond.selects K1 y y).before a0 Z = true) : NotFace s y := notFace_of_selects (args := #[]) (mvT hZ w)
end Own
end Jvm.RoadKit

namespace Jvm.RoadKit
open Sem ClassFile Op Lib Jvm.Stand Jvm.Free Jvm.LawKit
section OwnW
variable {p : Program} {l : Launch} {e : Env} {R : Room} {s : State} {m : MethodId} {args : Array Value} {below : List Frame} {meth : Method} {c : Code} {T : State} {locs : List Loc} {cells slots : Nat} {Z : State} {a0 : Array Value} {h : Heap}
variable {RC RS : Nat} {Q : Option Value → Heap → List Loc → Prop} {Fin' : Outcome → State → Prop} {own nm : String} {bytes : ByteArray} {maxL : Nat} {ret : Option FieldType} {pc pc' : Nat} {Ls Ls' : Array Slot} {S : List Value}
/-- sC is s but for its tables, which have grown as the run may let them; h: the heap now -/
def Sin (s sC : State) (h : Heap) : Prop := ∃ (vm : Vm) (k : Nat), sC = s.setVm vm ∧ s.Since vm k ∧ k ≤ h.size
theorem Sin.start (s : State) (h : Heap) : Sin s s h := ⟨s.vm, 0, rfl, (State.WarmedH.refl s).since 0, Nat.zero_le _⟩
theorem Sin.mono {sC : State} {h1 h2 : Heap} (Si : Sin s sC h1) (q : h1.size ≤ h2.size) : Sin s sC h2 := by obtain ⟨vm, k, a, b, c⟩ := Si; exact ⟨vm, k, a, b, Nat.le_trans c q⟩
theorem Cx.move {vm' : Vm} (C : Cx p s m meth c Z own nm bytes maxL ret) (hW : s.Warmed39 vm') : Cx p (s.setVm vm') m meth c Z own nm bytes maxL ret :=
  ⟨C.1, State.Warmed39.trans C.2.1 hW, by rw [show (s.setVm vm').vm = vm' from rfl, hW.alike.findClass]; exact C.2.2.1, C.2.2.2⟩
def FnW (s : State) (RC RS : Nat) (Q : Option Value → Heap → List Loc → Prop) (o : Outcome) (t : State) : Prop := ∃ v L, o = .returned v ∧ Q v t.heap L ∧ ReturnedEndW s o t L RC RS
def Met1W (l : Launch) (Z : State) (y : MethodName) (bytes : ByteArray) (maxL : Nat) (ret : Option FieldType) (rm : Room) (as' : Array Value) (h0 : Heap) (Q : Option Value → Heap → List Loc → Prop) : Prop :=
  ∀ ws : List Jvm.Cond, MetFree l y (head1 (Jvm.Cond.code y bytes maxL ret :: ws) rm) (fun a U => a = as' ∧ Z.Warmed39 U.vm ∧ U.heap = h0) (fun _ _ _ _ _ => True) (fun _ U o U' => ∃ v L, o = .returned v ∧ Q v U'.heap L ∧ ReturnedEndW U o U' L rm.cells rm.slots)
theorem Met1W.of_body {y : MethodName} {rm : Room} {as' : Array Value} {h0 : Heap} (hp : plainFor y = true) (ef : ∀ m, entryFrame m as' maxL = mkF m 0 Ls [])
    (body : ∀ {p : Program} {e : Env} {s : State} {m : MethodId} {below : List Frame} {meth : Method} {c : Code} {T : State}, Cx p s m meth c Z y.cls y.name bytes maxL ret → Stand p l e rm s m as' below meth c T [] 0 0 → T.heap = h0 → Go p e below (FnW s rm.cells rm.slots Q) T (mkF m 0 Ls [])) :
    Met1W l Z y bytes maxL ret rm as' h0 Q := by
  intro ws
  refine MetFree.of_bodySF hp hisR ?_
  intro p e s m args below meth c s₁ Bd hml0 hP hK
  obtain ⟨rfl, hZ, hh⟩ := hP
  have X0 : Stand p l e rm s m args below meth c s₁ [] 0 0 := Stand.of_body Bd
  have hlk : meth.locks = false := BodyLoose.notSynchronized Bd
  obtain ⟨s₂, o, st, r1, r2, r3⟩ := body (p := p) (e := e) (s := s) (m := m) (below := below) (meth := meth) (c := c) (T := s₁) ⟨Bd.exec, hZ, findClass_of_methodNamed Bd.named, Bd.bytes, hml0, Bd.returns, (name_of_methodNamed Bd.named Bd.method).1, hlk⟩ X0 (by rw [← hh, Bd.state]; rfl)
  exact ⟨s₂, o, castTop (ef m) st, r1, r2, r3⟩
theorem Go.ldcW {sC : State} (C : Cx p sC m meth c Z own nm bytes maxL ret) (X : Stand p l e R sC m args below meth c T locs cells slots) (Si : Sin s sC h) {idx n : Nat} {text : String} (w : (Cond.stringLink own idx text).before a0 Z = true) (wS : ∀ a ∈ Bundle.stringAtoms, a.before a0 Z = true) (eT : T.heap = h) (hn : 4 * text.toList.length ≤ n) (hbig : n ≤ 536870912) (hc : cells + 2 ≤ R.cells) (hl : slots + (n + 4) ≤ R.slots) (hd : decode bytes pc = .ok (.ldc idx, 2)) (hp : pc + 2 = pc')
    (K : ∀ T' h' a sC', Cx p sC' m meth c Z own nm bytes maxL ret → Stand p l e R sC' m args below meth c T' locs (cells + 2) (slots + (n + 4)) → T'.heap = h' → Sin s sC' h' → Ext h h' → Go p e below Fin' T' (mkF m pc' Ls (.ref a :: S))) : Go p e below Fin' T (mkF m pc Ls S) := by
  subst hp
  obtain ⟨vm0, k0, rfl, hS, hk⟩ := Si
  obtain ⟨a, T', h', k1, X', e', E', hS', hk', hW', hf', st⟩ := Jvm.RoadKit.ldcS X C.1 C.2.1 C.2.2.1 w wS eT hS hk (g := mkF m pc Ls S) rfl (hb C.2.2.2.1 hd) hn hbig hc hl
  exact (K T' h' a (s.setVm T'.vm) ⟨C.1, hW', hf', C.2.2.2⟩ X' e' ⟨T'.vm, k1, rfl, hS', hk'⟩ E').via st
theorem Go.callSW {sC : State} (C : Cx p sC m meth c Z own nm bytes maxL ret) (X : Stand p l e R sC m args below meth c T locs cells slots) (Si : Sin s sC h) {idx : Nat} {y : MethodName} {bytes' : ByteArray} {maxL' : Nat} {ret' : Option FieldType} {rm : Room} {as' : Array Value} {Q' : Option Value → Heap → List Loc → Prop} {argsL rest : List Value} {ps : List FieldType} {r : Option FieldType} {W : Nat} (w1 : (Cond.methodLink own idx y).before a0 Z = true) (w2 : (Cond.static y).before a0 Z = true) (hy : y.cls ≠ "java/lang/invoke/MethodHandle" ∧ y.cls ≠ "java/lang/invoke/VarHandle") (M : Met1W l Z y bytes' maxL' ret' rm as' h Q') (wc : (Cond.code y bytes' maxL' ret').before a0 Z = true) (wz : (Cond.initialized y.cls).before a0 Z = true) (eT : T.heap = h) (hS : S = argsL.reverse ++ rest) (has : (argsL).toArray = as') (pd : parseMethodDescriptor y.desc = some ⟨ps, r⟩) (hlen : argsL.length = ps.length) (hW : (rest.map fun v => v.category).sum ≤ W) (hls : Ls.size = maxL) (hf : rm.frames + 1 ≤ R.frames) (hlo : W + (maxL' + 11) + rm.locals ≤ R.locals) (hc : cells + rm.cells ≤ R.cells) (hs : slots + rm.slots ≤ R.slots) (hd : decode bytes pc = .ok (.invokestatic idx, 3)) (hp : pc + 3 = pc')
    (K : ∀ T' v L sC', Cx p sC' m meth c Z own nm bytes maxL ret → Stand p l e R sC' m args below meth c T' (locs ++ L) (cells + rm.cells) (slots + rm.slots) → Sin s sC' T'.heap → Q' v T'.heap L → Go p e below Fin' T' (mkF m pc' Ls (v.toList ++ rest))) : Go p e below Fin' T (mkF m pc Ls S) := by
  subst hp
  subst hS has
  obtain ⟨vm0, k0, rfl, hS0, hk0⟩ := Si
  obtain ⟨v, _, ⟨T', L', k', n'⟩, -, X', hS2, hg2, ⟨L, hQ, l', y', z'⟩, st⟩ := Jvm.RoadKit.callSS X C.1 (y := y) C.2.2.1 (mvT C.2.1 w1) (mvT C.2.1 w2) (mvT C.2.1 wz) (mvT C.2.1 wc) hy (backOfS (W := W) (M []) C.2.1 wc wz hf hlo) (g := mkF m pc Ls (argsL.reverse ++ rest)) rfl (by show Ls.size = _; rw [C.2.2.2.2.1]; exact hls) (argsL := argsL) (rest := rest) (lenOf pd hlen) rfl (by show 2 * 0 + _ ≤ _; omega) (hb C.2.2.2.1 hd) (fun _ _ => ⟨rfl, eT, hc, hs⟩)
  dsimp only [Pt.U, Pt.locs, Pt.cells, Pt.slots] at X' hS2 hg2 l' y' z' st hQ
  subst l' y' z'
  exact (K T' v L (s.setVm T'.vm) (C.move hS2.1) X' ⟨T'.vm, T'.heap.size, rfl, foldS hS0 (by rw [eT]; exact hk0) hS2 hg2, Nat.le_refl _⟩ hQ).via fun t k => st.trans k
theorem Go.callIW {sC : State} (C : Cx p sC m meth c Z own nm bytes maxL ret) (X : Stand p l e R sC m args below meth c T locs cells slots) (Si : Sin s sC h) {idx : Nat} {y : MethodName} {a : Addr} {bytes' : ByteArray} {maxL' : Nat} {ret' : Option FieldType} {rm : Room} {as' : Array Value} {Q' : Option Value → Heap → List Loc → Prop} {argsL rest : List Value} {ps : List FieldType} {r : Option FieldType} {W : Nat} (hini : y.name = "<init>") (w1 : (Cond.methodLink own idx y).before a0 Z = true) (w2 : (Cond.instanceMethod y).before a0 Z = true) (hy : y.cls ≠ "java/lang/invoke/MethodHandle" ∧ y.cls ≠ "java/lang/invoke/VarHandle") (M : Met1W l Z y bytes' maxL' ret' rm as' h Q') (wc : (Cond.code y bytes' maxL' ret').before a0 Z = true) (wz : (Cond.initialized y.cls).before a0 Z = true) (eT : T.heap = h) (hS : S = argsL.reverse ++ .ref a :: rest) (has : (.ref a :: argsL).toArray = as') (pd : parseMethodDescriptor y.desc = some ⟨ps, r⟩) (hlen : argsL.length = ps.length) (hW : (rest.map fun v => v.category).sum ≤ W) (hls : Ls.size = maxL) (hf : rm.frames + 1 ≤ R.frames) (hlo : W + (maxL' + 11) + rm.locals ≤ R.locals) (hc : cells + rm.cells ≤ R.cells) (hs : slots + rm.slots ≤ R.slots) (hr0 : ret' = none) (hd : decode bytes pc = .ok (.invokespecial idx, 3)) (hp : pc + 3 = pc')
    (K : ∀ T' v L sC', Cx p sC' m meth c Z own nm bytes maxL ret → Stand p l e R sC' m args below meth c T' (locs ++ L) (cells + rm.cells) (slots + rm.slots) → Sin s sC' T'.heap → Q' v T'.heap L → Go p e below Fin' T' (mkF m pc' Ls (v.toList ++ rest))) : Go p e below Fin' T (mkF m pc Ls S) := by
  subst hp
  subst hr0
  subst hS has
  obtain ⟨vm0, k0, rfl, hS0, hk0⟩ := Si
  obtain ⟨v, _, ⟨T', L', k', n'⟩, -, X', hS2, hg2, ⟨L, hQ, l', y', z'⟩, st⟩ := X.specialBackS C.1 (y := y) hini C.2.2.1 (mvT C.2.1 w1) (mvT C.2.1 w2) (mvT C.2.1 wc) hy (backOfS (W := W) (M []) C.2.1 wc wz hf hlo) (g := mkF m pc Ls (argsL.reverse ++ .ref a :: rest)) rfl (by show Ls.size = _; rw [C.2.2.2.2.1]; exact hls) (Steps.refl _) (a := a) (argsL := argsL) (rest := rest) (lenOf pd hlen) rfl (by show 2 * 0 + _ ≤ _; omega) (hb C.2.2.2.1 hd) (fun _ _ => ⟨rfl, eT, hc, hs⟩)
  dsimp only [Pt.U, Pt.locs, Pt.cells, Pt.slots] at X' hS2 hg2 l' y' z' st hQ
  subst l' y' z'
  exact (K T' v L (s.setVm T'.vm) (C.move hS2.1) X' ⟨T'.vm, T'.heap.size, rfl, foldS hS0 (by rw [eT]; exact hk0) hS2 hg2, Nat.le_refl _⟩ hQ).via fun t k => st.trans k
theorem Go.callPW {sC : State} (C : Cx p sC m meth c Z own nm bytes maxL ret) (X : Stand p l e R sC m args below meth c T locs cells slots) (Si : Sin s sC h) {idx : Nat} {y : MethodName} {a : Addr} {K1 : String} {bytes' : ByteArray} {maxL' : Nat} {ret' : Option FieldType} {rm : Room} {as' : Array Value} {Q' : Option Value → Heap → List Loc → Prop} {argsL rest : List Value} {ps : List FieldType} {r : Option FieldType} {W : Nat} (w1 : (Cond.methodLink own idx y).before a0 Z = true) (w2 : (Cond.instanceMethod y).before a0 Z = true) (w3 : (Cond.selects y.cls y y).before a0 Z = true) (w4 : (Cond.privateMethod y).before a0 Z = true) (E : Exa Z h a K1) (hy : y.cls ≠ "java/lang/invoke/MethodHandle" ∧ y.cls ≠ "java/lang/invoke/VarHandle") (M : Met1W l Z y bytes' maxL' ret' rm as' h Q') (wc : (Cond.code y bytes' maxL' ret').before a0 Z = true) (wz : (Cond.initialized y.cls).before a0 Z = true) (eT : T.heap = h) (hS : S = argsL.reverse ++ .ref a :: rest) (has : (.ref a :: argsL).toArray = as') (pd : parseMethodDescriptor y.desc = some ⟨ps, r⟩) (hlen : argsL.length = ps.length) (hW : (rest.map fun v => v.category).sum ≤ W) (hls : Ls.size = maxL) (hf : rm.frames + 1 ≤ R.frames) (hlo : W + (maxL' + 11) + rm.locals ≤ R.locals) (hc : cells + rm.cells ≤ R.cells) (hs : slots + rm.slots ≤ R.slots) (hd : decode bytes pc = .ok (.invokevirtual idx, 3)) (hp : pc + 3 = pc')
    (K : ∀ T' v L sC', Cx p sC' m meth c Z own nm bytes maxL ret → Stand p l e R sC' m args below meth c T' (locs ++ L) (cells + rm.cells) (slots + rm.slots) → Sin s sC' T'.heap → Q' v T'.heap L → Go p e below Fin' T' (mkF m pc' Ls (v.toList ++ rest))) : Go p e below Fin' T (mkF m pc Ls S) := by
  subst hp
  subst hS has
  obtain ⟨cq, q1, q2⟩ := E.cell
  obtain ⟨vm0, k0, rfl, hS0, hk0⟩ := Si
  obtain ⟨v, _, ⟨T', L', k', n'⟩, -, X', hS2, hg2, ⟨L, hQ, l', y', z'⟩, st⟩ := privateBackS X C.1 (y := y) C.2.2.1 (mvT C.2.1 w1) (mvT C.2.1 w2) (mvT C.2.1 w3) (Cond.privateMethod_at (mvP C.2.1 w4 (args := #[]))) (mvT C.2.1 wc) hy (backOfS (W := W) (M []) C.2.1 wc wz hf hlo) (g := mkF m pc Ls (argsL.reverse ++ .ref a :: rest)) rfl (by show Ls.size = _; rw [C.2.2.2.2.1]; exact hls) (Steps.refl _) (a := a) (by rw [eT]; exact q1) q2 (argsL := argsL) (rest := rest) (lenOf pd hlen) rfl (by show 2 * 0 + _ ≤ _; omega) (hb C.2.2.2.1 hd) (fun _ _ => ⟨rfl, eT, hc, hs⟩)
  dsimp only [Pt.U, Pt.locs, Pt.cells, Pt.slots] at X' hS2 hg2 l' y' z' st hQ
  subst l' y' z'
  exact (K T' v L (s.setVm T'.vm) (C.move hS2.1) X' ⟨T'.vm, T'.heap.size, rfl, foldS hS0 (by rw [eT]; exact hk0) hS2 hg2, Nat.le_refl _⟩ hQ).via fun t k => st.trans k
theorem Go.callVW {sC : State} (C : Cx p sC m meth c Z own nm bytes maxL ret) (X : Stand p l e R sC m args below meth c T locs cells slots) (Si : Sin s sC h) {idx : Nat} {y z : MethodName} {a : Addr} {K1 : String} {bytes' : ByteArray} {maxL' : Nat} {ret' : Option FieldType} {rm : Room} {as' : Array Value} {Q' : Option Value → Heap → List Loc → Prop} {argsL rest : List Value} {ps : List FieldType} {r : Option FieldType} {W : Nat} (w1 : (Cond.methodLink own idx y).before a0 Z = true) (w2 : (Cond.declares y).before a0 Z = true) (hnf : NotFace sC y) (w3 : (Cond.selects K1 y z).before a0 Z = true) (w4 : (Cond.instanceMethod z).before a0 Z = true) (E : Exa Z h a K1) (hy : y.cls ≠ "java/lang/invoke/MethodHandle" ∧ y.cls ≠ "java/lang/invoke/VarHandle") (M : Met1W l Z z bytes' maxL' ret' rm as' h Q') (wc : (Cond.code z bytes' maxL' ret').before a0 Z = true) (wz : (Cond.initialized z.cls).before a0 Z = true) (eT : T.heap = h) (hS : S = argsL.reverse ++ .ref a :: rest) (has : (.ref a :: argsL).toArray = as') (pd : parseMethodDescriptor y.desc = some ⟨ps, r⟩) (hlen : argsL.length = ps.length) (hW : (rest.map fun v => v.category).sum ≤ W) (hls : Ls.size = maxL) (hf : rm.frames + 1 ≤ R.frames) (hlo : W + (maxL' + 11) + rm.locals ≤ R.locals) (hc : cells + rm.cells ≤ R.cells) (hs : slots + rm.slots ≤ R.slots) (hd : decode bytes pc = .ok (.invokevirtual idx, 3)) (hp : pc + 3 = pc')
    (K : ∀ T' v L sC', Cx p sC' m meth c Z own nm bytes maxL ret → Stand p l e R sC' m args below meth c T' (locs ++ L) (cells + rm.cells) (slots + rm.slots) → Sin s sC' T'.heap → Q' v T'.heap L → Go p e below Fin' T' (mkF m pc' Ls (v.toList ++ rest))) : Go p e below Fin' T (mkF m pc Ls S) := by
  subst hp
  subst hS has
  obtain ⟨cq, kq, qa, qb, qc⟩ := isOf C.2.1 eT E
  obtain ⟨vm0, k0, rfl, hS0, hk0⟩ := Si
  obtain ⟨v, _, ⟨T', L', k', n'⟩, -, X', hS2, hg2, ⟨L, hQ, l', y', z'⟩, st⟩ := X.virtualBackS C.1 (y := y) (z := z) C.2.2.1 (mvT C.2.1 w1) (mvT C.2.1 w2) hnf (mvT C.2.1 w3) (mvT C.2.1 w4) hy (backOfS (W := W) (M []) C.2.1 wc wz hf hlo) qa qc (g := mkF m pc Ls (argsL.reverse ++ .ref a :: rest)) rfl (by show Ls.size = _; rw [C.2.2.2.2.1]; exact hls) (Steps.refl _) (argsL := argsL) (rest := rest) (lenOf pd hlen) rfl (by show 2 * 0 + _ ≤ _; omega) (hb C.2.2.2.1 hd) (fun _ _ => ⟨rfl, eT, hc, hs⟩)
  dsimp only [Pt.U, Pt.locs, Pt.cells, Pt.slots] at X' hS2 hg2 l' y' z' st hQ
  subst l' y' z'
  exact (K T' v L (s.setVm T'.vm) (C.move hS2.1) X' ⟨T'.vm, T'.heap.size, rfl, foldS hS0 (by rw [eT]; exact hk0) hS2 hg2, Nat.le_refl _⟩ hQ).via fun t k => st.trans k
theorem Go.retVW {sC : State} (C : Cx p sC m meth c Z own nm bytes maxL ret) (X : Stand p l e R sC m args below meth c T locs cells slots) (Si : Sin s sC T.heap)  (hr : ret = none) (hd : decode bytes pc = .ok (.return_, 1))  (hq : Q none T.heap locs) (hc : cells ≤ RC) (hs : slots ≤ RS) : Go p e below (FnW s RC RS Q) T (mkF m pc Ls []) := by
  have hret := C.2.2.2.2.2.1
  have hlk := C.2.2.2.2.2.2.2
  rw [hr] at hret
  obtain ⟨vm0, k0, rfl, hS0, hk0⟩ := Si
  obtain ⟨fs, hl, hrun, hended, hW⟩ := X.leaveW hS0 hk0 (v := none) (fun h => by first | rfl | (rw [hret] at h; cases h)) hlk
  exact ⟨_, _, X.returnOut C.1 hret (hb C.2.2.2.1 hd) hl, hrun, hended, _, _, rfl, hq, hW.1, hW.2.1, hW.2.2.1, hW.2.2.2.mono hc hs⟩
theorem Go.retNW {sC : State} (C : Cx p sC m meth c Z own nm bytes maxL ret) (X : Stand p l e R sC m args below meth c T locs cells slots) (Si : Sin s sC T.heap) {t : FieldType} {z : Int32} (hr : ret = some t) (hd : decode bytes pc = .ok (.ireturn, 1)) (ht : t = .boolean ∨ t = .byte ∨ t = .char ∨ t = .short) (hq : Q (some (.int (nar t z))) T.heap locs) (hc : cells ≤ RC) (hs : slots ≤ RS) : Go p e below (FnW s RC RS Q) T (mkF m pc Ls (.int z :: S)) := by
  have hret := C.2.2.2.2.2.1
  have hlk := C.2.2.2.2.2.2.2
  rw [hr] at hret
  obtain ⟨vm0, k0, rfl, hS0, hk0⟩ := Si
  obtain ⟨fs, hl, hrun, hended, hW⟩ := X.leaveW hS0 hk0 (v := (some (.int (nar t z)))) (fun h => by first | rfl | (rw [hret] at h; cases h)) hlk
  exact ⟨_, _, Jvm.RoadKit.retN X C.1 hret ht (hb C.2.2.2.1 hd) hl, hrun, hended, _, _, rfl, hq, hW.1, hW.2.1, hW.2.2.1, hW.2.2.2.mono hc hs⟩
theorem Go.retIW {sC : State} (C : Cx p sC m meth c Z own nm bytes maxL ret) (X : Stand p l e R sC m args below meth c T locs cells slots) (Si : Sin s sC T.heap) {z : Int32} (hr : ret = some .int) (hd : decode bytes pc = .ok (.ireturn, 1))  (hq : Q (some (.int z)) T.heap locs) (hc : cells ≤ RC) (hs : slots ≤ RS) : Go p e below (FnW s RC RS Q) T (mkF m pc Ls (.int z :: S)) := by
  have hret := C.2.2.2.2.2.1
  have hlk := C.2.2.2.2.2.2.2
  rw [hr] at hret
  obtain ⟨vm0, k0, rfl, hS0, hk0⟩ := Si
  obtain ⟨fs, hl, hrun, hended, hW⟩ := X.leaveW hS0 hk0 (v := (some (.int z))) (fun h => by first | rfl | (rw [hret] at h; cases h)) hlk
  exact ⟨_, _, retOut X C.1 hret rfl (Or.inl ⟨rfl, Or.inl rfl, z, rfl⟩) (hb C.2.2.2.1 hd) hl, hrun, hended, _, _, rfl, hq, hW.1, hW.2.1, hW.2.2.1, hW.2.2.2.mono hc hs⟩
theorem Go.retAW {sC : State} (C : Cx p sC m meth c Z own nm bytes maxL ret) (X : Stand p l e R sC m args below meth c T locs cells slots) (Si : Sin s sC T.heap) {t : FieldType} {v : Value} (hr : ret = some t) (hd : decode bytes pc = .ok (.areturn, 1)) (ht : t.isReference = true) (hv : v.isRef = true) (hn : narrow t v = v) (hq : Q (some v) T.heap locs) (hc : cells ≤ RC) (hs : slots ≤ RS) : Go p e below (FnW s RC RS Q) T (mkF m pc Ls (v :: S)) := by
  have hret := C.2.2.2.2.2.1
  have hlk := C.2.2.2.2.2.2.2
  rw [hr] at hret
  obtain ⟨vm0, k0, rfl, hS0, hk0⟩ := Si
  obtain ⟨fs, hl, hrun, hended, hW⟩ := X.leaveW hS0 hk0 (v := (some v)) (fun h => by first | rfl | (rw [hret] at h; cases h)) hlk
  exact ⟨_, _, retOut X C.1 hret hn (Or.inr (Or.inr (Or.inr (Or.inr ⟨rfl, ht, hv⟩)))) (hb C.2.2.2.1 hd) hl, hrun, hended, _, _, rfl, hq, hW.1, hW.2.1, hW.2.2.1, hW.2.2.2.mono hc hs⟩
end OwnW
end Jvm.RoadKit
namespace Jvm.Pilot.@@N@@
open Jvm Jvm.ClassFile Sem Op Lib Jvm.Free Jvm.Stand Jvm.LawKit Jvm.RoadKit Bundle Jvm.Pilot.@@N@@.Jvm.D
theorem tw {a0 : Array Value} {Z : State} (hw : ∀ d ∈ tables_1, d.before a0 Z = true) (i : Nat) {d : Cond} (h : tables_1[i]? = some d) : d.before a0 Z = true := hw d (List.mem_of_getElem? h)
theorem n32_int {n : Nat} (h : n < 2 ^ 31) : n.toInt32.toInt = n := len_toInt h
theorem n32_nat {n : Nat} (h : n < 2 ^ 31) : n.toInt32.toNatClampNeg = n := by simp only [Int32.toNatClampNeg, len_toInt h]; omega
theorem n32_neg {n : Nat} (h : n < 2 ^ 31) : ¬ n.toInt32 < 0 := by simp only [Int32.lt_iff_toInt_lt, len_toInt h, Int32.reduceToInt]; omega
theorem n32_lt {n k : Nat} (hn : n < 2 ^ 31) (hk : k < 2 ^ 31) : n.toInt32 < k.toInt32 ↔ n < k := by rw [Int32.lt_iff_toInt_lt, len_toInt hn, len_toInt hk]; omega
theorem n32_succ (n : Nat) : n.toInt32 + (1 : Int32) = (n + 1).toInt32 := (Int32.ofNat_add n 1).symm
theorem n32_eq {n k : Nat} (hn : n < 2 ^ 31) (hk : k < 2 ^ 31) : n.toInt32 = k.toInt32 ↔ n = k := by rw [← Int32.toInt_inj, len_toInt hn, len_toInt hk]; omega
theorem nar_byte8 (x : Int32) : nar .byte x.toInt8.toInt32 = x.toInt8.toInt32 := by simp [nar]
def by8 (cs : List Int32) : List Value := cs.map fun c => Value.int c.toInt8.toInt32
def ch16 (cs : List Int32) : List Value := cs.map Value.int
theorem by8_len (cs : List Int32) : (by8 cs).length = cs.length := by simp [by8]
theorem ch16_len (cs : List Int32) : (ch16 cs).length = cs.length := by simp [ch16]

theorem d5_0 : decode jdk_52_method_21_code 0 = .ok (.iconst 0, 1) := by decide +kernel
theorem d5_1 : decode jdk_52_method_21_code 1 = .ok (.istore 5, 2) := by decide +kernel
theorem d5_3 : decode jdk_52_method_21_code 3 = .ok (.iload 5, 2) := by decide +kernel
theorem d5_5 : decode jdk_52_method_21_code 5 = .ok (.iload 4, 2) := by decide +kernel
theorem d5_7 : decode jdk_52_method_21_code 7 = .ok (.if_icmp .ge 37, 3) := by decide +kernel
theorem d5_10 : decode jdk_52_method_21_code 10 = .ok (.aload_n 0, 1) := by decide +kernel
theorem d5_11 : decode jdk_52_method_21_code 11 = .ok (.iload_n 1, 1) := by decide +kernel
theorem d5_12 : decode jdk_52_method_21_code 12 = .ok (.caload, 1) := by decide +kernel
theorem d5_13 : decode jdk_52_method_21_code 13 = .ok (.istore 6, 2) := by decide +kernel
theorem d5_15 : decode jdk_52_method_21_code 15 = .ok (.iload 6, 2) := by decide +kernel
theorem d5_17 : decode jdk_52_method_21_code 17 = .ok (.sipush 255, 3) := by decide +kernel
theorem d5_20 : decode jdk_52_method_21_code 20 = .ok (.if_icmp .le 6, 3) := by decide +kernel
theorem d5_23 : decode jdk_52_method_21_code 23 = .ok (.iload 5, 2) := by decide +kernel
theorem d5_25 : decode jdk_52_method_21_code 25 = .ok (.ireturn, 1) := by decide +kernel
theorem d5_26 : decode jdk_52_method_21_code 26 = .ok (.aload_n 2, 1) := by decide +kernel
theorem d5_27 : decode jdk_52_method_21_code 27 = .ok (.iload_n 3, 1) := by decide +kernel
theorem d5_28 : decode jdk_52_method_21_code 28 = .ok (.iload 6, 2) := by decide +kernel
theorem d5_30 : decode jdk_52_method_21_code 30 = .ok (.i2b, 1) := by decide +kernel
theorem d5_31 : decode jdk_52_method_21_code 31 = .ok (.bastore, 1) := by decide +kernel
theorem d5_32 : decode jdk_52_method_21_code 32 = .ok (.iinc 1 1, 3) := by decide +kernel
theorem d5_35 : decode jdk_52_method_21_code 35 = .ok (.iinc 3 1, 3) := by decide +kernel
theorem d5_38 : decode jdk_52_method_21_code 38 = .ok (.iinc 5 1, 3) := by decide +kernel
theorem d5_41 : decode jdk_52_method_21_code 41 = .ok (.goto (-38), 3) := by decide +kernel
theorem d5_44 : decode jdk_52_method_21_code 44 = .ok (.iload 4, 2) := by decide +kernel
theorem d5_46 : decode jdk_52_method_21_code 46 = .ok (.ireturn, 1) := by decide +kernel
set_option maxRecDepth 65536 in
set_option maxHeartbeats 40000000 in
theorem lp_compress {p : Program} {l : Launch} {e : Env} {R : Room} {s : State} {m : MethodId} {args : Array Value} {below : List Frame} {meth : Method} {c : Code} {Z : State} {Fin' : Outcome → State → Prop} {a b : Addr} {ka kb : ClassId} {cs : List Int32} (C : Cx p s m meth c Z "java/lang/StringUTF16" "compress" jdk_52_method_21_code 7 (some .int)) (hcs : ∀ x ∈ cs, 0 ≤ x.toInt ∧ x.toInt ≤ 255) (hl : cs.length < 2 ^ 31) (hne : a ≠ b) (hnb : Z.heap.size ≤ b) :
    ∀ (k n : Nat) (T : State) (locs : List Loc) (cells slots : Nat) (h : Heap) (s6 : Slot), n + k = cs.length → One s6 → Stand p l e R s m args below meth c T locs cells slots → T.heap = h → AL Z h a ka .char (ch16 cs) → AL Z h b kb .byte (by8 (cs.take n) ++ List.replicate k (.int 0)) → Fr Z.heap.size locs →
      (∀ (T' : State) (locs' : List Loc) (h' : Heap) (s6' : Slot), Stand p l e R s m args below meth c T' locs' cells slots → T'.heap = h' → Keep h h' [b] → AL Z h' b kb .byte (by8 cs) → Fr Z.heap.size locs' → Go p e below Fin' T' (mkF m 44 #[.val (.ref a), .val (.int cs.length.toInt32), .val (.ref b), .val (.int cs.length.toInt32), .val (.int cs.length.toInt32), .val (.int cs.length.toInt32), s6'] [])) →
      Go p e below Fin' T (mkF m 3 #[.val (.ref a), .val (.int n.toInt32), .val (.ref b), .val (.int n.toInt32), .val (.int cs.length.toInt32), .val (.int n.toInt32), s6] []) := by
  intro k
  induction k with
  | zero =>
    intro n T locs cells slots h s6 hn h6 X e0 A B N K
    have hn' : n = cs.length := by omega
    subst hn'
    refine Go.iload (pc' := 5) C X d5_3 rfl rfl ?_
    refine Go.iload (pc' := 7) C X d5_5 rfl rfl ?_
    refine Go.icmpYes (pc' := 44) C X d5_7 (flt (x := cs.length.toInt32) (y := cs.length.toInt32) (fun q => absurd ((n32_lt hl hl).mp q) (Nat.lt_irrefl _))).2.1 (by decide) (by decide) ?_
    exact K T locs h s6 X e0 (Keep.refl _ _) (by simpa using B) N
  | succ k ih =>
    intro n T locs cells slots h s6 hn h6 X e0 A B N K
    have hlt : n < cs.length := by omega
    have hn31 : n < 2 ^ 31 := by omega
    obtain ⟨x, hx⟩ : ∃ x, x = cs[n] := ⟨_, rfl⟩
    have hxm : x ∈ cs := hx ▸ List.getElem_mem hlt
    have hb := hcs x hxm
    have hget : (ch16 cs)[n]? = some (.int x) := by simp [ch16, hx, hlt]
    refine Go.iload (pc' := 5) C X d5_3 rfl rfl ?_
    refine Go.iload (pc' := 7) C X d5_5 rfl rfl ?_
    refine Go.icmpNo (pc' := 10) C X d5_7 (tlt (x := n.toInt32) (y := cs.length.toInt32) ((n32_lt hn31 hl).mpr hlt)).2.1 rfl ?_
    refine Go.aloadN (pc' := 11) C X d5_10 rfl rfl rfl ?_
    refine Go.iloadN (pc' := 12) C X d5_11 rfl rfl ?_
    refine Go.ldC (i := n) (v := .int x) (pc' := 13) C X e0 A (n32_neg hn31) (n32_nat hn31) hget d5_12 rfl ?_
    refine Go.istore (Ls' := #[.val (.ref a), .val (.int n.toInt32), .val (.ref b), .val (.int n.toInt32), .val (.int cs.length.toInt32), .val (.int n.toInt32), .val (.int x)]) (pc' := 15) C X d5_13 (XS.store1 (o := s6) rfl h6 rfl) rfl ?_
    refine Go.iload (pc' := 17) C X d5_15 rfl rfl ?_
    refine Go.sipush (z := (255 : Int32)) (pc' := 20) C X d5_17 rfl rfl ?_
    refine Go.icmpYes (pc' := 26) C X d5_20 (flt (x := (255 : Int32)) (y := x) (fun q => absurd (Int32.lt_iff_toInt_lt.mp q) (by simp only [Int32.reduceToInt]; omega))).2.2.2 (by decide) (by decide) ?_
    refine Go.aloadN (pc' := 27) C X d5_26 rfl rfl rfl ?_
    refine Go.iloadN (pc' := 28) C X d5_27 rfl rfl ?_
    refine Go.iload (pc' := 30) C X d5_28 rfl rfl ?_
    refine Go.i2b (pc' := 31) C X d5_30 rfl ?_
    refine Go.stB (i := n) (x' := x.toInt8.toInt32) (vs' := by8 (cs.take (n + 1)) ++ List.replicate k (.int 0)) (pc' := 32) C X e0 B (n32_neg hn31) (n32_nat hn31) (by simp [by8]; omega) (nar_byte8 x) ?_ d5_31 rfl ?_
    · rw [List.take_add_one, List.getElem?_eq_getElem hlt, ← hx]
      simp only [by8, List.map_append, Option.toList, List.map_cons, List.map_nil, List.replicate_succ, List.append_assoc, List.cons_append, List.nil_append]
      rw [List.set_append_right _ _ (by simp; omega)]
      simp [Nat.min_eq_left (Nat.le_of_lt hlt)]
    · intro T1 h1 X1 e1 W1 B1
      have N1 := Fr.snoc X1 N hnb
      refine Go.iinc (Ls' := #[.val (.ref a), .val (.int (n + 1).toInt32), .val (.ref b), .val (.int n.toInt32), .val (.int cs.length.toInt32), .val (.int n.toInt32), .val (.int x)]) (z := (1 : Int32)) (pc' := 35) C X1 d5_32 rfl rfl (by rw [n32_succ]; rfl) rfl ?_
      refine Go.iinc (Ls' := #[.val (.ref a), .val (.int (n + 1).toInt32), .val (.ref b), .val (.int (n + 1).toInt32), .val (.int cs.length.toInt32), .val (.int n.toInt32), .val (.int x)]) (z := (1 : Int32)) (pc' := 38) C X1 d5_35 rfl rfl (by rw [n32_succ]; rfl) rfl ?_
      refine Go.iinc (Ls' := #[.val (.ref a), .val (.int (n + 1).toInt32), .val (.ref b), .val (.int (n + 1).toInt32), .val (.int cs.length.toInt32), .val (.int (n + 1).toInt32), .val (.int x)]) (z := (1 : Int32)) (pc' := 41) C X1 d5_38 rfl rfl (by rw [n32_succ]; rfl) rfl ?_
      refine Go.goto (pc' := 3) C X1 d5_41 (by decide) (by decide) ?_
      refine ih (n + 1) T1 _ cells slots h1 (.val (.int x)) (by omega) (One.val rfl) X1 e1 (AL.other W1 A hne) B1 N1 ?_
      intro T' locs' h' s6' X' e' K' B' N'
      exact K T' locs' h' s6' X' e' (((Keep.refl h [b]).wr W1 (Or.inl (by simp))).trans K' (allS (Or.inl (by simp)) all0)) B' N'
theorem pf_5 : plainFor (⟨"java/lang/StringUTF16", "compress", "([CI[BII)I"⟩ : MethodName) = true := plainFor_of_name (by first | (simp [plainName, overriddenIn]; done) | decide +kernel)
def Q_cmpI (Z : State) (a : Addr) (b : Addr) (ka : ClassId) (kb : ClassId) (cs : List Int32) (h0 : Heap) (rv : Option Value) (h : Heap) (L : List Loc) : Prop := rv = some (.int cs.length.toInt32) ∧ Fr Z.heap.size L ∧ Keep h0 h [b] ∧ AL Z h b kb .byte (by8 cs)
set_option maxRecDepth 65536 in
set_option maxHeartbeats 40000000 in
theorem rm_cmpI (l : Launch) (Z : State) (a0 : Array Value) (hw : ∀ d ∈ tables_1, d.before a0 Z = true) (a : Addr) (b : Addr) (ka : ClassId) (kb : ClassId) (cs : List Int32) (h0 : Heap) (O0 : Ext Z.heap h0) (A0 : AL Z h0 a ka .char (ch16 cs)) (B0 : AL Z h0 b kb .byte (List.replicate cs.length (.int 0))) (hcs : ∀ x ∈ cs, 0 ≤ x.toInt ∧ x.toInt ≤ 255) (hl : cs.length < 2 ^ 31) (hne : a ≠ b) (hnb : Z.heap.size ≤ b) :
    Met1 l Z (⟨"java/lang/StringUTF16", "compress", "([CI[BII)I"⟩ : MethodName) jdk_52_method_21_code 7 (some .int) ({ frames := 0, cells := 0, slots := 0, locals := 0 } : Room) #[(.ref a), (.int (0 : Int32)), (.ref b), (.int (0 : Int32)), (.int cs.length.toInt32)] h0 (Q_cmpI Z a b ka kb cs h0) := by
  refine Met1.of_body (Ls := #[.val (.ref a), .val (.int (0 : Int32)), .val (.ref b), .val (.int (0 : Int32)), .val (.int cs.length.toInt32), .unset, .unset]) pf_5 (fun m => by first | (simp [entryFrame, mkF, argsToLocals, Value.category]; done) | rfl) ?_
  intro p e s m below meth c T0 C X0 e0
  have N0 : Fr Z.heap.size [] := Fr.nil _
  refine Go.iconst (z := (0 : Int32)) (pc' := 1) C X0 d5_0 rfl rfl ?_
  refine Go.istore (Ls' := #[.val (.ref a), .val (.int (0 : Int32)), .val (.ref b), .val (.int (0 : Int32)), .val (.int cs.length.toInt32), .val (.int (0 : Int32)), .unset]) (pc' := 3) C X0 d5_1 rfl rfl ?_
  refine lp_compress C hcs hl hne hnb cs.length 0 T0 [] 0 0 h0 .unset (by omega) One.u X0 e0 A0 (by simpa [by8] using B0) N0 ?_
  intro T' locs' h' s6' X' e' K' B' N'
  refine Go.iload (pc' := 46) C X' d5_44 rfl rfl ?_
  exact Go.retI C X' rfl d5_46 (by rw [e']; exact ⟨rfl, N', K', B'⟩) (by decide) (by decide)
theorem pd_0 : parseMethodDescriptor "([CI[BII)I" = some ⟨[(.array .char), .int, (.array .byte), .int, .int], some .int⟩ := by decide +kernel
theorem pf_4 : plainFor (⟨"java/lang/StringUTF16", "compress", "([CII)[B"⟩ : MethodName) = true := plainFor_of_name (by first | (simp [plainName, overriddenIn]; done) | decide +kernel)
theorem d4_0 : decode jdk_52_method_16_code 0 = .ok (.iload_n 2, 1) := by decide +kernel
theorem d4_1 : decode jdk_52_method_16_code 1 = .ok (.newarray .byte, 2) := by decide +kernel
theorem d4_3 : decode jdk_52_method_16_code 3 = .ok (.astore_n 3, 1) := by decide +kernel
theorem d4_4 : decode jdk_52_method_16_code 4 = .ok (.aload_n 0, 1) := by decide +kernel
theorem d4_5 : decode jdk_52_method_16_code 5 = .ok (.iload_n 1, 1) := by decide +kernel
theorem d4_6 : decode jdk_52_method_16_code 6 = .ok (.aload_n 3, 1) := by decide +kernel
theorem d4_7 : decode jdk_52_method_16_code 7 = .ok (.iconst 0, 1) := by decide +kernel
theorem d4_8 : decode jdk_52_method_16_code 8 = .ok (.iload_n 2, 1) := by decide +kernel
theorem d4_9 : decode jdk_52_method_16_code 9 = .ok (.invokestatic 115, 3) := by decide +kernel
theorem d4_12 : decode jdk_52_method_16_code 12 = .ok (.istore 4, 2) := by decide +kernel
theorem d4_14 : decode jdk_52_method_16_code 14 = .ok (.iload 4, 2) := by decide +kernel
theorem d4_16 : decode jdk_52_method_16_code 16 = .ok (.iload_n 2, 1) := by decide +kernel
theorem d4_17 : decode jdk_52_method_16_code 17 = .ok (.if_icmp .eq 40, 3) := by decide +kernel
theorem d4_57 : decode jdk_52_method_16_code 57 = .ok (.aload_n 3, 1) := by decide +kernel
theorem d4_58 : decode jdk_52_method_16_code 58 = .ok (.areturn, 1) := by decide +kernel
def Q_cmpO (Z : State) (a : Addr) (ka : ClassId) (cs : List Int32) (h0 : Heap) (rv : Option Value) (h : Heap) (L : List Loc) : Prop := ∃ b : Addr, ∃ kb : ClassId, rv = some (.ref b) ∧ Fr Z.heap.size L ∧ Keep h0 h [] ∧ h0.size ≤ b ∧ AL Z h b kb .byte (by8 cs)
set_option maxRecDepth 65536 in
set_option maxHeartbeats 40000000 in
theorem rm_cmpO (l : Launch) (Z : State) (a0 : Array Value) (hw : ∀ d ∈ tables_1, d.before a0 Z = true) (a : Addr) (ka : ClassId) (cs : List Int32) (h0 : Heap) (O0 : Ext Z.heap h0) (A0 : AL Z h0 a ka .char (ch16 cs)) (hcs : ∀ x ∈ cs, 0 ≤ x.toInt ∧ x.toInt ≤ 255) (hl : cs.length < 2 ^ 31) (hN : cs.length ≤ 1) :
    Met1 l Z (⟨"java/lang/StringUTF16", "compress", "([CII)[B"⟩ : MethodName) jdk_52_method_16_code 6 (some (.array .byte)) ({ frames := 1, cells := 1, slots := 1, locals := 18 } : Room) #[(.ref a), (.int (0 : Int32)), (.int cs.length.toInt32)] h0 (Q_cmpO Z a ka cs h0) := by
  refine Met1.of_body (Ls := #[.val (.ref a), .val (.int (0 : Int32)), .val (.int cs.length.toInt32), .unset, .unset, .unset]) pf_4 (fun m => by first | (simp [entryFrame, mkF, argsToLocals, Value.category]; done) | rfl) ?_
  intro p e s m below meth c T0 C X0 e0
  have N0 : Fr Z.heap.size [] := Fr.nil _
  refine Go.iloadN (pc' := 1) C X0 d4_0 rfl rfl ?_
  refine Go.newP (aty := .byte) (cap := 1) (vs := (List.replicate cs.length (.int 0))) (ad := "[B") (pc' := 3) C X0 (by decide) (tw hw 19 rfl) e0 (n32_neg hl) (by rw [n32_nat hl]; exact hN) (by decide) (by decide) (by decide) (by rw [n32_nat hl]; rfl) d4_1 rfl ?_
  intro T101 h101 b101 k101 X101 e101 g101 E101 A101 Ea101
  have n_b101 : Z.heap.size ≤ b101 := Nat.le_trans O0.1 (Nat.le_of_eq g101.symm)
  have z_b101 : h0.size ≤ b101 := Nat.le_trans (Nat.le_refl _) (Nat.le_of_eq g101.symm)
  have A101 : AL Z h101 b101 k101 .byte (List.replicate cs.length (.int 0)) := A101
  refine Go.astoreN (Ls' := #[.val (.ref a), .val (.int (0 : Int32)), .val (.int cs.length.toInt32), .val (.ref b101), .unset, .unset]) (pc' := 4) C X101 d4_3 rfl rfl rfl ?_
  refine Go.aloadN (pc' := 5) C X101 d4_4 rfl rfl rfl ?_
  refine Go.iloadN (pc' := 6) C X101 d4_5 rfl rfl ?_
  refine Go.aloadN (pc' := 7) C X101 d4_6 rfl rfl rfl ?_
  refine Go.iconst (z := (0 : Int32)) (pc' := 8) C X101 d4_7 rfl rfl ?_
  refine Go.iloadN (pc' := 9) C X101 d4_8 rfl rfl ?_
  have c103 : AL Z h101 a ka .char (ch16 cs) := (AL.ext E101 A0)
  have ne104 : a ≠ b101 := Nat.ne_of_lt (Nat.lt_of_lt_of_le A0.lt (Nat.le_trans (Nat.le_refl _) (Nat.le_of_eq g101.symm)))
  have O105 : Ext Z.heap h101 := (Ext.trans O0 E101)
  refine Go.callS (y := (⟨"java/lang/StringUTF16", "compress", "([CI[BII)I"⟩ : MethodName)) (pc' := 12) C X101 (tw hw 20 rfl) (tw hw 21 rfl) (by decide) (rm_cmpI l Z a0 hw a b101 ka k101 cs h101 O105 c103 A101 hcs hl ne104 n_b101) (tw hw 22 rfl) (tw hw 17 rfl) e101 (argsL := [(.ref a), (.int (0 : Int32)), (.ref b101), (.int (0 : Int32)), (.int cs.length.toInt32)]) (rest := []) (W := 0) rfl rfl pd_0 rfl (Nat.le_of_eq rfl) rfl (by decide) (by decide) (by decide) (by decide) d4_9 rfl ?_
  intro T102 v102 L102 X102 q102
  obtain ⟨rfl, N102q, K102, P102_0⟩ := q102
  have N102 := Fr.app N0 N102q
  refine Go.istore (Ls' := #[.val (.ref a), .val (.int (0 : Int32)), .val (.int cs.length.toInt32), .val (.ref b101), .val (.int cs.length.toInt32), .unset]) (pc' := 14) C X102 d4_12 rfl rfl ?_
  refine Go.iload (pc' := 16) C X102 d4_14 rfl rfl ?_
  refine Go.iloadN (pc' := 17) C X102 d4_16 rfl rfl ?_
  refine Go.icmpYes (pc' := 57) C X102 d4_17 (teq (x := cs.length.toInt32) (y := cs.length.toInt32) rfl).1 (by decide) (by decide) ?_
  refine Go.aloadN (pc' := 58) C X102 d4_57 rfl rfl rfl ?_
  have K107 : Keep h0 T102.heap [] := (((Keep.refl h0 []).ext E101).trans K102 (allS (Or.inr z_b101) all0))
  exact Go.retA C X102 rfl d4_58 rfl rfl rfl ⟨b101, k101, rfl, N102, K107, z_b101, P102_0⟩ (by decide) (by decide)
theorem pf_6 : plainFor (⟨"java/lang/StringUTF16", "coderFromArrayLen", "([BI)B"⟩ : MethodName) = true := plainFor_of_name (by first | (simp [plainName, overriddenIn]; done) | decide +kernel)
theorem d6_0 : decode jdk_52_method_15_code 0 = .ok (.iload_n 1, 1) := by decide +kernel
theorem d6_1 : decode jdk_52_method_15_code 1 = .ok (.aload_n 0, 1) := by decide +kernel
theorem d6_2 : decode jdk_52_method_15_code 2 = .ok (.arraylength, 1) := by decide +kernel
theorem d6_3 : decode jdk_52_method_15_code 3 = .ok (.isub, 1) := by decide +kernel
theorem d6_4 : decode jdk_52_method_15_code 4 = .ok (.bipush 31, 2) := by decide +kernel
theorem d6_6 : decode jdk_52_method_15_code 6 = .ok (.iushr, 1) := by decide +kernel
theorem d6_7 : decode jdk_52_method_15_code 7 = .ok (.i2b, 1) := by decide +kernel
theorem d6_8 : decode jdk_52_method_15_code 8 = .ok (.ireturn, 1) := by decide +kernel
def Q_cfl (Z : State) (b : Addr) (kb : ClassId) (cs : List Int32) (h0 : Heap) (rv : Option Value) (h : Heap) (L : List Loc) : Prop := rv = some (.int (0 : Int32)) ∧ L = [] ∧ h = h0
set_option maxRecDepth 65536 in
set_option maxHeartbeats 40000000 in
theorem rm_cfl (l : Launch) (Z : State) (a0 : Array Value) (hw : ∀ d ∈ tables_1, d.before a0 Z = true) (b : Addr) (kb : ClassId) (cs : List Int32) (h0 : Heap) (O0 : Ext Z.heap h0) (B0 : AL Z h0 b kb .byte (by8 cs)) :
    Met1 l Z (⟨"java/lang/StringUTF16", "coderFromArrayLen", "([BI)B"⟩ : MethodName) jdk_52_method_15_code 2 (some .byte) ({ frames := 0, cells := 0, slots := 0, locals := 0 } : Room) #[(.ref b), (.int cs.length.toInt32)] h0 (Q_cfl Z b kb cs h0) := by
  refine Met1.of_body (Ls := #[.val (.ref b), .val (.int cs.length.toInt32)]) pf_6 (fun m => by first | (simp [entryFrame, mkF, argsToLocals, Value.category]; done) | rfl) ?_
  intro p e s m below meth c T0 C X0 e0
  have N0 : Fr Z.heap.size [] := Fr.nil _
  refine Go.iloadN (pc' := 1) C X0 d6_0 rfl rfl ?_
  refine Go.aloadN (pc' := 2) C X0 d6_1 rfl rfl rfl ?_
  refine Go.alen (z := cs.length.toInt32) (pc' := 3) C X0 e0 B0 (by rw [by8_len]) d6_2 rfl ?_
  refine Go.isub (pc' := 4) C X0 d6_3 rfl ?_
  refine Go.bipush (z := (31 : Int32)) (pc' := 6) C X0 d6_4 rfl rfl ?_
  refine Go.iushr (pc' := 7) C X0 d6_6 rfl ?_
  refine Go.i2b (pc' := 8) C X0 d6_7 rfl ?_
  exact Go.retN C X0 rfl d6_8 (by simp) (by rw [e0]; exact ⟨(by rw [Int32.sub_self]; rfl), rfl, rfl⟩) (by decide) (by decide)
theorem pd_1 : parseMethodDescriptor "([CII)[B" = some ⟨[(.array .char), .int, .int], some (.array .byte)⟩ := by decide +kernel
theorem pd_2 : parseMethodDescriptor "([BI)B" = some ⟨[(.array .byte), .int], some .byte⟩ := by decide +kernel
theorem pf_2 : plainFor (⟨"java/lang/String", "<init>", "([CIILjava/lang/Void;)V"⟩ : MethodName) = true := plainFor_of_name (by first | (simp [plainName, overriddenIn]; done) | decide +kernel)
theorem d2_0 : decode jdk_42_method_149_code 0 = .ok (.aload_n 0, 1) := by decide +kernel
theorem d2_1 : decode jdk_42_method_149_code 1 = .ok (.invokespecial 1, 3) := by decide +kernel
theorem d2_4 : decode jdk_42_method_149_code 4 = .ok (.iload_n 3, 1) := by decide +kernel
theorem d2_5 : decode jdk_42_method_149_code 5 = .ok (.ifCond .ne 22, 3) := by decide +kernel
theorem d2_27 : decode jdk_42_method_149_code 27 = .ok (.getstatic 38, 3) := by decide +kernel
theorem d2_30 : decode jdk_42_method_149_code 30 = .ok (.ifCond .eq 28, 3) := by decide +kernel
theorem d2_33 : decode jdk_42_method_149_code 33 = .ok (.aload_n 1, 1) := by decide +kernel
theorem d2_34 : decode jdk_42_method_149_code 34 = .ok (.iload_n 2, 1) := by decide +kernel
theorem d2_35 : decode jdk_42_method_149_code 35 = .ok (.iload_n 3, 1) := by decide +kernel
theorem d2_36 : decode jdk_42_method_149_code 36 = .ok (.invokestatic 177, 3) := by decide +kernel
theorem d2_39 : decode jdk_42_method_149_code 39 = .ok (.astore 5, 2) := by decide +kernel
theorem d2_41 : decode jdk_42_method_149_code 41 = .ok (.aload_n 0, 1) := by decide +kernel
theorem d2_42 : decode jdk_42_method_149_code 42 = .ok (.aload 5, 2) := by decide +kernel
theorem d2_44 : decode jdk_42_method_149_code 44 = .ok (.iload_n 3, 1) := by decide +kernel
theorem d2_45 : decode jdk_42_method_149_code 45 = .ok (.invokestatic 47, 3) := by decide +kernel
theorem d2_48 : decode jdk_42_method_149_code 48 = .ok (.putfield 15, 3) := by decide +kernel
theorem d2_51 : decode jdk_42_method_149_code 51 = .ok (.aload_n 0, 1) := by decide +kernel
theorem d2_52 : decode jdk_42_method_149_code 52 = .ok (.aload 5, 2) := by decide +kernel
theorem d2_54 : decode jdk_42_method_149_code 54 = .ok (.putfield 9, 3) := by decide +kernel
theorem d2_57 : decode jdk_42_method_149_code 57 = .ok (.return_, 1) := by decide +kernel
def Q_sI4 (Z : State) (s1 : Addr) (a : Addr) (ka : ClassId) (cs : List Int32) (cP : Int32) (h0 : Heap) (rv : Option Value) (h : Heap) (L : List Loc) : Prop := ∃ v : Addr, ∃ kv : ClassId, rv = none ∧ Fr Z.heap.size L ∧ Keep h0 h [s1] ∧ h0.size ≤ v ∧ Fld Z h s1 "java/lang/String" "value" "[B" (.ref v) ∧ Fld Z h s1 "java/lang/String" "coder" "B" (.int (0 : Int32)) ∧ AL Z h v kv .byte (by8 cs)
set_option maxRecDepth 65536 in
set_option maxHeartbeats 40000000 in
theorem rm_sI4 (l : Launch) (Z : State) (a0 : Array Value) (hw : ∀ d ∈ tables_1, d.before a0 Z = true) (s1 : Addr) (a : Addr) (ka : ClassId) (cs : List Int32) (cP : Int32) (h0 : Heap) (O0 : Ext Z.heap h0) (E0 : Exa Z h0 s1 "java/lang/String") (Fv : Fld Z h0 s1 "java/lang/String" "value" "[B" .null) (Fc : Fld Z h0 s1 "java/lang/String" "coder" "B" (.int (0 : Int32))) (A0 : AL Z h0 a ka .char (ch16 cs)) (SC : Sta Z Z.heap "java/lang/String" "COMPACT_STRINGS" "Z" (.int cP)) (hcs : ∀ x ∈ cs, 0 ≤ x.toInt ∧ x.toInt ≤ 255) (hl : cs.length < 2 ^ 31) (hN : cs.length ≤ 1) (hpos : ¬ cs.length.toInt32 = (0 : Int32)) (hP : ¬ cP = (0 : Int32)) (hns : Z.heap.size ≤ s1) :
    Met1 l Z (⟨"java/lang/String", "<init>", "([CIILjava/lang/Void;)V"⟩ : MethodName) jdk_42_method_149_code 6 none ({ frames := 2, cells := 1, slots := 1, locals := 35 } : Room) #[(.ref s1), (.ref a), (.int (0 : Int32)), (.int cs.length.toInt32), .null] h0 (Q_sI4 Z s1 a ka cs cP h0) := by
  refine Met1.of_body (Ls := #[.val (.ref s1), .val (.ref a), .val (.int (0 : Int32)), .val (.int cs.length.toInt32), .val .null, .unset]) pf_2 (fun m => by first | (simp [entryFrame, mkF, argsToLocals, Value.category]; done) | rfl) ?_
  intro p e s m below meth c T0 C X0 e0
  have N0 : Fr Z.heap.size [] := Fr.nil _
  refine Go.aloadN (pc' := 1) C X0 d2_0 rfl rfl rfl ?_
  refine Go.initO (pc' := 4) (W := 0) C X0 (tw hw 11 rfl) (tw hw 12 rfl) (tw hw 13 rfl) e0 rfl (by decide) (Nat.le_of_eq rfl) (by decide) d2_1 rfl ?_
  intro T101 X101 e101
  refine Go.iloadN (pc' := 5) C X101 d2_4 rfl rfl ?_
  refine Go.ifYes (pc' := 27) C X101 d2_5 ((if0 _ _).trans (feq (x := cs.length.toInt32) (y := (0 : Int32)) hpos).2) (by decide) (by decide) ?_
  refine Go.getS (pc' := 30) (host := "") C X101 (Or.inl (tw hw 14 rfl)) Via.refl e101 (SC.ext O0) d2_27 rfl ?_
  intro T103 X103 e103
  refine Go.ifNo (pc' := 33) C X103 d2_30 ((if0 _ _).trans (feq (x := cP) (y := (0 : Int32)) hP).1) rfl ?_
  refine Go.aloadN (pc' := 34) C X103 d2_33 rfl rfl rfl ?_
  refine Go.iloadN (pc' := 35) C X103 d2_34 rfl rfl ?_
  refine Go.iloadN (pc' := 36) C X103 d2_35 rfl rfl ?_
  refine Go.callS (y := (⟨"java/lang/StringUTF16", "compress", "([CII)[B"⟩ : MethodName)) (pc' := 39) C X103 (tw hw 15 rfl) (tw hw 16 rfl) (by decide) (rm_cmpO l Z a0 hw a ka cs h0 O0 A0 hcs hl hN) (tw hw 18 rfl) (tw hw 17 rfl) e103 (argsL := [(.ref a), (.int (0 : Int32)), (.int cs.length.toInt32)]) (rest := []) (W := 0) rfl rfl pd_1 rfl (Nat.le_of_eq rfl) rfl (by decide) (by decide) (by decide) (by decide) d2_36 rfl ?_
  intro T105 v105 L105 X105 q105
  obtain ⟨b_105, kb_105, rfl, N105q, K105, B105_0, P105_0⟩ := q105
  have N105 := Fr.app N0 N105q
  have n_b_105 : Z.heap.size ≤ b_105 := Nat.le_trans O0.1 B105_0
  have z_b_105 : h0.size ≤ b_105 := Nat.le_trans (Nat.le_refl _) B105_0
  refine Go.astore (Ls' := #[.val (.ref s1), .val (.ref a), .val (.int (0 : Int32)), .val (.int cs.length.toInt32), .val .null, .val (.ref b_105)]) (pc' := 41) C X105 d2_39 rfl rfl rfl ?_
  refine Go.aloadN (pc' := 42) C X105 d2_41 rfl rfl rfl ?_
  refine Go.aload (pc' := 44) C X105 d2_42 rfl rfl rfl ?_
  refine Go.iloadN (pc' := 45) C X105 d2_44 rfl rfl ?_
  have O107 : Ext Z.heap T105.heap := (Ext.keep O0 K105 all0)
  refine Go.callS (y := (⟨"java/lang/StringUTF16", "coderFromArrayLen", "([BI)B"⟩ : MethodName)) (pc' := 48) C X105 (tw hw 23 rfl) (tw hw 24 rfl) (by decide) (rm_cfl l Z a0 hw b_105 kb_105 cs T105.heap O107 P105_0) (tw hw 25 rfl) (tw hw 17 rfl) rfl (argsL := [(.ref b_105), (.int cs.length.toInt32)]) (rest := [(.ref s1)]) (W := 1) rfl rfl pd_2 rfl (Nat.le_of_eq rfl) rfl (by decide) (by decide) (by decide) (by decide) d2_45 rfl ?_
  intro T106 v106 L106 X106 q106
  obtain ⟨rfl, rfl, e106⟩ := q106
  have N106 := Fr.app N105 (Fr.nil _)
  have c109 : Fld Z T105.heap s1 "java/lang/String" "coder" "B" (.int (0 : Int32)) := (Fld.keep Fc K105 nin0)
  have c110 : Exa Z T105.heap s1 "java/lang/String" := (Exa.keep E0 K105)
  refine Go.putFN (pc' := 51) (ty := .byte) (v' := .int (0 : Int32)) C X106 (tw hw 26 rfl) Via.refl e106 c109 c110 (Or.inr ⟨(tw hw 27 rfl), rfl, rfl⟩) (tw hw 2 rfl) (by decide) rfl (by decide) d2_48 rfl ?_
  intro T108 h108 X108 e108 W108 F108
  have N108 := Fr.snoc X108 N106 hns
  refine Go.aloadN (pc' := 52) C X108 d2_51 rfl rfl rfl ?_
  refine Go.aload (pc' := 54) C X108 d2_52 rfl rfl rfl ?_
  have c112 : Fld Z h108 s1 "java/lang/String" "value" "[B" .null := (Fld.other W108 (Fld.keep Fv K105 nin0) (Or.inr (slot_ne (Or.inr (tw hw 29 rfl)) (Or.inr (tw hw 27 rfl)) (by decide) (t := (.array .byte)) (t' := .byte) (by decide) (by decide))))
  have c113 : Exa Z h108 s1 "java/lang/String" := (Exa.wr W108 c110)
  refine Go.putF (pc' := 57) (host := "") (ty := (.array .byte)) C X108 (Or.inl (tw hw 28 rfl)) Via.refl e108 c112 c113 (Or.inr ⟨(tw hw 29 rfl), rfl, rfl⟩) (tw hw 2 rfl) (by decide) rfl rfl d2_54 rfl ?_
  intro T111 h111 X111 e111 W111 F111
  have N111 := Fr.snoc X111 N108 hns
  have K114 : Keep h0 h111 [s1] := ((((Keep.refl h0 [s1]).trans K105 all0).wr W108 (Or.inl (by simp))).wr W111 (Or.inl (by simp)))
  have c115 : Fld Z h111 s1 "java/lang/String" "coder" "B" (.int (0 : Int32)) := (Fld.other W111 F108 (Or.inr (slot_ne (Or.inr (tw hw 27 rfl)) (Or.inr (tw hw 29 rfl)) (by decide) (t := .byte) (t' := (.array .byte)) (by decide) (by decide))))
  have ne116 : b_105 ≠ s1 := (Nat.ne_of_gt (Nat.lt_of_lt_of_le E0.lt (Nat.le_trans (Nat.le_refl _) B105_0)))
  have c117 : AL Z h111 b_105 kb_105 .byte (by8 cs) := (AL.other W111 (AL.other W108 P105_0 ne116) ne116)
  exact Go.retV C X111 rfl d2_57 (by rw [e111]; exact ⟨b_105, kb_105, rfl, N111, K114, z_b_105, F111, c115, c117⟩) (by decide) (by decide)
theorem pd_3 : parseMethodDescriptor "([CIILjava/lang/Void;)V" = some ⟨[(.array .char), .int, .int, (.object "java/lang/Void")], none⟩ := by decide +kernel
theorem pf_1 : plainFor (⟨"java/lang/String", "<init>", "([C)V"⟩ : MethodName) = true := plainFor_of_name (by first | (simp [plainName, overriddenIn]; done) | decide +kernel)
theorem d1_0 : decode jdk_42_method_3_code 0 = .ok (.aload_n 0, 1) := by decide +kernel
theorem d1_1 : decode jdk_42_method_3_code 1 = .ok (.aload_n 1, 1) := by decide +kernel
theorem d1_2 : decode jdk_42_method_3_code 2 = .ok (.iconst 0, 1) := by decide +kernel
theorem d1_3 : decode jdk_42_method_3_code 3 = .ok (.aload_n 1, 1) := by decide +kernel
theorem d1_4 : decode jdk_42_method_3_code 4 = .ok (.arraylength, 1) := by decide +kernel
theorem d1_5 : decode jdk_42_method_3_code 5 = .ok (.aconst_null, 1) := by decide +kernel
theorem d1_6 : decode jdk_42_method_3_code 6 = .ok (.invokespecial 27, 3) := by decide +kernel
theorem d1_9 : decode jdk_42_method_3_code 9 = .ok (.return_, 1) := by decide +kernel
def Q_sI1 (Z : State) (s1 : Addr) (a : Addr) (ka : ClassId) (cs : List Int32) (cP : Int32) (h0 : Heap) (rv : Option Value) (h : Heap) (L : List Loc) : Prop := ∃ v : Addr, ∃ kv : ClassId, rv = none ∧ Fr Z.heap.size L ∧ Keep h0 h [s1] ∧ h0.size ≤ v ∧ Fld Z h s1 "java/lang/String" "value" "[B" (.ref v) ∧ Fld Z h s1 "java/lang/String" "coder" "B" (.int (0 : Int32)) ∧ AL Z h v kv .byte (by8 cs)
set_option maxRecDepth 65536 in
set_option maxHeartbeats 40000000 in
theorem rm_sI1 (l : Launch) (Z : State) (a0 : Array Value) (hw : ∀ d ∈ tables_1, d.before a0 Z = true) (s1 : Addr) (a : Addr) (ka : ClassId) (cs : List Int32) (cP : Int32) (h0 : Heap) (O0 : Ext Z.heap h0) (E0 : Exa Z h0 s1 "java/lang/String") (Fv : Fld Z h0 s1 "java/lang/String" "value" "[B" .null) (Fc : Fld Z h0 s1 "java/lang/String" "coder" "B" (.int (0 : Int32))) (A0 : AL Z h0 a ka .char (ch16 cs)) (SC : Sta Z Z.heap "java/lang/String" "COMPACT_STRINGS" "Z" (.int cP)) (hcs : ∀ x ∈ cs, 0 ≤ x.toInt ∧ x.toInt ≤ 255) (hl : cs.length < 2 ^ 31) (hN : cs.length ≤ 1) (hpos : ¬ cs.length.toInt32 = (0 : Int32)) (hP : ¬ cP = (0 : Int32)) (hns : Z.heap.size ≤ s1) :
    Met1 l Z (⟨"java/lang/String", "<init>", "([C)V"⟩ : MethodName) jdk_42_method_3_code 2 none ({ frames := 3, cells := 1, slots := 1, locals := 52 } : Room) #[(.ref s1), (.ref a)] h0 (Q_sI1 Z s1 a ka cs cP h0) := by
  refine Met1.of_body (Ls := #[.val (.ref s1), .val (.ref a)]) pf_1 (fun m => by first | (simp [entryFrame, mkF, argsToLocals, Value.category]; done) | rfl) ?_
  intro p e s m below meth c T0 C X0 e0
  have N0 : Fr Z.heap.size [] := Fr.nil _
  refine Go.aloadN (pc' := 1) C X0 d1_0 rfl rfl rfl ?_
  refine Go.aloadN (pc' := 2) C X0 d1_1 rfl rfl rfl ?_
  refine Go.iconst (z := (0 : Int32)) (pc' := 3) C X0 d1_2 rfl rfl ?_
  refine Go.aloadN (pc' := 4) C X0 d1_3 rfl rfl rfl ?_
  refine Go.alen (z := cs.length.toInt32) (pc' := 5) C X0 e0 A0 (by rw [ch16_len]) d1_4 rfl ?_
  refine Go.aconstNull (pc' := 6) C X0 d1_5 rfl ?_
  refine Go.callI (y := (⟨"java/lang/String", "<init>", "([CIILjava/lang/Void;)V"⟩ : MethodName)) (a := s1) (pc' := 9) C X0 rfl (tw hw 7 rfl) (tw hw 8 rfl) (by decide) (rm_sI4 l Z a0 hw s1 a ka cs cP h0 O0 E0 Fv Fc A0 SC hcs hl hN hpos hP hns) (tw hw 10 rfl) (tw hw 3 rfl) e0 (argsL := [(.ref a), (.int (0 : Int32)), (.int cs.length.toInt32), .null]) (rest := []) (W := 0) rfl rfl pd_3 rfl (Nat.le_of_eq rfl) rfl (by decide) (by decide) (by decide) (by decide) rfl d1_6 rfl ?_
  intro T101 v101 L101 X101 q101
  obtain ⟨v_101, kv_101, rfl, N101q, K101, B101_0, P101_0, P101_1, P101_2⟩ := q101
  have N101 := Fr.app N0 N101q
  have n_v_101 : Z.heap.size ≤ v_101 := Nat.le_trans O0.1 B101_0
  have z_v_101 : h0.size ≤ v_101 := Nat.le_trans (Nat.le_refl _) B101_0
  have K102 : Keep h0 T101.heap [s1] := ((Keep.refl h0 [s1]).trans K101 (allS (Or.inl (by simp)) all0))
  exact Go.retV C X101 rfl d1_9 ⟨v_101, kv_101, rfl, N101, K102, z_v_101, P101_0, P101_1, P101_2⟩ (by decide) (by decide)
theorem own_255 (y : Int32) : 0 ≤ (y &&& (255 : Int32)).toInt ∧ (y &&& (255 : Int32)).toInt ≤ 255 := by
  have h := c_and y (255 : Int32) (by decide)
  simpa using h
theorem own_lt255 {y : Int32} (h : 0 ≤ y.toInt ∧ y.toInt ≤ 255) : ¬ (255 : Int32) < y := by
  rw [Int32.lt_iff_toInt_lt]; simp only [Int32.reduceToInt]; omega
theorem own_c255 (y : Int32) : 0 ≤ ((y &&& (255 : Int32)).toUInt32.toUInt16.toUInt32.toInt32).toInt ∧ ((y &&& (255 : Int32)).toUInt32.toUInt16.toUInt32.toInt32).toInt ≤ 255 := by
  rw [i2c_mask]; exact own_255 y
theorem own_nar255 (y : Int32) : nar .char ((y &&& (255 : Int32)).toUInt32.toUInt16.toUInt32.toInt32) = (y &&& (255 : Int32)) := by
  show ((y &&& (255 : Int32)).toUInt32.toUInt16.toUInt32.toInt32).toUInt32.toUInt16.toUInt32.toInt32 = _
  rw [i2c_mask, i2c_mask]
theorem own_c4 (x : Int32) : (x &&& (3 : Int32)) = (0 : Int32) ∨ (x &&& (3 : Int32)) = (1 : Int32) ∨ (x &&& (3 : Int32)) = (2 : Int32) ∨ (x &&& (3 : Int32)) = (3 : Int32) := by
  have h := c_mask x (3 : Int32) 2 (by decide) (by decide)
  simp only [← Int32.toInt_inj, Int32.reduceToInt]; omega
theorem own_ge1 {x : Int32} (h : (1 : Int32) < x) : ¬ x < (1 : Int32) := by
  rw [Int32.lt_iff_toInt_lt] at *; omega
theorem pf_8 : plainFor (⟨"java/lang/StringLatin1", "canEncode", "(C)Z"⟩ : MethodName) = true := plainFor_of_name (by first | (simp [plainName, overriddenIn]; done) | decide +kernel)
theorem d8_0 : decode jdk_43_method_3_code 0 = .ok (.iload_n 0, 1) := by decide +kernel
theorem d8_1 : decode jdk_43_method_3_code 1 = .ok (.sipush 255, 3) := by decide +kernel
theorem d8_4 : decode jdk_43_method_3_code 4 = .ok (.if_icmp .gt 7, 3) := by decide +kernel
theorem d8_7 : decode jdk_43_method_3_code 7 = .ok (.iconst 1, 1) := by decide +kernel
theorem d8_8 : decode jdk_43_method_3_code 8 = .ok (.goto 4, 3) := by decide +kernel
theorem d8_12 : decode jdk_43_method_3_code 12 = .ok (.ireturn, 1) := by decide +kernel
def Q_ce (Z : State) (x : Int32) (h0 : Heap) (rv : Option Value) (h : Heap) (L : List Loc) : Prop := rv = some (.int (1 : Int32)) ∧ L = [] ∧ h = h0
set_option maxRecDepth 65536 in
set_option maxHeartbeats 40000000 in
theorem rm_ce (l : Launch) (Z : State) (a0 : Array Value) (hw : ∀ d ∈ tables_1, d.before a0 Z = true) (x : Int32) (h0 : Heap) (O0 : Ext Z.heap h0) (hx : 0 ≤ x.toInt ∧ x.toInt ≤ 255) :
    Met1 l Z (⟨"java/lang/StringLatin1", "canEncode", "(C)Z"⟩ : MethodName) jdk_43_method_3_code 1 (some .boolean) ({ frames := 0, cells := 0, slots := 0, locals := 0 } : Room) #[(.int x)] h0 (Q_ce Z x h0) := by
  refine Met1.of_body (Ls := #[.val (.int x)]) pf_8 (fun m => by first | (simp [entryFrame, mkF, argsToLocals, Value.category]; done) | rfl) ?_
  intro p e s m below meth c T0 C X0 e0
  have N0 : Fr Z.heap.size [] := Fr.nil _
  refine Go.iloadN (pc' := 1) C X0 d8_0 rfl rfl ?_
  refine Go.sipush (z := (255 : Int32)) (pc' := 4) C X0 d8_1 rfl rfl ?_
  refine Go.icmpNo (pc' := 7) C X0 d8_4 (flt (x := (255 : Int32)) (y := x) (own_lt255 hx)).2.2.1 rfl ?_
  refine Go.iconst (z := (1 : Int32)) (pc' := 8) C X0 d8_7 rfl rfl ?_
  refine Go.goto (pc' := 12) C X0 d8_8 (by decide) (by decide) ?_
  exact Go.retN C X0 rfl d8_12 (by simp) (by rw [e0]; exact ⟨rfl, rfl, rfl⟩) (by decide) (by decide)
theorem pf_9 : plainFor (⟨"java/lang/StringLatin1", "toBytes", "(C)[B"⟩ : MethodName) = true := plainFor_of_name (by first | (simp [plainName, overriddenIn]; done) | decide +kernel)
theorem d9_0 : decode jdk_43_method_46_code 0 = .ok (.iconst 1, 1) := by decide +kernel
theorem d9_1 : decode jdk_43_method_46_code 1 = .ok (.newarray .byte, 2) := by decide +kernel
theorem d9_3 : decode jdk_43_method_46_code 3 = .ok (.dup, 1) := by decide +kernel
theorem d9_4 : decode jdk_43_method_46_code 4 = .ok (.iconst 0, 1) := by decide +kernel
theorem d9_5 : decode jdk_43_method_46_code 5 = .ok (.iload_n 0, 1) := by decide +kernel
theorem d9_6 : decode jdk_43_method_46_code 6 = .ok (.i2b, 1) := by decide +kernel
theorem d9_7 : decode jdk_43_method_46_code 7 = .ok (.bastore, 1) := by decide +kernel
theorem d9_8 : decode jdk_43_method_46_code 8 = .ok (.areturn, 1) := by decide +kernel
def Q_tb (Z : State) (x : Int32) (h0 : Heap) (rv : Option Value) (h : Heap) (L : List Loc) : Prop := ∃ b : Addr, ∃ kb : ClassId, rv = some (.ref b) ∧ Fr Z.heap.size L ∧ Keep h0 h [] ∧ h0.size ≤ b ∧ AL Z h b kb .byte [(.int (nar .byte x.toInt8.toInt32))]
set_option maxRecDepth 65536 in
set_option maxHeartbeats 40000000 in
theorem rm_tb (l : Launch) (Z : State) (a0 : Array Value) (hw : ∀ d ∈ tables_1, d.before a0 Z = true) (x : Int32) (h0 : Heap) (O0 : Ext Z.heap h0) :
    Met1 l Z (⟨"java/lang/StringLatin1", "toBytes", "(C)[B"⟩ : MethodName) jdk_43_method_46_code 1 (some (.array .byte)) ({ frames := 0, cells := 1, slots := 1, locals := 0 } : Room) #[(.int x)] h0 (Q_tb Z x h0) := by
  refine Met1.of_body (Ls := #[.val (.int x)]) pf_9 (fun m => by first | (simp [entryFrame, mkF, argsToLocals, Value.category]; done) | rfl) ?_
  intro p e s m below meth c T0 C X0 e0
  have N0 : Fr Z.heap.size [] := Fr.nil _
  refine Go.iconst (z := (1 : Int32)) (pc' := 1) C X0 d9_0 rfl rfl ?_
  refine Go.newP (aty := .byte) (cap := 1) (vs := [(.int (0 : Int32))]) (ad := "[B") (pc' := 3) C X0 (by decide) (tw hw 19 rfl) e0 (by decide) (by decide) (by decide) (by decide) (by decide) rfl d9_1 rfl ?_
  intro T101 h101 b101 k101 X101 e101 g101 E101 A101 Ea101
  have n_b101 : Z.heap.size ≤ b101 := Nat.le_trans O0.1 (Nat.le_of_eq g101.symm)
  have z_b101 : h0.size ≤ b101 := Nat.le_trans (Nat.le_refl _) (Nat.le_of_eq g101.symm)
  have A101 : AL Z h101 b101 k101 .byte [(.int (0 : Int32))] := A101
  refine Go.dup (pc' := 4) C X101 d9_3 rfl rfl ?_
  refine Go.iconst (z := (0 : Int32)) (pc' := 5) C X101 d9_4 rfl rfl ?_
  refine Go.iloadN (pc' := 6) C X101 d9_5 rfl rfl ?_
  refine Go.i2b (pc' := 7) C X101 d9_6 rfl ?_
  refine Go.stB (i := 0) (x' := (nar .byte (x.toInt8.toInt32))) (vs' := [(.int (nar .byte (x.toInt8.toInt32)))]) (pc' := 8) C X101 e101 A101 (by decide) (by decide) (by simp) rfl rfl d9_7 rfl ?_
  intro T102 h102 X102 e102 W102 A102
  have N102 := Fr.snoc X102 N0 n_b101
  have K103 : Keep h0 h102 [] := (((Keep.refl h0 []).ext E101).wr W102 (Or.inr z_b101))
  exact Go.retA C X102 rfl d9_8 rfl rfl rfl (by rw [e102]; exact ⟨b101, k101, rfl, N102, K103, z_b101, A102⟩) (by decide) (by decide)
theorem pf_10 : plainFor (⟨"java/lang/String", "<init>", "([BB)V"⟩ : MethodName) = true := plainFor_of_name (by first | (simp [plainName, overriddenIn]; done) | decide +kernel)
theorem d10_0 : decode jdk_42_method_151_code 0 = .ok (.aload_n 0, 1) := by decide +kernel
theorem d10_1 : decode jdk_42_method_151_code 1 = .ok (.invokespecial 1, 3) := by decide +kernel
theorem d10_4 : decode jdk_42_method_151_code 4 = .ok (.aload_n 0, 1) := by decide +kernel
theorem d10_5 : decode jdk_42_method_151_code 5 = .ok (.aload_n 1, 1) := by decide +kernel
theorem d10_6 : decode jdk_42_method_151_code 6 = .ok (.putfield 9, 3) := by decide +kernel
theorem d10_9 : decode jdk_42_method_151_code 9 = .ok (.aload_n 0, 1) := by decide +kernel
theorem d10_10 : decode jdk_42_method_151_code 10 = .ok (.iload_n 2, 1) := by decide +kernel
theorem d10_11 : decode jdk_42_method_151_code 11 = .ok (.putfield 15, 3) := by decide +kernel
theorem d10_14 : decode jdk_42_method_151_code 14 = .ok (.return_, 1) := by decide +kernel
def Q_sI (Z : State) (r : Addr) (b : Addr) (h0 : Heap) (rv : Option Value) (h : Heap) (L : List Loc) : Prop := rv = none ∧ Fr Z.heap.size L ∧ Keep h0 h [r]
set_option maxRecDepth 65536 in
set_option maxHeartbeats 40000000 in
theorem rm_sI (l : Launch) (Z : State) (a0 : Array Value) (hw : ∀ d ∈ tables_1, d.before a0 Z = true) (r : Addr) (b : Addr) (h0 : Heap) (O0 : Ext Z.heap h0) (E0 : Exa Z h0 r "java/lang/String") (F1 : Fld Z h0 r "java/lang/String" "value" "[B" .null) (F2 : Fld Z h0 r "java/lang/String" "coder" "B" (.int (0 : Int32))) (hn : Z.heap.size ≤ r) :
    Met1 l Z (⟨"java/lang/String", "<init>", "([BB)V"⟩ : MethodName) jdk_42_method_151_code 3 none ({ frames := 1, cells := 0, slots := 0, locals := 12 } : Room) #[(.ref r), (.ref b), (.int (0 : Int32))] h0 (Q_sI Z r b h0) := by
  refine Met1.of_body (Ls := #[.val (.ref r), .val (.ref b), .val (.int (0 : Int32))]) pf_10 (fun m => by first | (simp [entryFrame, mkF, argsToLocals, Value.category]; done) | rfl) ?_
  intro p e s m below meth c T0 C X0 e0
  have N0 : Fr Z.heap.size [] := Fr.nil _
  refine Go.aloadN (pc' := 1) C X0 d10_0 rfl rfl rfl ?_
  refine Go.initO (pc' := 4) (W := 0) C X0 (tw hw 11 rfl) (tw hw 12 rfl) (tw hw 13 rfl) e0 rfl (by decide) (Nat.le_of_eq rfl) (by decide) d10_1 rfl ?_
  intro T101 X101 e101
  refine Go.aloadN (pc' := 5) C X101 d10_4 rfl rfl rfl ?_
  refine Go.aloadN (pc' := 6) C X101 d10_5 rfl rfl rfl ?_
  refine Go.putF (pc' := 9) (host := "") (ty := (.array .byte)) C X101 (Or.inl (tw hw 28 rfl)) Via.refl e101 F1 E0 (Or.inr ⟨(tw hw 29 rfl), rfl, rfl⟩) (tw hw 2 rfl) (by decide) rfl rfl d10_6 rfl ?_
  intro T102 h102 X102 e102 W102 F102
  have N102 := Fr.snoc X102 N0 hn
  refine Go.aloadN (pc' := 10) C X102 d10_9 rfl rfl rfl ?_
  refine Go.iloadN (pc' := 11) C X102 d10_10 rfl rfl ?_
  have c104 : Fld Z h102 r "java/lang/String" "coder" "B" (.int (0 : Int32)) := (Fld.other W102 F2 (Or.inr (slot_ne (Or.inr (tw hw 27 rfl)) (Or.inr (tw hw 29 rfl)) (by decide) (t := .byte) (t' := (.array .byte)) (by decide) (by decide))))
  have c105 : Exa Z h102 r "java/lang/String" := (Exa.wr W102 E0)
  refine Go.putFN (pc' := 14) (ty := .byte) (v' := .int (0 : Int32)) C X102 (tw hw 26 rfl) Via.refl e102 c104 c105 (Or.inr ⟨(tw hw 27 rfl), rfl, rfl⟩) (tw hw 2 rfl) (by decide) rfl (by decide) d10_11 rfl ?_
  intro T103 h103 X103 e103 W103 F103
  have N103 := Fr.snoc X103 N102 hn
  have K106 : Keep h0 h103 [r] := (((Keep.refl h0 [r]).wr W102 (Or.inl (by simp))).wr W103 (Or.inl (by simp)))
  exact Go.retV C X103 rfl d10_14 (by rw [e103]; exact ⟨rfl, N103, K106⟩) (by decide) (by decide)
theorem pd_4 : parseMethodDescriptor "(C)Z" = some ⟨[.char], some .boolean⟩ := by decide +kernel
theorem pd_5 : parseMethodDescriptor "(C)[B" = some ⟨[.char], some (.array .byte)⟩ := by decide +kernel
theorem pd_6 : parseMethodDescriptor "([BB)V" = some ⟨[(.array .byte), .byte], none⟩ := by decide +kernel
theorem pf_7 : plainFor (⟨"java/lang/String", "valueOf", "(C)Ljava/lang/String;"⟩ : MethodName) = true := plainFor_of_name (by first | (simp [plainName, overriddenIn]; done) | decide +kernel)
theorem d7_0 : decode jdk_42_method_139_code 0 = .ok (.getstatic 38, 3) := by decide +kernel
theorem d7_3 : decode jdk_42_method_139_code 3 = .ok (.ifCond .eq 23, 3) := by decide +kernel
theorem d7_6 : decode jdk_42_method_139_code 6 = .ok (.iload_n 0, 1) := by decide +kernel
theorem d7_7 : decode jdk_42_method_139_code 7 = .ok (.invokestatic 1015, 3) := by decide +kernel
theorem d7_10 : decode jdk_42_method_139_code 10 = .ok (.ifCond .eq 16, 3) := by decide +kernel
theorem d7_13 : decode jdk_42_method_139_code 13 = .ok (.new 10, 3) := by decide +kernel
theorem d7_16 : decode jdk_42_method_139_code 16 = .ok (.dup, 1) := by decide +kernel
theorem d7_17 : decode jdk_42_method_139_code 17 = .ok (.iload_n 0, 1) := by decide +kernel
theorem d7_18 : decode jdk_42_method_139_code 18 = .ok (.invokestatic 1018, 3) := by decide +kernel
theorem d7_21 : decode jdk_42_method_139_code 21 = .ok (.iconst 0, 1) := by decide +kernel
theorem d7_22 : decode jdk_42_method_139_code 22 = .ok (.invokespecial 209, 3) := by decide +kernel
theorem d7_25 : decode jdk_42_method_139_code 25 = .ok (.areturn, 1) := by decide +kernel
def Q_vc (Z : State) (x : Int32) (cP : Int32) (h0 : Heap) (rv : Option Value) (h : Heap) (L : List Loc) : Prop := ∃ r : Addr, rv = some (.ref r) ∧ Fr Z.heap.size L ∧ Keep h0 h [] ∧ h0.size ≤ r ∧ Exa Z h r "java/lang/String"
set_option maxRecDepth 65536 in
set_option maxHeartbeats 40000000 in
theorem rm_vc (l : Launch) (Z : State) (a0 : Array Value) (hw : ∀ d ∈ tables_1, d.before a0 Z = true) (x : Int32) (cP : Int32) (h0 : Heap) (O0 : Ext Z.heap h0) (SC : Sta Z Z.heap "java/lang/String" "COMPACT_STRINGS" "Z" (.int cP)) (hx : 0 ≤ x.toInt ∧ x.toInt ≤ 255) (hP : ¬ cP = (0 : Int32)) :
    Met1 l Z (⟨"java/lang/String", "valueOf", "(C)Ljava/lang/String;"⟩ : MethodName) jdk_42_method_139_code 1 (some (.object "java/lang/String")) ({ frames := 2, cells := 2, slots := 5, locals := 27 } : Room) #[(.int x)] h0 (Q_vc Z x cP h0) := by
  refine Met1.of_body (Ls := #[.val (.int x)]) pf_7 (fun m => by first | (simp [entryFrame, mkF, argsToLocals, Value.category]; done) | rfl) ?_
  intro p e s m below meth c T0 C X0 e0
  have N0 : Fr Z.heap.size [] := Fr.nil _
  refine Go.getS (pc' := 3) (host := "") C X0 (Or.inl (tw hw 14 rfl)) Via.refl e0 (SC.ext O0) d7_0 rfl ?_
  intro T101 X101 e101
  refine Go.ifNo (pc' := 6) C X101 d7_3 ((if0 _ _).trans (feq (x := cP) (y := (0 : Int32)) hP).1) rfl ?_
  refine Go.iloadN (pc' := 7) C X101 d7_6 rfl rfl ?_
  refine Go.callS (y := (⟨"java/lang/StringLatin1", "canEncode", "(C)Z"⟩ : MethodName)) (pc' := 10) C X101 (tw hw 33 rfl) (tw hw 34 rfl) (by decide) (rm_ce l Z a0 hw x h0 O0 hx) (tw hw 36 rfl) (tw hw 35 rfl) e101 (argsL := [(.int x)]) (rest := []) (W := 0) rfl rfl pd_4 rfl (Nat.le_of_eq rfl) rfl (by decide) (by decide) (by decide) (by decide) d7_7 rfl ?_
  intro T103 v103 L103 X103 q103
  obtain ⟨rfl, rfl, e103⟩ := q103
  have N103 := Fr.app N0 (Fr.nil _)
  refine Go.ifNo (pc' := 13) C X103 d7_10 ((if0 _ _).trans (feq (x := (1 : Int32)) (y := (0 : Int32)) (by decide)).1) rfl ?_
  refine Go.newO (pc' := 16) C X103 (tw hw 37 rfl) (tw hw 2 rfl) (tw hw 3 rfl) e103 (by decide) (by decide) d7_13 rfl ?_
  intro T105 h105 b105 X105 e105 g105 E105 A105 D105
  have n_b105 : Z.heap.size ≤ b105 := Nat.le_trans O0.1 (Nat.le_of_eq g105.symm)
  have z_b105 : h0.size ≤ b105 := Nat.le_trans (Nat.le_refl _) (Nat.le_of_eq g105.symm)
  have F105_coder : Fld Z h105 b105 "java/lang/String" "coder" "B" (.int (0 : Int32)) := D105 (Or.inr (tw hw 27 rfl)) (ty := .byte) (by decide)
  have F105_value : Fld Z h105 b105 "java/lang/String" "value" "[B" .null := D105 (Or.inr (tw hw 29 rfl)) (ty := (.array .byte)) (by decide)
  refine Go.dup (pc' := 17) C X105 d7_16 rfl rfl ?_
  refine Go.iloadN (pc' := 18) C X105 d7_17 rfl rfl ?_
  have O107 : Ext Z.heap h105 := (Ext.trans O0 E105)
  refine Go.callS (y := (⟨"java/lang/StringLatin1", "toBytes", "(C)[B"⟩ : MethodName)) (pc' := 21) C X105 (tw hw 38 rfl) (tw hw 39 rfl) (by decide) (rm_tb l Z a0 hw x h105 O107 ) (tw hw 40 rfl) (tw hw 35 rfl) e105 (argsL := [(.int x)]) (rest := [(.ref b105), (.ref b105)]) (W := 2) rfl rfl pd_5 rfl (Nat.le_of_eq rfl) rfl (by decide) (by decide) (by decide) (by decide) d7_18 rfl ?_
  intro T106 v106 L106 X106 q106
  obtain ⟨b_106, kb_106, rfl, N106q, K106, B106_0, P106_0⟩ := q106
  have N106 := Fr.app N103 N106q
  have n_b_106 : Z.heap.size ≤ b_106 := Nat.le_trans O107.1 B106_0
  have z_b_106 : h0.size ≤ b_106 := Nat.le_trans (Nat.le_trans (Nat.le_refl _) E105.1) B106_0
  refine Go.iconst (z := (0 : Int32)) (pc' := 22) C X106 d7_21 rfl rfl ?_
  have c109 : Exa Z T106.heap b105 "java/lang/String" := (Exa.keep A105 K106)
  have c110 : Fld Z T106.heap b105 "java/lang/String" "value" "[B" .null := (Fld.keep F105_value K106 nin0)
  have c111 : Fld Z T106.heap b105 "java/lang/String" "coder" "B" (.int (0 : Int32)) := (Fld.keep F105_coder K106 nin0)
  have O112 : Ext Z.heap T106.heap := (Ext.keep O107 K106 all0)
  refine Go.callI (y := (⟨"java/lang/String", "<init>", "([BB)V"⟩ : MethodName)) (a := b105) (pc' := 25) C X106 rfl (tw hw 41 rfl) (tw hw 42 rfl) (by decide) (rm_sI l Z a0 hw b105 b_106 T106.heap O112 c109 c110 c111 n_b105) (tw hw 43 rfl) (tw hw 3 rfl) rfl (argsL := [(.ref b_106), (.int (0 : Int32))]) (rest := [(.ref b105)]) (W := 1) rfl rfl pd_6 rfl (Nat.le_of_eq rfl) rfl (by decide) (by decide) (by decide) (by decide) rfl d7_22 rfl ?_
  intro T108 v108 L108 X108 q108
  obtain ⟨rfl, N108q, K108⟩ := q108
  have N108 := Fr.app N106 N108q
  have K113 : Keep h0 T108.heap [] := ((((Keep.refl h0 []).ext E105).trans K106 all0).trans K108 (allS (Or.inr z_b105) all0))
  have c114 : Exa Z T108.heap b105 "java/lang/String" := (Exa.keep c109 K108)
  exact Go.retA C X108 rfl d7_25 rfl rfl rfl ⟨b105, rfl, N108, K113, z_b105, c114⟩ (by decide) (by decide)
theorem pf_14 : plainFor (⟨"java/lang/Record", "<init>", "()V"⟩ : MethodName) = true := plainFor_of_name (by first | (simp [plainName, overriddenIn]; done) | decide +kernel)
theorem d14_0 : decode jdk_30_method_1_code 0 = .ok (.aload_n 0, 1) := by decide +kernel
theorem d14_1 : decode jdk_30_method_1_code 1 = .ok (.invokespecial 1, 3) := by decide +kernel
theorem d14_4 : decode jdk_30_method_1_code 4 = .ok (.return_, 1) := by decide +kernel
def Q_rec (Z : State) (r : Addr) (h0 : Heap) (rv : Option Value) (h : Heap) (L : List Loc) : Prop := rv = none ∧ L = [] ∧ h = h0
set_option maxRecDepth 65536 in
set_option maxHeartbeats 40000000 in
theorem rm_rec (l : Launch) (Z : State) (a0 : Array Value) (hw : ∀ d ∈ tables_1, d.before a0 Z = true) (r : Addr) (h0 : Heap) (O0 : Ext Z.heap h0) :
    Met1 l Z (⟨"java/lang/Record", "<init>", "()V"⟩ : MethodName) jdk_30_method_1_code 1 none ({ frames := 1, cells := 0, slots := 0, locals := 12 } : Room) #[(.ref r)] h0 (Q_rec Z r h0) := by
  refine Met1.of_body (Ls := #[.val (.ref r)]) pf_14 (fun m => by first | (simp [entryFrame, mkF, argsToLocals, Value.category]; done) | rfl) ?_
  intro p e s m below meth c T0 C X0 e0
  have N0 : Fr Z.heap.size [] := Fr.nil _
  refine Go.aloadN (pc' := 1) C X0 d14_0 rfl rfl rfl ?_
  refine Go.initO (pc' := 4) (W := 0) C X0 (tw hw 65 rfl) (tw hw 12 rfl) (tw hw 13 rfl) e0 rfl (by decide) (Nat.le_of_eq rfl) (by decide) d14_1 rfl ?_
  intro T101 X101 e101
  exact Go.retV C X101 rfl d14_4 (by rw [e101]; exact ⟨rfl, rfl, rfl⟩) (by decide) (by decide)
theorem pf_15 : plainFor (⟨"java/util/Objects", "requireNonNull", "(Ljava/lang/Object;Ljava/lang/String;)Ljava/lang/Object;"⟩ : MethodName) = true := plainFor_of_name (by first | (simp [plainName, overriddenIn]; done) | decide +kernel)
theorem d15_0 : decode jdk_31_method_11_code 0 = .ok (.aload_n 0, 1) := by decide +kernel
theorem d15_1 : decode jdk_31_method_11_code 1 = .ok (.ifnonnull 12, 3) := by decide +kernel
theorem d15_13 : decode jdk_31_method_11_code 13 = .ok (.aload_n 0, 1) := by decide +kernel
theorem d15_14 : decode jdk_31_method_11_code 14 = .ok (.areturn, 1) := by decide +kernel
def Q_rn (Z : State) (d : Addr) (t : Addr) (h0 : Heap) (rv : Option Value) (h : Heap) (L : List Loc) : Prop := rv = some (.ref d) ∧ L = [] ∧ h = h0
set_option maxRecDepth 65536 in
set_option maxHeartbeats 40000000 in
theorem rm_rn (l : Launch) (Z : State) (a0 : Array Value) (hw : ∀ d ∈ tables_1, d.before a0 Z = true) (d : Addr) (t : Addr) (h0 : Heap) (O0 : Ext Z.heap h0) :
    Met1 l Z (⟨"java/util/Objects", "requireNonNull", "(Ljava/lang/Object;Ljava/lang/String;)Ljava/lang/Object;"⟩ : MethodName) jdk_31_method_11_code 2 (some (.object "java/lang/Object")) ({ frames := 0, cells := 0, slots := 0, locals := 0 } : Room) #[(.ref d), (.ref t)] h0 (Q_rn Z d t h0) := by
  refine Met1.of_body (Ls := #[.val (.ref d), .val (.ref t)]) pf_15 (fun m => by first | (simp [entryFrame, mkF, argsToLocals, Value.category]; done) | rfl) ?_
  intro p e s m below meth c T0 C X0 e0
  have N0 : Fr Z.heap.size [] := Fr.nil _
  refine Go.aloadN (pc' := 1) C X0 d15_0 rfl rfl rfl ?_
  refine Go.ifnonnullYes (pc' := 13) C X0 d15_1 (by decide) (by decide) ?_
  refine Go.aloadN (pc' := 14) C X0 d15_13 rfl rfl rfl ?_
  exact Go.retA C X0 rfl d15_14 rfl rfl rfl (by rw [e0]; exact ⟨rfl, rfl, rfl⟩) (by decide) (by decide)
theorem pf_19 : plainFor (⟨"java/lang/Math", "max", "(II)I"⟩ : MethodName) = true := Jvm.Free.JP.mathPlain rfl (by decide +kernel)
theorem d19_0 : decode jdk_29_method_65_code 0 = .ok (.iload_n 0, 1) := by decide +kernel
theorem d19_1 : decode jdk_29_method_65_code 1 = .ok (.iload_n 1, 1) := by decide +kernel
theorem d19_2 : decode jdk_29_method_65_code 2 = .ok (.if_icmp .lt 7, 3) := by decide +kernel
theorem d19_5 : decode jdk_29_method_65_code 5 = .ok (.iload_n 0, 1) := by decide +kernel
theorem d19_6 : decode jdk_29_method_65_code 6 = .ok (.goto 4, 3) := by decide +kernel
theorem d19_9 : decode jdk_29_method_65_code 9 = .ok (.iload_n 1, 1) := by decide +kernel
theorem d19_10 : decode jdk_29_method_65_code 10 = .ok (.ireturn, 1) := by decide +kernel
def Q_mx (Z : State) (x : Int32) (h0 : Heap) (rv : Option Value) (h : Heap) (L : List Loc) : Prop := ∃ r : Int32, rv = some (.int r) ∧ L = [] ∧ h = h0 ∧ (¬ r < (1 : Int32))
set_option maxRecDepth 65536 in
set_option maxHeartbeats 40000000 in
theorem rm_mx (l : Launch) (Z : State) (a0 : Array Value) (hw : ∀ d ∈ tables_1, d.before a0 Z = true) (x : Int32) (h0 : Heap) (O0 : Ext Z.heap h0) :
    Met1 l Z (⟨"java/lang/Math", "max", "(II)I"⟩ : MethodName) jdk_29_method_65_code 2 (some .int) ({ frames := 0, cells := 0, slots := 0, locals := 0 } : Room) #[(.int (1 : Int32)), (.int x)] h0 (Q_mx Z x h0) := by
  refine Met1.of_body (Ls := #[.val (.int (1 : Int32)), .val (.int x)]) pf_19 (fun m => by first | (simp [entryFrame, mkF, argsToLocals, Value.category]; done) | rfl) ?_
  intro p e s m below meth c T0 C X0 e0
  have N0 : Fr Z.heap.size [] := Fr.nil _
  refine Go.iloadN (pc' := 1) C X0 d19_0 rfl rfl ?_
  refine Go.iloadN (pc' := 2) C X0 d19_1 rfl rfl ?_
  by_cases hc2_101 : (1 : Int32) < x
  · refine Go.icmpYes (pc' := 9) C X0 d19_2 (tlt (x := (1 : Int32)) (y := x) hc2_101).1 (by decide) (by decide) ?_
    refine Go.iloadN (pc' := 10) C X0 d19_9 rfl rfl ?_
    exact Go.retI C X0 rfl d19_10 (by rw [e0]; exact ⟨x, rfl, rfl, rfl, (own_ge1 hc2_101)⟩) (by decide) (by decide)
  · refine Go.icmpNo (pc' := 5) C X0 d19_2 (flt (x := (1 : Int32)) (y := x) hc2_101).1 rfl ?_
    refine Go.iloadN (pc' := 6) C X0 d19_5 rfl rfl ?_
    refine Go.goto (pc' := 10) C X0 d19_6 (by decide) (by decide) ?_
    exact Go.retI C X0 rfl d19_10 (by rw [e0]; exact ⟨(1 : Int32), rfl, rfl, rfl, (by decide)⟩) (by decide) (by decide)
theorem pd_7 : parseMethodDescriptor "()V" = some ⟨[], none⟩ := by decide +kernel
theorem wS {a0 : Array Value} {Z : State} (hw : ∀ d ∈ tables_1, d.before a0 Z = true) : ∀ a ∈ Bundle.stringAtoms, a.before a0 Z = true := by
  intro a ha
  simp only [Bundle.stringAtoms, List.mem_cons, List.not_mem_nil, or_false] at ha
  rcases ha with rfl | rfl | rfl | rfl | rfl | rfl | rfl
  · exact (tw hw 3 rfl)
  · exact (tw hw 2 rfl)
  · exact (tw hw 19 rfl)
  · exact (tw hw 29 rfl)
  · exact (tw hw 27 rfl)
  · exact (tw hw 67 rfl)
  · exact (tw hw 68 rfl)
theorem pd_8 : parseMethodDescriptor "(Ljava/lang/Object;Ljava/lang/String;)Ljava/lang/Object;" = some ⟨[(.object "java/lang/Object"), (.object "java/lang/String")], some (.object "java/lang/Object")⟩ := by decide +kernel
theorem pf_13 : plainFor (⟨"com/example/opacheck/opacheck/Operation", "<init>", "(Lcom/example/opacheck/opacheck/Operation$Kind;Ljava/lang/String;J)V"⟩ : MethodName) = true := plainFor_of_name (by first | (simp [plainName, overriddenIn]; done) | decide +kernel)
theorem d13_0 : decode prog_42_method_1_code 0 = .ok (.aload_n 0, 1) := by decide +kernel
theorem d13_1 : decode prog_42_method_1_code 1 = .ok (.invokespecial 1, 3) := by decide +kernel
theorem d13_4 : decode prog_42_method_1_code 4 = .ok (.aload_n 1, 1) := by decide +kernel
theorem d13_5 : decode prog_42_method_1_code 5 = .ok (.ldc 7, 2) := by decide +kernel
theorem d13_7 : decode prog_42_method_1_code 7 = .ok (.invokestatic 9, 3) := by decide +kernel
theorem d13_10 : decode prog_42_method_1_code 10 = .ok (.pop, 1) := by decide +kernel
theorem d13_11 : decode prog_42_method_1_code 11 = .ok (.aload_n 1, 1) := by decide +kernel
theorem d13_12 : decode prog_42_method_1_code 12 = .ok (.getstatic 15, 3) := by decide +kernel
theorem d13_15 : decode prog_42_method_1_code 15 = .ok (.if_acmp .ne 7, 3) := by decide +kernel
theorem d13_22 : decode prog_42_method_1_code 22 = .ok (.iconst 0, 1) := by decide +kernel
theorem d13_23 : decode prog_42_method_1_code 23 = .ok (.aload_n 2, 1) := by decide +kernel
theorem d13_24 : decode prog_42_method_1_code 24 = .ok (.ifnonnull 7, 3) := by decide +kernel
theorem d13_31 : decode prog_42_method_1_code 31 = .ok (.iconst 0, 1) := by decide +kernel
theorem d13_32 : decode prog_42_method_1_code 32 = .ok (.if_icmp .eq 21, 3) := by decide +kernel
theorem d13_53 : decode prog_42_method_1_code 53 = .ok (.aload_n 0, 1) := by decide +kernel
theorem d13_54 : decode prog_42_method_1_code 54 = .ok (.aload_n 1, 1) := by decide +kernel
theorem d13_55 : decode prog_42_method_1_code 55 = .ok (.putfield 36, 3) := by decide +kernel
theorem d13_58 : decode prog_42_method_1_code 58 = .ok (.aload_n 0, 1) := by decide +kernel
theorem d13_59 : decode prog_42_method_1_code 59 = .ok (.aload_n 2, 1) := by decide +kernel
theorem d13_60 : decode prog_42_method_1_code 60 = .ok (.putfield 40, 3) := by decide +kernel
theorem d13_63 : decode prog_42_method_1_code 63 = .ok (.aload_n 0, 1) := by decide +kernel
theorem d13_64 : decode prog_42_method_1_code 64 = .ok (.lload_n 3, 1) := by decide +kernel
theorem d13_65 : decode prog_42_method_1_code 65 = .ok (.putfield 44, 3) := by decide +kernel
theorem d13_68 : decode prog_42_method_1_code 68 = .ok (.return_, 1) := by decide +kernel
def Q_opI (Z : State) (o : Addr) (kd : Addr) (sv : Addr) (w0 : Int64) (cm : Addr) (h0 : Heap) (rv : Option Value) (h : Heap) (L : List Loc) : Prop := rv = none ∧ Fr Z.heap.size L ∧ Keep h0 h [o]
set_option maxRecDepth 65536 in
set_option maxHeartbeats 40000000 in
theorem rm_opI (l : Launch) (Z : State) (a0 : Array Value) (hw : ∀ d ∈ tables_1, d.before a0 Z = true) (o : Addr) (kd : Addr) (sv : Addr) (w0 : Int64) (cm : Addr) (h0 : Heap) (O0 : Ext Z.heap h0) (E0 : Exa Z h0 o "com/example/opacheck/opacheck/Operation") (F1 : Fld Z h0 o "com/example/opacheck/opacheck/Operation" "kind" "Lcom/example/opacheck/opacheck/Operation$Kind;" .null) (F2 : Fld Z h0 o "com/example/opacheck/opacheck/Operation" "variable" "Ljava/lang/String;" .null) (F3 : Fld Z h0 o "com/example/opacheck/opacheck/Operation" "value" "J" (.long (0 : Int64))) (SM : Sta Z Z.heap "com/example/opacheck/opacheck/Operation$Kind" "COMMIT" "Lcom/example/opacheck/opacheck/Operation$Kind;" (.ref cm)) (hn : Z.heap.size ≤ o) (hne : kd ≠ cm) :
    Met1W l Z (⟨"com/example/opacheck/opacheck/Operation", "<init>", "(Lcom/example/opacheck/opacheck/Operation$Kind;Ljava/lang/String;J)V"⟩ : MethodName) prog_42_method_1_code 5 none ({ frames := 2, cells := 2, slots := 20, locals := 24 } : Room) #[(.ref o), (.ref kd), (.ref sv), (.long w0)] h0 (Q_opI Z o kd sv w0 cm h0) := by
  refine Met1W.of_body (Ls := #[.val (.ref o), .val (.ref kd), .val (.ref sv), .val (.long w0), .second]) pf_13 (fun m => by first | (simp [entryFrame, mkF, argsToLocals, Value.category]; done) | rfl) ?_
  intro p e s m below meth c T0 C X0 e0
  have N0 : Fr Z.heap.size [] := Fr.nil _
  have Si0 : Sin s s h0 := Sin.start s h0
  refine Go.aloadN (pc' := 1) C X0 d13_0 rfl rfl rfl ?_
  refine Go.callI (y := (⟨"java/lang/Record", "<init>", "()V"⟩ : MethodName)) (a := o) (pc' := 4) C X0 rfl (tw hw 60 rfl) (tw hw 61 rfl) (by decide) (rm_rec l Z a0 hw o h0 O0 ) (tw hw 64 rfl) (tw hw 63 rfl) e0 (argsL := []) (rest := []) (W := 0) rfl rfl pd_7 rfl (Nat.le_of_eq rfl) rfl (by decide) (by decide) (by decide) (by decide) rfl d13_1 rfl ?_
  intro T101 v101 L101 X101 q101
  obtain ⟨rfl, rfl, e101⟩ := q101
  have N101 := Fr.app N0 (Fr.nil _)
  refine Go.aloadN (pc' := 5) C X101 d13_4 rfl rfl rfl ?_
  refine Go.ldcW (pc' := 7) (n := 16) C X101 Si0 (tw hw 66 rfl) (wS hw) e101 (by decide) (by decide) (by decide) (by decide) d13_5 rfl ?_
  intro T102 h102 b102 sC102 C102 X102 e102 Si102 E102
  have O104 : Ext Z.heap h102 := (Ext.trans O0 E102)
  refine Go.callS (y := (⟨"java/util/Objects", "requireNonNull", "(Ljava/lang/Object;Ljava/lang/String;)Ljava/lang/Object;"⟩ : MethodName)) (pc' := 10) C102 X102 (tw hw 69 rfl) (tw hw 70 rfl) (by decide) (rm_rn l Z a0 hw kd b102 h102 O104 ) (tw hw 72 rfl) (tw hw 71 rfl) e102 (argsL := [(.ref kd), (.ref b102)]) (rest := []) (W := 0) rfl rfl pd_8 rfl (Nat.le_of_eq rfl) rfl (by decide) (by decide) (by decide) (by decide) d13_7 rfl ?_
  intro T103 v103 L103 X103 q103
  obtain ⟨rfl, rfl, e103⟩ := q103
  have N103 := Fr.app N101 (Fr.nil _)
  refine Go.pop (pc' := 11) C102 X103 d13_10 rfl rfl ?_
  refine Go.aloadN (pc' := 12) C102 X103 d13_11 rfl rfl rfl ?_
  refine Go.getS (pc' := 15) (host := "") C102 X103 (Or.inl (tw hw 73 rfl)) Via.refl e103 (SM.ext O104) d13_12 rfl ?_
  intro T105 X105 e105
  refine Go.acmpYes (pc' := 22) C102 X105 d13_15 rfl rfl (XT.aa_ne_t (fun q => hne (Value.ref.inj q))) (by decide) (by decide) ?_
  refine Go.iconst (z := (0 : Int32)) (pc' := 23) C102 X105 d13_22 rfl rfl ?_
  refine Go.aloadN (pc' := 24) C102 X105 d13_23 rfl rfl rfl ?_
  refine Go.ifnonnullYes (pc' := 31) C102 X105 d13_24 (by decide) (by decide) ?_
  refine Go.iconst (z := (0 : Int32)) (pc' := 32) C102 X105 d13_31 rfl rfl ?_
  refine Go.icmpYes (pc' := 53) C102 X105 d13_32 (teq (x := (0 : Int32)) (y := (0 : Int32)) (by decide)).1 (by decide) (by decide) ?_
  refine Go.aloadN (pc' := 54) C102 X105 d13_53 rfl rfl rfl ?_
  refine Go.aloadN (pc' := 55) C102 X105 d13_54 rfl rfl rfl ?_
  have c108 : Fld Z h102 o "com/example/opacheck/opacheck/Operation" "kind" "Lcom/example/opacheck/opacheck/Operation$Kind;" .null := (Fld.ext E102 F1)
  have c109 : Exa Z h102 o "com/example/opacheck/opacheck/Operation" := (Exa.ext E102 E0)
  refine Go.putF (pc' := 58) (host := "") (ty := (.object "com/example/opacheck/opacheck/Operation$Kind")) C102 X105 (Or.inl (tw hw 75 rfl)) Via.refl e105 c108 c109 (Or.inr ⟨(tw hw 76 rfl), rfl, rfl⟩) (tw hw 53 rfl) (by decide) rfl rfl d13_55 rfl ?_
  intro T107 h107 X107 e107 W107 F107
  have N107 := Fr.snoc X107 N103 hn
  refine Go.aloadN (pc' := 59) C102 X107 d13_58 rfl rfl rfl ?_
  refine Go.aloadN (pc' := 60) C102 X107 d13_59 rfl rfl rfl ?_
  have c111 : Fld Z h107 o "com/example/opacheck/opacheck/Operation" "variable" "Ljava/lang/String;" .null := (Fld.other W107 (Fld.ext E102 F2) (Or.inr (slot_ne (Or.inr (tw hw 78 rfl)) (Or.inr (tw hw 76 rfl)) (by decide) (t := (.object "java/lang/String")) (t' := (.object "com/example/opacheck/opacheck/Operation$Kind")) (by decide) (by decide))))
  have c112 : Exa Z h107 o "com/example/opacheck/opacheck/Operation" := (Exa.wr W107 c109)
  refine Go.putF (pc' := 63) (host := "") (ty := (.object "java/lang/String")) C102 X107 (Or.inl (tw hw 77 rfl)) Via.refl e107 c111 c112 (Or.inr ⟨(tw hw 78 rfl), rfl, rfl⟩) (tw hw 53 rfl) (by decide) rfl rfl d13_60 rfl ?_
  intro T110 h110 X110 e110 W110 F110
  have N110 := Fr.snoc X110 N107 hn
  refine Go.aloadN (pc' := 64) C102 X110 d13_63 rfl rfl rfl ?_
  refine Go.lloadN (pc' := 65) C102 X110 d13_64 rfl rfl ?_
  have c114 : Fld Z h110 o "com/example/opacheck/opacheck/Operation" "value" "J" (.long (0 : Int64)) := (Fld.other W110 (Fld.other W107 (Fld.ext E102 F3) (Or.inr (slot_ne (Or.inr (tw hw 80 rfl)) (Or.inr (tw hw 76 rfl)) (by decide) (t := .long) (t' := (.object "com/example/opacheck/opacheck/Operation$Kind")) (by decide) (by decide)))) (Or.inr (slot_ne (Or.inr (tw hw 80 rfl)) (Or.inr (tw hw 78 rfl)) (by decide) (t := .long) (t' := (.object "java/lang/String")) (by decide) (by decide))))
  have c115 : Exa Z h110 o "com/example/opacheck/opacheck/Operation" := (Exa.wr W110 c112)
  refine Go.putF (pc' := 68) (host := "") (ty := .long) C102 X110 (Or.inl (tw hw 79 rfl)) Via.refl e110 c114 c115 (Or.inr ⟨(tw hw 80 rfl), rfl, rfl⟩) (tw hw 53 rfl) (by decide) rfl rfl d13_65 rfl ?_
  intro T113 h113 X113 e113 W113 F113
  have N113 := Fr.snoc X113 N110 hn
  have K116 : Keep h0 h113 [o] := (((((Keep.refl h0 [o]).ext E102).wr W107 (Or.inl (by simp))).wr W110 (Or.inl (by simp))).wr W113 (Or.inl (by simp)))
  have Si117 : Sin s sC102 h113 := Sin.mono Si102 (Nat.le_trans (Nat.le_trans (Nat.le_trans (Nat.le_refl _) (Nat.le_of_eq W107.size.symm)) (Nat.le_of_eq W110.size.symm)) (Nat.le_of_eq W113.size.symm))
  exact Go.retVW C102 X113 (by rw [e113]; exact Si117) rfl d13_68 (by rw [e113]; exact ⟨rfl, N113, K116⟩) (by decide) (by decide)
theorem d13_18 : decode prog_42_method_1_code 18 = .ok (.iconst 1, 1) := by decide +kernel
theorem d13_19 : decode prog_42_method_1_code 19 = .ok (.goto 4, 3) := by decide +kernel
theorem d13_27 : decode prog_42_method_1_code 27 = .ok (.iconst 1, 1) := by decide +kernel
theorem d13_28 : decode prog_42_method_1_code 28 = .ok (.goto 4, 3) := by decide +kernel
def Q_opC (Z : State) (o : Addr) (w0 : Int64) (cm : Addr) (h0 : Heap) (rv : Option Value) (h : Heap) (L : List Loc) : Prop := rv = none ∧ Fr Z.heap.size L ∧ Keep h0 h [o]
set_option maxRecDepth 65536 in
set_option maxHeartbeats 40000000 in
theorem rm_opC (l : Launch) (Z : State) (a0 : Array Value) (hw : ∀ d ∈ tables_1, d.before a0 Z = true) (o : Addr) (w0 : Int64) (cm : Addr) (h0 : Heap) (O0 : Ext Z.heap h0) (E0 : Exa Z h0 o "com/example/opacheck/opacheck/Operation") (F1 : Fld Z h0 o "com/example/opacheck/opacheck/Operation" "kind" "Lcom/example/opacheck/opacheck/Operation$Kind;" .null) (F2 : Fld Z h0 o "com/example/opacheck/opacheck/Operation" "variable" "Ljava/lang/String;" .null) (F3 : Fld Z h0 o "com/example/opacheck/opacheck/Operation" "value" "J" (.long (0 : Int64))) (SM : Sta Z Z.heap "com/example/opacheck/opacheck/Operation$Kind" "COMMIT" "Lcom/example/opacheck/opacheck/Operation$Kind;" (.ref cm)) (hn : Z.heap.size ≤ o) :
    Met1W l Z (⟨"com/example/opacheck/opacheck/Operation", "<init>", "(Lcom/example/opacheck/opacheck/Operation$Kind;Ljava/lang/String;J)V"⟩ : MethodName) prog_42_method_1_code 5 none ({ frames := 2, cells := 2, slots := 20, locals := 24 } : Room) #[(.ref o), (.ref cm), .null, (.long w0)] h0 (Q_opC Z o w0 cm h0) := by
  refine Met1W.of_body (Ls := #[.val (.ref o), .val (.ref cm), .val .null, .val (.long w0), .second]) pf_13 (fun m => by first | (simp [entryFrame, mkF, argsToLocals, Value.category]; done) | rfl) ?_
  intro p e s m below meth c T0 C X0 e0
  have N0 : Fr Z.heap.size [] := Fr.nil _
  have Si0 : Sin s s h0 := Sin.start s h0
  refine Go.aloadN (pc' := 1) C X0 d13_0 rfl rfl rfl ?_
  refine Go.callI (y := (⟨"java/lang/Record", "<init>", "()V"⟩ : MethodName)) (a := o) (pc' := 4) C X0 rfl (tw hw 60 rfl) (tw hw 61 rfl) (by decide) (rm_rec l Z a0 hw o h0 O0 ) (tw hw 64 rfl) (tw hw 63 rfl) e0 (argsL := []) (rest := []) (W := 0) rfl rfl pd_7 rfl (Nat.le_of_eq rfl) rfl (by decide) (by decide) (by decide) (by decide) rfl d13_1 rfl ?_
  intro T101 v101 L101 X101 q101
  obtain ⟨rfl, rfl, e101⟩ := q101
  have N101 := Fr.app N0 (Fr.nil _)
  refine Go.aloadN (pc' := 5) C X101 d13_4 rfl rfl rfl ?_
  refine Go.ldcW (pc' := 7) (n := 16) C X101 Si0 (tw hw 66 rfl) (wS hw) e101 (by decide) (by decide) (by decide) (by decide) d13_5 rfl ?_
  intro T102 h102 b102 sC102 C102 X102 e102 Si102 E102
  have O104 : Ext Z.heap h102 := (Ext.trans O0 E102)
  refine Go.callS (y := (⟨"java/util/Objects", "requireNonNull", "(Ljava/lang/Object;Ljava/lang/String;)Ljava/lang/Object;"⟩ : MethodName)) (pc' := 10) C102 X102 (tw hw 69 rfl) (tw hw 70 rfl) (by decide) (rm_rn l Z a0 hw cm b102 h102 O104 ) (tw hw 72 rfl) (tw hw 71 rfl) e102 (argsL := [(.ref cm), (.ref b102)]) (rest := []) (W := 0) rfl rfl pd_8 rfl (Nat.le_of_eq rfl) rfl (by decide) (by decide) (by decide) (by decide) d13_7 rfl ?_
  intro T103 v103 L103 X103 q103
  obtain ⟨rfl, rfl, e103⟩ := q103
  have N103 := Fr.app N101 (Fr.nil _)
  refine Go.pop (pc' := 11) C102 X103 d13_10 rfl rfl ?_
  refine Go.aloadN (pc' := 12) C102 X103 d13_11 rfl rfl rfl ?_
  refine Go.getS (pc' := 15) (host := "") C102 X103 (Or.inl (tw hw 73 rfl)) Via.refl e103 (SM.ext O104) d13_12 rfl ?_
  intro T105 X105 e105
  refine Go.acmpNo (pc' := 18) C102 X105 d13_15 rfl rfl (XT.aa_ne_f rfl) rfl ?_
  refine Go.iconst (z := (1 : Int32)) (pc' := 19) C102 X105 d13_18 rfl rfl ?_
  refine Go.goto (pc' := 23) C102 X105 d13_19 (by decide) (by decide) ?_
  refine Go.aloadN (pc' := 24) C102 X105 d13_23 rfl rfl rfl ?_
  refine Go.ifnonnullNo (pc' := 27) C102 X105 d13_24 rfl ?_
  refine Go.iconst (z := (1 : Int32)) (pc' := 28) C102 X105 d13_27 rfl rfl ?_
  refine Go.goto (pc' := 32) C102 X105 d13_28 (by decide) (by decide) ?_
  refine Go.icmpYes (pc' := 53) C102 X105 d13_32 (teq (x := (1 : Int32)) (y := (1 : Int32)) (by decide)).1 (by decide) (by decide) ?_
  refine Go.aloadN (pc' := 54) C102 X105 d13_53 rfl rfl rfl ?_
  refine Go.aloadN (pc' := 55) C102 X105 d13_54 rfl rfl rfl ?_
  have c108 : Fld Z h102 o "com/example/opacheck/opacheck/Operation" "kind" "Lcom/example/opacheck/opacheck/Operation$Kind;" .null := (Fld.ext E102 F1)
  have c109 : Exa Z h102 o "com/example/opacheck/opacheck/Operation" := (Exa.ext E102 E0)
  refine Go.putF (pc' := 58) (host := "") (ty := (.object "com/example/opacheck/opacheck/Operation$Kind")) C102 X105 (Or.inl (tw hw 75 rfl)) Via.refl e105 c108 c109 (Or.inr ⟨(tw hw 76 rfl), rfl, rfl⟩) (tw hw 53 rfl) (by decide) rfl rfl d13_55 rfl ?_
  intro T107 h107 X107 e107 W107 F107
  have N107 := Fr.snoc X107 N103 hn
  refine Go.aloadN (pc' := 59) C102 X107 d13_58 rfl rfl rfl ?_
  refine Go.aloadN (pc' := 60) C102 X107 d13_59 rfl rfl rfl ?_
  have c111 : Fld Z h107 o "com/example/opacheck/opacheck/Operation" "variable" "Ljava/lang/String;" .null := (Fld.other W107 (Fld.ext E102 F2) (Or.inr (slot_ne (Or.inr (tw hw 78 rfl)) (Or.inr (tw hw 76 rfl)) (by decide) (t := (.object "java/lang/String")) (t' := (.object "com/example/opacheck/opacheck/Operation$Kind")) (by decide) (by decide))))
  have c112 : Exa Z h107 o "com/example/opacheck/opacheck/Operation" := (Exa.wr W107 c109)
  refine Go.putF (pc' := 63) (host := "") (ty := (.object "java/lang/String")) C102 X107 (Or.inl (tw hw 77 rfl)) Via.refl e107 c111 c112 (Or.inr ⟨(tw hw 78 rfl), rfl, rfl⟩) (tw hw 53 rfl) (by decide) rfl rfl d13_60 rfl ?_
  intro T110 h110 X110 e110 W110 F110
  have N110 := Fr.snoc X110 N107 hn
  refine Go.aloadN (pc' := 64) C102 X110 d13_63 rfl rfl rfl ?_
  refine Go.lloadN (pc' := 65) C102 X110 d13_64 rfl rfl ?_
  have c114 : Fld Z h110 o "com/example/opacheck/opacheck/Operation" "value" "J" (.long (0 : Int64)) := (Fld.other W110 (Fld.other W107 (Fld.ext E102 F3) (Or.inr (slot_ne (Or.inr (tw hw 80 rfl)) (Or.inr (tw hw 76 rfl)) (by decide) (t := .long) (t' := (.object "com/example/opacheck/opacheck/Operation$Kind")) (by decide) (by decide)))) (Or.inr (slot_ne (Or.inr (tw hw 80 rfl)) (Or.inr (tw hw 78 rfl)) (by decide) (t := .long) (t' := (.object "java/lang/String")) (by decide) (by decide))))
  have c115 : Exa Z h110 o "com/example/opacheck/opacheck/Operation" := (Exa.wr W110 c112)
  refine Go.putF (pc' := 68) (host := "") (ty := .long) C102 X110 (Or.inl (tw hw 79 rfl)) Via.refl e110 c114 c115 (Or.inr ⟨(tw hw 80 rfl), rfl, rfl⟩) (tw hw 53 rfl) (by decide) rfl rfl d13_65 rfl ?_
  intro T113 h113 X113 e113 W113 F113
  have N113 := Fr.snoc X113 N110 hn
  have K116 : Keep h0 h113 [o] := (((((Keep.refl h0 [o]).ext E102).wr W107 (Or.inl (by simp))).wr W110 (Or.inl (by simp))).wr W113 (Or.inl (by simp)))
  have Si117 : Sin s sC102 h113 := Sin.mono Si102 (Nat.le_trans (Nat.le_trans (Nat.le_trans (Nat.le_refl _) (Nat.le_of_eq W107.size.symm)) (Nat.le_of_eq W110.size.symm)) (Nat.le_of_eq W113.size.symm))
  exact Go.retVW C102 X113 (by rw [e113]; exact Si117) rfl d13_68 (by rw [e113]; exact ⟨rfl, N113, K116⟩) (by decide) (by decide)
theorem pd_9 : parseMethodDescriptor "(Lcom/example/opacheck/opacheck/Operation$Kind;Ljava/lang/String;J)V" = some ⟨[(.object "com/example/opacheck/opacheck/Operation$Kind"), (.object "java/lang/String"), .long], none⟩ := by decide +kernel
theorem pf_12 : plainFor (⟨"com/example/opacheck/opacheck/Operation", "read", "(Ljava/lang/String;)Lcom/example/opacheck/opacheck/Operation;"⟩ : MethodName) = true := plainFor_of_name (by first | (simp [plainName, overriddenIn]; done) | decide +kernel)
theorem d12_0 : decode prog_42_method_2_code 0 = .ok (.new 37, 3) := by decide +kernel
theorem d12_3 : decode prog_42_method_2_code 3 = .ok (.dup, 1) := by decide +kernel
theorem d12_4 : decode prog_42_method_2_code 4 = .ok (.getstatic 48, 3) := by decide +kernel
theorem d12_7 : decode prog_42_method_2_code 7 = .ok (.aload_n 0, 1) := by decide +kernel
theorem d12_8 : decode prog_42_method_2_code 8 = .ok (.lconst 0, 1) := by decide +kernel
theorem d12_9 : decode prog_42_method_2_code 9 = .ok (.invokespecial 51, 3) := by decide +kernel
theorem d12_12 : decode prog_42_method_2_code 12 = .ok (.areturn, 1) := by decide +kernel
def Q_oR (Z : State) (sv : Addr) (rd : Addr) (cm : Addr) (h0 : Heap) (rv : Option Value) (h : Heap) (L : List Loc) : Prop := ∃ o : Addr, rv = some (.ref o) ∧ Fr Z.heap.size L ∧ Keep h0 h [] ∧ h0.size ≤ o
set_option maxRecDepth 65536 in
set_option maxHeartbeats 40000000 in
theorem rm_oR (l : Launch) (Z : State) (a0 : Array Value) (hw : ∀ d ∈ tables_1, d.before a0 Z = true) (sv : Addr) (rd : Addr) (cm : Addr) (h0 : Heap) (O0 : Ext Z.heap h0) (SR : Sta Z Z.heap "com/example/opacheck/opacheck/Operation$Kind" "READ" "Lcom/example/opacheck/opacheck/Operation$Kind;" (.ref rd)) (SM : Sta Z Z.heap "com/example/opacheck/opacheck/Operation$Kind" "COMMIT" "Lcom/example/opacheck/opacheck/Operation$Kind;" (.ref cm)) (hr : rd ≠ cm) :
    Met1W l Z (⟨"com/example/opacheck/opacheck/Operation", "read", "(Ljava/lang/String;)Lcom/example/opacheck/opacheck/Operation;"⟩ : MethodName) prog_42_method_2_code 1 (some (.object "com/example/opacheck/opacheck/Operation")) ({ frames := 3, cells := 3, slots := 23, locals := 41 } : Room) #[(.ref sv)] h0 (Q_oR Z sv rd cm h0) := by
  refine Met1W.of_body (Ls := #[.val (.ref sv)]) pf_12 (fun m => by first | (simp [entryFrame, mkF, argsToLocals, Value.category]; done) | rfl) ?_
  intro p e s m below meth c T0 C X0 e0
  have N0 : Fr Z.heap.size [] := Fr.nil _
  have Si0 : Sin s s h0 := Sin.start s h0
  refine Go.newO (pc' := 3) C X0 (tw hw 52 rfl) (tw hw 53 rfl) (tw hw 50 rfl) e0 (by decide) (by decide) d12_0 rfl ?_
  intro T101 h101 b101 X101 e101 g101 E101 A101 D101
  have n_b101 : Z.heap.size ≤ b101 := Nat.le_trans O0.1 (Nat.le_of_eq g101.symm)
  have z_b101 : h0.size ≤ b101 := Nat.le_trans (Nat.le_refl _) (Nat.le_of_eq g101.symm)
  have F101_kind : Fld Z h101 b101 "com/example/opacheck/opacheck/Operation" "kind" "Lcom/example/opacheck/opacheck/Operation$Kind;" .null := D101 (Or.inr (tw hw 76 rfl)) (ty := (.object "com/example/opacheck/opacheck/Operation$Kind")) (by decide)
  have F101_variable : Fld Z h101 b101 "com/example/opacheck/opacheck/Operation" "variable" "Ljava/lang/String;" .null := D101 (Or.inr (tw hw 78 rfl)) (ty := (.object "java/lang/String")) (by decide)
  have F101_value : Fld Z h101 b101 "com/example/opacheck/opacheck/Operation" "value" "J" (.long (0 : Int64)) := D101 (Or.inr (tw hw 80 rfl)) (ty := .long) (by decide)
  refine Go.dup (pc' := 4) C X101 d12_3 rfl rfl ?_
  have O103 : Ext Z.heap h101 := (Ext.trans O0 E101)
  refine Go.getS (pc' := 7) (host := "") C X101 (Or.inl (tw hw 54 rfl)) Via.refl e101 (SR.ext O103) d12_4 rfl ?_
  intro T102 X102 e102
  refine Go.aloadN (pc' := 8) C X102 d12_7 rfl rfl rfl ?_
  refine Go.lconst (z := (0 : Int64)) (pc' := 9) C X102 d12_8 rfl rfl ?_
  have Si105 : Sin s s h101 := Sin.mono Si0 (Nat.le_trans (Nat.le_refl _) E101.1)
  refine Go.callIW (y := (⟨"com/example/opacheck/opacheck/Operation", "<init>", "(Lcom/example/opacheck/opacheck/Operation$Kind;Ljava/lang/String;J)V"⟩ : MethodName)) (a := b101) (pc' := 12) C X102 Si105 rfl (tw hw 57 rfl) (tw hw 58 rfl) (by decide) (rm_opI l Z a0 hw b101 rd sv ((0 : Int64)) cm h101 O103 A101 F101_kind F101_variable F101_value SM n_b101 hr) (tw hw 59 rfl) (tw hw 50 rfl) e102 (argsL := [(.ref rd), (.ref sv), (.long (0 : Int64))]) (rest := [(.ref b101)]) (W := 1) rfl rfl pd_9 rfl (Nat.le_of_eq rfl) rfl (by decide) (by decide) (by decide) (by decide) rfl d12_9 rfl ?_
  intro T104 v104 L104 sC104 C104 X104 Si104 q104
  obtain ⟨rfl, N104q, K104⟩ := q104
  have N104 := Fr.app N0 N104q
  have K106 : Keep h0 T104.heap [] := (((Keep.refl h0 []).ext E101).trans K104 (allS (Or.inr z_b101) all0))
  exact Go.retAW C104 X104 Si104 rfl d12_12 rfl rfl rfl ⟨b101, rfl, N104, K106, z_b101⟩ (by decide) (by decide)
theorem pf_24 : plainFor (⟨"com/example/opacheck/opacheck/Operation", "write", "(Ljava/lang/String;J)Lcom/example/opacheck/opacheck/Operation;"⟩ : MethodName) = true := plainFor_of_name (by first | (simp [plainName, overriddenIn]; done) | decide +kernel)
theorem d24_0 : decode prog_42_method_3_code 0 = .ok (.new 37, 3) := by decide +kernel
theorem d24_3 : decode prog_42_method_3_code 3 = .ok (.dup, 1) := by decide +kernel
theorem d24_4 : decode prog_42_method_3_code 4 = .ok (.getstatic 54, 3) := by decide +kernel
theorem d24_7 : decode prog_42_method_3_code 7 = .ok (.aload_n 0, 1) := by decide +kernel
theorem d24_8 : decode prog_42_method_3_code 8 = .ok (.lload_n 1, 1) := by decide +kernel
theorem d24_9 : decode prog_42_method_3_code 9 = .ok (.invokespecial 51, 3) := by decide +kernel
theorem d24_12 : decode prog_42_method_3_code 12 = .ok (.areturn, 1) := by decide +kernel
def Q_oW (Z : State) (sv : Addr) (w0 : Int64) (wr : Addr) (cm : Addr) (h0 : Heap) (rv : Option Value) (h : Heap) (L : List Loc) : Prop := ∃ o : Addr, rv = some (.ref o) ∧ Fr Z.heap.size L ∧ Keep h0 h [] ∧ h0.size ≤ o
set_option maxRecDepth 65536 in
set_option maxHeartbeats 40000000 in
theorem rm_oW (l : Launch) (Z : State) (a0 : Array Value) (hw : ∀ d ∈ tables_1, d.before a0 Z = true) (sv : Addr) (w0 : Int64) (wr : Addr) (cm : Addr) (h0 : Heap) (O0 : Ext Z.heap h0) (SW : Sta Z Z.heap "com/example/opacheck/opacheck/Operation$Kind" "WRITE" "Lcom/example/opacheck/opacheck/Operation$Kind;" (.ref wr)) (SM : Sta Z Z.heap "com/example/opacheck/opacheck/Operation$Kind" "COMMIT" "Lcom/example/opacheck/opacheck/Operation$Kind;" (.ref cm)) (hr : wr ≠ cm) :
    Met1W l Z (⟨"com/example/opacheck/opacheck/Operation", "write", "(Ljava/lang/String;J)Lcom/example/opacheck/opacheck/Operation;"⟩ : MethodName) prog_42_method_3_code 3 (some (.object "com/example/opacheck/opacheck/Operation")) ({ frames := 3, cells := 3, slots := 23, locals := 41 } : Room) #[(.ref sv), (.long w0)] h0 (Q_oW Z sv w0 wr cm h0) := by
  refine Met1W.of_body (Ls := #[.val (.ref sv), .val (.long w0), .second]) pf_24 (fun m => by first | (simp [entryFrame, mkF, argsToLocals, Value.category]; done) | rfl) ?_
  intro p e s m below meth c T0 C X0 e0
  have N0 : Fr Z.heap.size [] := Fr.nil _
  have Si0 : Sin s s h0 := Sin.start s h0
  refine Go.newO (pc' := 3) C X0 (tw hw 52 rfl) (tw hw 53 rfl) (tw hw 50 rfl) e0 (by decide) (by decide) d24_0 rfl ?_
  intro T101 h101 b101 X101 e101 g101 E101 A101 D101
  have n_b101 : Z.heap.size ≤ b101 := Nat.le_trans O0.1 (Nat.le_of_eq g101.symm)
  have z_b101 : h0.size ≤ b101 := Nat.le_trans (Nat.le_refl _) (Nat.le_of_eq g101.symm)
  have F101_kind : Fld Z h101 b101 "com/example/opacheck/opacheck/Operation" "kind" "Lcom/example/opacheck/opacheck/Operation$Kind;" .null := D101 (Or.inr (tw hw 76 rfl)) (ty := (.object "com/example/opacheck/opacheck/Operation$Kind")) (by decide)
  have F101_variable : Fld Z h101 b101 "com/example/opacheck/opacheck/Operation" "variable" "Ljava/lang/String;" .null := D101 (Or.inr (tw hw 78 rfl)) (ty := (.object "java/lang/String")) (by decide)
  have F101_value : Fld Z h101 b101 "com/example/opacheck/opacheck/Operation" "value" "J" (.long (0 : Int64)) := D101 (Or.inr (tw hw 80 rfl)) (ty := .long) (by decide)
  refine Go.dup (pc' := 4) C X101 d24_3 rfl rfl ?_
  have O103 : Ext Z.heap h101 := (Ext.trans O0 E101)
  refine Go.getS (pc' := 7) (host := "") C X101 (Or.inl (tw hw 141 rfl)) Via.refl e101 (SW.ext O103) d24_4 rfl ?_
  intro T102 X102 e102
  refine Go.aloadN (pc' := 8) C X102 d24_7 rfl rfl rfl ?_
  refine Go.lloadN (pc' := 9) C X102 d24_8 rfl rfl ?_
  have Si105 : Sin s s h101 := Sin.mono Si0 (Nat.le_trans (Nat.le_refl _) E101.1)
  refine Go.callIW (y := (⟨"com/example/opacheck/opacheck/Operation", "<init>", "(Lcom/example/opacheck/opacheck/Operation$Kind;Ljava/lang/String;J)V"⟩ : MethodName)) (a := b101) (pc' := 12) C X102 Si105 rfl (tw hw 57 rfl) (tw hw 58 rfl) (by decide) (rm_opI l Z a0 hw b101 wr sv w0 cm h101 O103 A101 F101_kind F101_variable F101_value SM n_b101 hr) (tw hw 59 rfl) (tw hw 50 rfl) e102 (argsL := [(.ref wr), (.ref sv), (.long w0)]) (rest := [(.ref b101)]) (W := 1) rfl rfl pd_9 rfl (Nat.le_of_eq rfl) rfl (by decide) (by decide) (by decide) (by decide) rfl d24_9 rfl ?_
  intro T104 v104 L104 sC104 C104 X104 Si104 q104
  obtain ⟨rfl, N104q, K104⟩ := q104
  have N104 := Fr.app N0 N104q
  have K106 : Keep h0 T104.heap [] := (((Keep.refl h0 []).ext E101).trans K104 (allS (Or.inr z_b101) all0))
  exact Go.retAW C104 X104 Si104 rfl d24_12 rfl rfl rfl ⟨b101, rfl, N104, K106, z_b101⟩ (by decide) (by decide)
theorem pf_23 : plainFor (⟨"com/example/opacheck/opacheck/Operation", "commit", "()Lcom/example/opacheck/opacheck/Operation;"⟩ : MethodName) = true := plainFor_of_name (by first | (simp [plainName, overriddenIn]; done) | decide +kernel)
theorem d23_0 : decode prog_42_method_4_code 0 = .ok (.new 37, 3) := by decide +kernel
theorem d23_3 : decode prog_42_method_4_code 3 = .ok (.dup, 1) := by decide +kernel
theorem d23_4 : decode prog_42_method_4_code 4 = .ok (.getstatic 15, 3) := by decide +kernel
theorem d23_7 : decode prog_42_method_4_code 7 = .ok (.aconst_null, 1) := by decide +kernel
theorem d23_8 : decode prog_42_method_4_code 8 = .ok (.lconst 0, 1) := by decide +kernel
theorem d23_9 : decode prog_42_method_4_code 9 = .ok (.invokespecial 51, 3) := by decide +kernel
theorem d23_12 : decode prog_42_method_4_code 12 = .ok (.areturn, 1) := by decide +kernel
def Q_oC (Z : State) (cm : Addr) (h0 : Heap) (rv : Option Value) (h : Heap) (L : List Loc) : Prop := ∃ o : Addr, rv = some (.ref o) ∧ Fr Z.heap.size L ∧ Keep h0 h [] ∧ h0.size ≤ o
set_option maxRecDepth 65536 in
set_option maxHeartbeats 40000000 in
theorem rm_oC (l : Launch) (Z : State) (a0 : Array Value) (hw : ∀ d ∈ tables_1, d.before a0 Z = true) (cm : Addr) (h0 : Heap) (O0 : Ext Z.heap h0) (SM : Sta Z Z.heap "com/example/opacheck/opacheck/Operation$Kind" "COMMIT" "Lcom/example/opacheck/opacheck/Operation$Kind;" (.ref cm)) :
    Met1W l Z (⟨"com/example/opacheck/opacheck/Operation", "commit", "()Lcom/example/opacheck/opacheck/Operation;"⟩ : MethodName) prog_42_method_4_code 0 (some (.object "com/example/opacheck/opacheck/Operation")) ({ frames := 3, cells := 3, slots := 23, locals := 41 } : Room) #[] h0 (Q_oC Z cm h0) := by
  refine Met1W.of_body (Ls := #[]) pf_23 (fun m => by first | (simp [entryFrame, mkF, argsToLocals, Value.category]; done) | rfl) ?_
  intro p e s m below meth c T0 C X0 e0
  have N0 : Fr Z.heap.size [] := Fr.nil _
  have Si0 : Sin s s h0 := Sin.start s h0
  refine Go.newO (pc' := 3) C X0 (tw hw 52 rfl) (tw hw 53 rfl) (tw hw 50 rfl) e0 (by decide) (by decide) d23_0 rfl ?_
  intro T101 h101 b101 X101 e101 g101 E101 A101 D101
  have n_b101 : Z.heap.size ≤ b101 := Nat.le_trans O0.1 (Nat.le_of_eq g101.symm)
  have z_b101 : h0.size ≤ b101 := Nat.le_trans (Nat.le_refl _) (Nat.le_of_eq g101.symm)
  have F101_kind : Fld Z h101 b101 "com/example/opacheck/opacheck/Operation" "kind" "Lcom/example/opacheck/opacheck/Operation$Kind;" .null := D101 (Or.inr (tw hw 76 rfl)) (ty := (.object "com/example/opacheck/opacheck/Operation$Kind")) (by decide)
  have F101_variable : Fld Z h101 b101 "com/example/opacheck/opacheck/Operation" "variable" "Ljava/lang/String;" .null := D101 (Or.inr (tw hw 78 rfl)) (ty := (.object "java/lang/String")) (by decide)
  have F101_value : Fld Z h101 b101 "com/example/opacheck/opacheck/Operation" "value" "J" (.long (0 : Int64)) := D101 (Or.inr (tw hw 80 rfl)) (ty := .long) (by decide)
  refine Go.dup (pc' := 4) C X101 d23_3 rfl rfl ?_
  have O103 : Ext Z.heap h101 := (Ext.trans O0 E101)
  refine Go.getS (pc' := 7) (host := "") C X101 (Or.inl (tw hw 73 rfl)) Via.refl e101 (SM.ext O103) d23_4 rfl ?_
  intro T102 X102 e102
  refine Go.aconstNull (pc' := 8) C X102 d23_7 rfl ?_
  refine Go.lconst (z := (0 : Int64)) (pc' := 9) C X102 d23_8 rfl rfl ?_
  have Si105 : Sin s s h101 := Sin.mono Si0 (Nat.le_trans (Nat.le_refl _) E101.1)
  refine Go.callIW (y := (⟨"com/example/opacheck/opacheck/Operation", "<init>", "(Lcom/example/opacheck/opacheck/Operation$Kind;Ljava/lang/String;J)V"⟩ : MethodName)) (a := b101) (pc' := 12) C X102 Si105 rfl (tw hw 57 rfl) (tw hw 58 rfl) (by decide) (rm_opC l Z a0 hw b101 ((0 : Int64)) cm h101 O103 A101 F101_kind F101_variable F101_value SM n_b101) (tw hw 59 rfl) (tw hw 50 rfl) e102 (argsL := [(.ref cm), .null, (.long (0 : Int64))]) (rest := [(.ref b101)]) (W := 1) rfl rfl pd_9 rfl (Nat.le_of_eq rfl) rfl (by decide) (by decide) (by decide) (by decide) rfl d23_9 rfl ?_
  intro T104 v104 L104 sC104 C104 X104 Si104 q104
  obtain ⟨rfl, N104q, K104⟩ := q104
  have N104 := Fr.app N0 N104q
  have K106 : Keep h0 T104.heap [] := (((Keep.refl h0 []).ext E101).trans K104 (allS (Or.inr z_b101) all0))
  exact Go.retAW C104 X104 Si104 rfl d23_12 rfl rfl rfl ⟨b101, rfl, N104, K106, z_b101⟩ (by decide) (by decide)
theorem pd_10 : parseMethodDescriptor "(Ljava/lang/String;)Lcom/example/opacheck/opacheck/Operation;" = some ⟨[(.object "java/lang/String")], some (.object "com/example/opacheck/opacheck/Operation")⟩ := by decide +kernel
theorem pd_11 : parseMethodDescriptor "(Ljava/lang/String;J)Lcom/example/opacheck/opacheck/Operation;" = some ⟨[(.object "java/lang/String"), .long], some (.object "com/example/opacheck/opacheck/Operation")⟩ := by decide +kernel
theorem pd_12 : parseMethodDescriptor "()Lcom/example/opacheck/opacheck/Operation;" = some ⟨[], some (.object "com/example/opacheck/opacheck/Operation")⟩ := by decide +kernel
theorem pf_11 : plainFor (⟨"com/example/opacheck/opacheck/EventIsBeginPinLaw", "makeOperation", "(ILjava/lang/String;J)Lcom/example/opacheck/opacheck/Operation;"⟩ : MethodName) = true := plainFor_of_name (by first | (simp [plainName, overriddenIn]; done) | decide +kernel)
theorem d11_0 : decode method_2_code 0 = .ok (.iload_n 0, 1) := by decide +kernel
theorem d11_1 : decode method_2_code 1 = .ok (.ifCond .ne 8, 3) := by decide +kernel
theorem d11_4 : decode method_2_code 4 = .ok (.aload_n 1, 1) := by decide +kernel
theorem d11_5 : decode method_2_code 5 = .ok (.invokestatic 7, 3) := by decide +kernel
theorem d11_8 : decode method_2_code 8 = .ok (.areturn, 1) := by decide +kernel
theorem d11_9 : decode method_2_code 9 = .ok (.iload_n 0, 1) := by decide +kernel
theorem d11_10 : decode method_2_code 10 = .ok (.iconst 1, 1) := by decide +kernel
theorem d11_11 : decode method_2_code 11 = .ok (.if_icmp .ne 9, 3) := by decide +kernel
theorem d11_14 : decode method_2_code 14 = .ok (.aload_n 1, 1) := by decide +kernel
theorem d11_15 : decode method_2_code 15 = .ok (.lload_n 2, 1) := by decide +kernel
theorem d11_16 : decode method_2_code 16 = .ok (.invokestatic 13, 3) := by decide +kernel
theorem d11_19 : decode method_2_code 19 = .ok (.areturn, 1) := by decide +kernel
theorem d11_20 : decode method_2_code 20 = .ok (.invokestatic 17, 3) := by decide +kernel
theorem d11_23 : decode method_2_code 23 = .ok (.areturn, 1) := by decide +kernel
def Q_mo (Z : State) (k0 : Int32) (sv : Addr) (w0 : Int64) (rd : Addr) (wr : Addr) (cm : Addr) (h0 : Heap) (rv : Option Value) (h : Heap) (L : List Loc) : Prop := ∃ o : Addr, rv = some (.ref o) ∧ Fr Z.heap.size L ∧ Keep h0 h [] ∧ h0.size ≤ o
set_option maxRecDepth 65536 in
set_option maxHeartbeats 40000000 in
theorem rm_mo (l : Launch) (Z : State) (a0 : Array Value) (hw : ∀ d ∈ tables_1, d.before a0 Z = true) (k0 : Int32) (sv : Addr) (w0 : Int64) (rd : Addr) (wr : Addr) (cm : Addr) (h0 : Heap) (O0 : Ext Z.heap h0) (SR : Sta Z Z.heap "com/example/opacheck/opacheck/Operation$Kind" "READ" "Lcom/example/opacheck/opacheck/Operation$Kind;" (.ref rd)) (SW : Sta Z Z.heap "com/example/opacheck/opacheck/Operation$Kind" "WRITE" "Lcom/example/opacheck/opacheck/Operation$Kind;" (.ref wr)) (SM : Sta Z Z.heap "com/example/opacheck/opacheck/Operation$Kind" "COMMIT" "Lcom/example/opacheck/opacheck/Operation$Kind;" (.ref cm)) (hrc : rd ≠ cm) (hwc : wr ≠ cm) :
    Met1W l Z (⟨"com/example/opacheck/opacheck/EventIsBeginPinLaw", "makeOperation", "(ILjava/lang/String;J)Lcom/example/opacheck/opacheck/Operation;"⟩ : MethodName) method_2_code 4 (some (.object "com/example/opacheck/opacheck/Operation")) ({ frames := 4, cells := 3, slots := 23, locals := 55 } : Room) #[(.int k0), (.ref sv), (.long w0)] h0 (Q_mo Z k0 sv w0 rd wr cm h0) := by
  refine Met1W.of_body (Ls := #[.val (.int k0), .val (.ref sv), .val (.long w0), .second]) pf_11 (fun m => by first | (simp [entryFrame, mkF, argsToLocals, Value.category]; done) | rfl) ?_
  intro p e s m below meth c T0 C X0 e0
  have N0 : Fr Z.heap.size [] := Fr.nil _
  have Si0 : Sin s s h0 := Sin.start s h0
  refine Go.iloadN (pc' := 1) C X0 d11_0 rfl rfl ?_
  by_cases hc1_101 : k0 = (0 : Int32)
  · refine Go.ifNo (pc' := 4) C X0 d11_1 ((if0 _ _).trans (teq (x := k0) (y := (0 : Int32)) hc1_101).2) rfl ?_
    refine Go.aloadN (pc' := 5) C X0 d11_4 rfl rfl rfl ?_
    refine Go.callSW (y := (⟨"com/example/opacheck/opacheck/Operation", "read", "(Ljava/lang/String;)Lcom/example/opacheck/opacheck/Operation;"⟩ : MethodName)) (pc' := 8) C X0 Si0 (tw hw 48 rfl) (tw hw 49 rfl) (by decide) (rm_oR l Z a0 hw sv rd cm h0 O0 SR SM hrc) (tw hw 51 rfl) (tw hw 50 rfl) e0 (argsL := [(.ref sv)]) (rest := []) (W := 0) rfl rfl pd_10 rfl (Nat.le_of_eq rfl) rfl (by decide) (by decide) (by decide) (by decide) d11_5 rfl ?_
    intro T102 v102 L102 sC102 C102 X102 Si102 q102
    obtain ⟨o_102, rfl, N102q, K102, B102_0⟩ := q102
    have N102 := Fr.app N0 N102q
    have n_o_102 : Z.heap.size ≤ o_102 := Nat.le_trans O0.1 B102_0
    have z_o_102 : h0.size ≤ o_102 := Nat.le_trans (Nat.le_refl _) B102_0
    have K103 : Keep h0 T102.heap [] := ((Keep.refl h0 []).trans K102 all0)
    exact Go.retAW C102 X102 Si102 rfl d11_8 rfl rfl rfl ⟨o_102, rfl, N102, K103, z_o_102⟩ (by decide) (by decide)
  · refine Go.ifYes (pc' := 9) C X0 d11_1 ((if0 _ _).trans (feq (x := k0) (y := (0 : Int32)) hc1_101).2) (by decide) (by decide) ?_
    refine Go.iloadN (pc' := 10) C X0 d11_9 rfl rfl ?_
    refine Go.iconst (z := (1 : Int32)) (pc' := 11) C X0 d11_10 rfl rfl ?_
    by_cases hc11_104 : k0 = (1 : Int32)
    · refine Go.icmpNo (pc' := 14) C X0 d11_11 (teq (x := k0) (y := (1 : Int32)) hc11_104).2 rfl ?_
      refine Go.aloadN (pc' := 15) C X0 d11_14 rfl rfl rfl ?_
      refine Go.lloadN (pc' := 16) C X0 d11_15 rfl rfl ?_
      refine Go.callSW (y := (⟨"com/example/opacheck/opacheck/Operation", "write", "(Ljava/lang/String;J)Lcom/example/opacheck/opacheck/Operation;"⟩ : MethodName)) (pc' := 19) C X0 Si0 (tw hw 138 rfl) (tw hw 139 rfl) (by decide) (rm_oW l Z a0 hw sv w0 wr cm h0 O0 SW SM hwc) (tw hw 140 rfl) (tw hw 50 rfl) e0 (argsL := [(.ref sv), (.long w0)]) (rest := []) (W := 0) rfl rfl pd_11 rfl (Nat.le_of_eq rfl) rfl (by decide) (by decide) (by decide) (by decide) d11_16 rfl ?_
      intro T105 v105 L105 sC105 C105 X105 Si105 q105
      obtain ⟨o_105, rfl, N105q, K105, B105_0⟩ := q105
      have N105 := Fr.app N0 N105q
      have n_o_105 : Z.heap.size ≤ o_105 := Nat.le_trans O0.1 B105_0
      have z_o_105 : h0.size ≤ o_105 := Nat.le_trans (Nat.le_refl _) B105_0
      have K106 : Keep h0 T105.heap [] := ((Keep.refl h0 []).trans K105 all0)
      exact Go.retAW C105 X105 Si105 rfl d11_19 rfl rfl rfl ⟨o_105, rfl, N105, K106, z_o_105⟩ (by decide) (by decide)
    · refine Go.icmpYes (pc' := 20) C X0 d11_11 (feq (x := k0) (y := (1 : Int32)) hc11_104).2 (by decide) (by decide) ?_
      refine Go.callSW (y := (⟨"com/example/opacheck/opacheck/Operation", "commit", "()Lcom/example/opacheck/opacheck/Operation;"⟩ : MethodName)) (pc' := 23) C X0 Si0 (tw hw 135 rfl) (tw hw 136 rfl) (by decide) (rm_oC l Z a0 hw cm h0 O0 SM) (tw hw 137 rfl) (tw hw 50 rfl) e0 (argsL := []) (rest := []) (W := 0) rfl rfl pd_12 rfl (Nat.le_of_eq rfl) rfl (by decide) (by decide) (by decide) (by decide) d11_20 rfl ?_
      intro T107 v107 L107 sC107 C107 X107 Si107 q107
      obtain ⟨o_107, rfl, N107q, K107, B107_0⟩ := q107
      have N107 := Fr.app N0 N107q
      have n_o_107 : Z.heap.size ≤ o_107 := Nat.le_trans O0.1 B107_0
      have z_o_107 : h0.size ≤ o_107 := Nat.le_trans (Nat.le_refl _) B107_0
      have K108 : Keep h0 T107.heap [] := ((Keep.refl h0 []).trans K107 all0)
      exact Go.retAW C107 X107 Si107 rfl d11_23 rfl rfl rfl ⟨o_107, rfl, N107, K108, z_o_107⟩ (by decide) (by decide)
theorem pf_18 : plainFor (⟨"com/example/opacheck/opacheck/Response", "<init>", "(Lcom/example/opacheck/opacheck/Response$Kind;J)V"⟩ : MethodName) = true := plainFor_of_name (by first | (simp [plainName, overriddenIn]; done) | decide +kernel)
theorem d18_0 : decode prog_53_method_1_code 0 = .ok (.aload_n 0, 1) := by decide +kernel
theorem d18_1 : decode prog_53_method_1_code 1 = .ok (.invokespecial 1, 3) := by decide +kernel
theorem d18_4 : decode prog_53_method_1_code 4 = .ok (.aload_n 1, 1) := by decide +kernel
theorem d18_5 : decode prog_53_method_1_code 5 = .ok (.ldc 7, 2) := by decide +kernel
theorem d18_7 : decode prog_53_method_1_code 7 = .ok (.invokestatic 9, 3) := by decide +kernel
theorem d18_10 : decode prog_53_method_1_code 10 = .ok (.pop, 1) := by decide +kernel
theorem d18_11 : decode prog_53_method_1_code 11 = .ok (.aload_n 0, 1) := by decide +kernel
theorem d18_12 : decode prog_53_method_1_code 12 = .ok (.aload_n 1, 1) := by decide +kernel
theorem d18_13 : decode prog_53_method_1_code 13 = .ok (.putfield 15, 3) := by decide +kernel
theorem d18_16 : decode prog_53_method_1_code 16 = .ok (.aload_n 0, 1) := by decide +kernel
theorem d18_17 : decode prog_53_method_1_code 17 = .ok (.lload_n 2, 1) := by decide +kernel
theorem d18_18 : decode prog_53_method_1_code 18 = .ok (.putfield 20, 3) := by decide +kernel
theorem d18_21 : decode prog_53_method_1_code 21 = .ok (.return_, 1) := by decide +kernel
def Q_rsI (Z : State) (o : Addr) (kd : Addr) (w0 : Int64) (h0 : Heap) (rv : Option Value) (h : Heap) (L : List Loc) : Prop := rv = none ∧ Fr Z.heap.size L ∧ Keep h0 h [o]
set_option maxRecDepth 65536 in
set_option maxHeartbeats 40000000 in
theorem rm_rsI (l : Launch) (Z : State) (a0 : Array Value) (hw : ∀ d ∈ tables_1, d.before a0 Z = true) (o : Addr) (kd : Addr) (w0 : Int64) (h0 : Heap) (O0 : Ext Z.heap h0) (E0 : Exa Z h0 o "com/example/opacheck/opacheck/Response") (F1 : Fld Z h0 o "com/example/opacheck/opacheck/Response" "kind" "Lcom/example/opacheck/opacheck/Response$Kind;" .null) (F3 : Fld Z h0 o "com/example/opacheck/opacheck/Response" "value" "J" (.long (0 : Int64))) (hn : Z.heap.size ≤ o) :
    Met1W l Z (⟨"com/example/opacheck/opacheck/Response", "<init>", "(Lcom/example/opacheck/opacheck/Response$Kind;J)V"⟩ : MethodName) prog_53_method_1_code 4 none ({ frames := 2, cells := 2, slots := 20, locals := 24 } : Room) #[(.ref o), (.ref kd), (.long w0)] h0 (Q_rsI Z o kd w0 h0) := by
  refine Met1W.of_body (Ls := #[.val (.ref o), .val (.ref kd), .val (.long w0), .second]) pf_18 (fun m => by first | (simp [entryFrame, mkF, argsToLocals, Value.category]; done) | rfl) ?_
  intro p e s m below meth c T0 C X0 e0
  have N0 : Fr Z.heap.size [] := Fr.nil _
  have Si0 : Sin s s h0 := Sin.start s h0
  refine Go.aloadN (pc' := 1) C X0 d18_0 rfl rfl rfl ?_
  refine Go.callI (y := (⟨"java/lang/Record", "<init>", "()V"⟩ : MethodName)) (a := o) (pc' := 4) C X0 rfl (tw hw 96 rfl) (tw hw 61 rfl) (by decide) (rm_rec l Z a0 hw o h0 O0 ) (tw hw 64 rfl) (tw hw 63 rfl) e0 (argsL := []) (rest := []) (W := 0) rfl rfl pd_7 rfl (Nat.le_of_eq rfl) rfl (by decide) (by decide) (by decide) (by decide) rfl d18_1 rfl ?_
  intro T101 v101 L101 X101 q101
  obtain ⟨rfl, rfl, e101⟩ := q101
  have N101 := Fr.app N0 (Fr.nil _)
  refine Go.aloadN (pc' := 5) C X101 d18_4 rfl rfl rfl ?_
  refine Go.ldcW (pc' := 7) (n := 16) C X101 Si0 (tw hw 97 rfl) (wS hw) e101 (by decide) (by decide) (by decide) (by decide) d18_5 rfl ?_
  intro T102 h102 b102 sC102 C102 X102 e102 Si102 E102
  have O104 : Ext Z.heap h102 := (Ext.trans O0 E102)
  refine Go.callS (y := (⟨"java/util/Objects", "requireNonNull", "(Ljava/lang/Object;Ljava/lang/String;)Ljava/lang/Object;"⟩ : MethodName)) (pc' := 10) C102 X102 (tw hw 98 rfl) (tw hw 70 rfl) (by decide) (rm_rn l Z a0 hw kd b102 h102 O104 ) (tw hw 72 rfl) (tw hw 71 rfl) e102 (argsL := [(.ref kd), (.ref b102)]) (rest := []) (W := 0) rfl rfl pd_8 rfl (Nat.le_of_eq rfl) rfl (by decide) (by decide) (by decide) (by decide) d18_7 rfl ?_
  intro T103 v103 L103 X103 q103
  obtain ⟨rfl, rfl, e103⟩ := q103
  have N103 := Fr.app N101 (Fr.nil _)
  refine Go.pop (pc' := 11) C102 X103 d18_10 rfl rfl ?_
  refine Go.aloadN (pc' := 12) C102 X103 d18_11 rfl rfl rfl ?_
  refine Go.aloadN (pc' := 13) C102 X103 d18_12 rfl rfl rfl ?_
  have c106 : Fld Z h102 o "com/example/opacheck/opacheck/Response" "kind" "Lcom/example/opacheck/opacheck/Response$Kind;" .null := (Fld.ext E102 F1)
  have c107 : Exa Z h102 o "com/example/opacheck/opacheck/Response" := (Exa.ext E102 E0)
  refine Go.putF (pc' := 16) (host := "") (ty := (.object "com/example/opacheck/opacheck/Response$Kind")) C102 X103 (Or.inl (tw hw 99 rfl)) Via.refl e103 c106 c107 (Or.inr ⟨(tw hw 100 rfl), rfl, rfl⟩) (tw hw 89 rfl) (by decide) rfl rfl d18_13 rfl ?_
  intro T105 h105 X105 e105 W105 F105
  have N105 := Fr.snoc X105 N103 hn
  refine Go.aloadN (pc' := 17) C102 X105 d18_16 rfl rfl rfl ?_
  refine Go.lloadN (pc' := 18) C102 X105 d18_17 rfl rfl ?_
  have c109 : Fld Z h105 o "com/example/opacheck/opacheck/Response" "value" "J" (.long (0 : Int64)) := (Fld.other W105 (Fld.ext E102 F3) (Or.inr (slot_ne (Or.inr (tw hw 102 rfl)) (Or.inr (tw hw 100 rfl)) (by decide) (t := .long) (t' := (.object "com/example/opacheck/opacheck/Response$Kind")) (by decide) (by decide))))
  have c110 : Exa Z h105 o "com/example/opacheck/opacheck/Response" := (Exa.wr W105 c107)
  refine Go.putF (pc' := 21) (host := "") (ty := .long) C102 X105 (Or.inl (tw hw 101 rfl)) Via.refl e105 c109 c110 (Or.inr ⟨(tw hw 102 rfl), rfl, rfl⟩) (tw hw 89 rfl) (by decide) rfl rfl d18_18 rfl ?_
  intro T108 h108 X108 e108 W108 F108
  have N108 := Fr.snoc X108 N105 hn
  have K111 : Keep h0 h108 [o] := ((((Keep.refl h0 [o]).ext E102).wr W105 (Or.inl (by simp))).wr W108 (Or.inl (by simp)))
  have Si112 : Sin s sC102 h108 := Sin.mono Si102 (Nat.le_trans (Nat.le_trans (Nat.le_refl _) (Nat.le_of_eq W105.size.symm)) (Nat.le_of_eq W108.size.symm))
  exact Go.retVW C102 X108 (by rw [e108]; exact Si112) rfl d18_21 (by rw [e108]; exact ⟨rfl, N108, K111⟩) (by decide) (by decide)
theorem pd_13 : parseMethodDescriptor "(Lcom/example/opacheck/opacheck/Response$Kind;J)V" = some ⟨[(.object "com/example/opacheck/opacheck/Response$Kind"), .long], none⟩ := by decide +kernel
theorem pf_17 : plainFor (⟨"com/example/opacheck/opacheck/Response", "value", "(J)Lcom/example/opacheck/opacheck/Response;"⟩ : MethodName) = true := plainFor_of_name (by first | (simp [plainName, overriddenIn]; done) | decide +kernel)
theorem d17_0 : decode prog_53_method_2_code 0 = .ok (.new 16, 3) := by decide +kernel
theorem d17_3 : decode prog_53_method_2_code 3 = .ok (.dup, 1) := by decide +kernel
theorem d17_4 : decode prog_53_method_2_code 4 = .ok (.getstatic 24, 3) := by decide +kernel
theorem d17_7 : decode prog_53_method_2_code 7 = .ok (.lload_n 0, 1) := by decide +kernel
theorem d17_8 : decode prog_53_method_2_code 8 = .ok (.invokespecial 29, 3) := by decide +kernel
theorem d17_11 : decode prog_53_method_2_code 11 = .ok (.areturn, 1) := by decide +kernel
def Q_rV (Z : State) (w0 : Int64) (va : Addr) (h0 : Heap) (rv : Option Value) (h : Heap) (L : List Loc) : Prop := ∃ o : Addr, rv = some (.ref o) ∧ Fr Z.heap.size L ∧ Keep h0 h [] ∧ h0.size ≤ o
set_option maxRecDepth 65536 in
set_option maxHeartbeats 40000000 in
theorem rm_rV (l : Launch) (Z : State) (a0 : Array Value) (hw : ∀ d ∈ tables_1, d.before a0 Z = true) (w0 : Int64) (va : Addr) (h0 : Heap) (O0 : Ext Z.heap h0) (S1 : Sta Z Z.heap "com/example/opacheck/opacheck/Response$Kind" "VALUE" "Lcom/example/opacheck/opacheck/Response$Kind;" (.ref va)) :
    Met1W l Z (⟨"com/example/opacheck/opacheck/Response", "value", "(J)Lcom/example/opacheck/opacheck/Response;"⟩ : MethodName) prog_53_method_2_code 2 (some (.object "com/example/opacheck/opacheck/Response")) ({ frames := 3, cells := 3, slots := 22, locals := 40 } : Room) #[(.long w0)] h0 (Q_rV Z w0 va h0) := by
  refine Met1W.of_body (Ls := #[.val (.long w0), .second]) pf_17 (fun m => by first | (simp [entryFrame, mkF, argsToLocals, Value.category]; done) | rfl) ?_
  intro p e s m below meth c T0 C X0 e0
  have N0 : Fr Z.heap.size [] := Fr.nil _
  have Si0 : Sin s s h0 := Sin.start s h0
  refine Go.newO (pc' := 3) C X0 (tw hw 88 rfl) (tw hw 89 rfl) (tw hw 86 rfl) e0 (by decide) (by decide) d17_0 rfl ?_
  intro T101 h101 b101 X101 e101 g101 E101 A101 D101
  have n_b101 : Z.heap.size ≤ b101 := Nat.le_trans O0.1 (Nat.le_of_eq g101.symm)
  have z_b101 : h0.size ≤ b101 := Nat.le_trans (Nat.le_refl _) (Nat.le_of_eq g101.symm)
  have F101_kind : Fld Z h101 b101 "com/example/opacheck/opacheck/Response" "kind" "Lcom/example/opacheck/opacheck/Response$Kind;" .null := D101 (Or.inr (tw hw 100 rfl)) (ty := (.object "com/example/opacheck/opacheck/Response$Kind")) (by decide)
  have F101_value : Fld Z h101 b101 "com/example/opacheck/opacheck/Response" "value" "J" (.long (0 : Int64)) := D101 (Or.inr (tw hw 102 rfl)) (ty := .long) (by decide)
  refine Go.dup (pc' := 4) C X101 d17_3 rfl rfl ?_
  have O103 : Ext Z.heap h101 := (Ext.trans O0 E101)
  refine Go.getS (pc' := 7) (host := "") C X101 (Or.inl (tw hw 90 rfl)) Via.refl e101 (S1.ext O103) d17_4 rfl ?_
  intro T102 X102 e102
  refine Go.lloadN (pc' := 8) C X102 d17_7 rfl rfl ?_
  have Si105 : Sin s s h101 := Sin.mono Si0 (Nat.le_trans (Nat.le_refl _) E101.1)
  refine Go.callIW (y := (⟨"com/example/opacheck/opacheck/Response", "<init>", "(Lcom/example/opacheck/opacheck/Response$Kind;J)V"⟩ : MethodName)) (a := b101) (pc' := 11) C X102 Si105 rfl (tw hw 93 rfl) (tw hw 94 rfl) (by decide) (rm_rsI l Z a0 hw b101 va w0 h101 O103 A101 F101_kind F101_value n_b101) (tw hw 95 rfl) (tw hw 86 rfl) e102 (argsL := [(.ref va), (.long w0)]) (rest := [(.ref b101)]) (W := 1) rfl rfl pd_13 rfl (Nat.le_of_eq rfl) rfl (by decide) (by decide) (by decide) (by decide) rfl d17_8 rfl ?_
  intro T104 v104 L104 sC104 C104 X104 Si104 q104
  obtain ⟨rfl, N104q, K104⟩ := q104
  have N104 := Fr.app N0 N104q
  have K106 : Keep h0 T104.heap [] := (((Keep.refl h0 []).ext E101).trans K104 (allS (Or.inr z_b101) all0))
  exact Go.retAW C104 X104 Si104 rfl d17_11 rfl rfl rfl ⟨b101, rfl, N104, K106, z_b101⟩ (by decide) (by decide)
theorem pf_22 : plainFor (⟨"com/example/opacheck/opacheck/Response", "ok", "()Lcom/example/opacheck/opacheck/Response;"⟩ : MethodName) = true := plainFor_of_name (by first | (simp [plainName, overriddenIn]; done) | decide +kernel)
theorem d22_0 : decode prog_53_method_3_code 0 = .ok (.new 16, 3) := by decide +kernel
theorem d22_3 : decode prog_53_method_3_code 3 = .ok (.dup, 1) := by decide +kernel
theorem d22_4 : decode prog_53_method_3_code 4 = .ok (.getstatic 32, 3) := by decide +kernel
theorem d22_7 : decode prog_53_method_3_code 7 = .ok (.lconst 0, 1) := by decide +kernel
theorem d22_8 : decode prog_53_method_3_code 8 = .ok (.invokespecial 29, 3) := by decide +kernel
theorem d22_11 : decode prog_53_method_3_code 11 = .ok (.areturn, 1) := by decide +kernel
def Q_rOK (Z : State) (ok : Addr) (h0 : Heap) (rv : Option Value) (h : Heap) (L : List Loc) : Prop := ∃ o : Addr, rv = some (.ref o) ∧ Fr Z.heap.size L ∧ Keep h0 h [] ∧ h0.size ≤ o
set_option maxRecDepth 65536 in
set_option maxHeartbeats 40000000 in
theorem rm_rOK (l : Launch) (Z : State) (a0 : Array Value) (hw : ∀ d ∈ tables_1, d.before a0 Z = true) (ok : Addr) (h0 : Heap) (O0 : Ext Z.heap h0) (S1 : Sta Z Z.heap "com/example/opacheck/opacheck/Response$Kind" "OK" "Lcom/example/opacheck/opacheck/Response$Kind;" (.ref ok)) :
    Met1W l Z (⟨"com/example/opacheck/opacheck/Response", "ok", "()Lcom/example/opacheck/opacheck/Response;"⟩ : MethodName) prog_53_method_3_code 0 (some (.object "com/example/opacheck/opacheck/Response")) ({ frames := 3, cells := 3, slots := 22, locals := 40 } : Room) #[] h0 (Q_rOK Z ok h0) := by
  refine Met1W.of_body (Ls := #[]) pf_22 (fun m => by first | (simp [entryFrame, mkF, argsToLocals, Value.category]; done) | rfl) ?_
  intro p e s m below meth c T0 C X0 e0
  have N0 : Fr Z.heap.size [] := Fr.nil _
  have Si0 : Sin s s h0 := Sin.start s h0
  refine Go.newO (pc' := 3) C X0 (tw hw 88 rfl) (tw hw 89 rfl) (tw hw 86 rfl) e0 (by decide) (by decide) d22_0 rfl ?_
  intro T101 h101 b101 X101 e101 g101 E101 A101 D101
  have n_b101 : Z.heap.size ≤ b101 := Nat.le_trans O0.1 (Nat.le_of_eq g101.symm)
  have z_b101 : h0.size ≤ b101 := Nat.le_trans (Nat.le_refl _) (Nat.le_of_eq g101.symm)
  have F101_kind : Fld Z h101 b101 "com/example/opacheck/opacheck/Response" "kind" "Lcom/example/opacheck/opacheck/Response$Kind;" .null := D101 (Or.inr (tw hw 100 rfl)) (ty := (.object "com/example/opacheck/opacheck/Response$Kind")) (by decide)
  have F101_value : Fld Z h101 b101 "com/example/opacheck/opacheck/Response" "value" "J" (.long (0 : Int64)) := D101 (Or.inr (tw hw 102 rfl)) (ty := .long) (by decide)
  refine Go.dup (pc' := 4) C X101 d22_3 rfl rfl ?_
  have O103 : Ext Z.heap h101 := (Ext.trans O0 E101)
  refine Go.getS (pc' := 7) (host := "") C X101 (Or.inl (tw hw 133 rfl)) Via.refl e101 (S1.ext O103) d22_4 rfl ?_
  intro T102 X102 e102
  refine Go.lconst (z := (0 : Int64)) (pc' := 8) C X102 d22_7 rfl rfl ?_
  have Si105 : Sin s s h101 := Sin.mono Si0 (Nat.le_trans (Nat.le_refl _) E101.1)
  refine Go.callIW (y := (⟨"com/example/opacheck/opacheck/Response", "<init>", "(Lcom/example/opacheck/opacheck/Response$Kind;J)V"⟩ : MethodName)) (a := b101) (pc' := 11) C X102 Si105 rfl (tw hw 93 rfl) (tw hw 94 rfl) (by decide) (rm_rsI l Z a0 hw b101 ok ((0 : Int64)) h101 O103 A101 F101_kind F101_value n_b101) (tw hw 95 rfl) (tw hw 86 rfl) e102 (argsL := [(.ref ok), (.long (0 : Int64))]) (rest := [(.ref b101)]) (W := 1) rfl rfl pd_13 rfl (Nat.le_of_eq rfl) rfl (by decide) (by decide) (by decide) (by decide) rfl d22_8 rfl ?_
  intro T104 v104 L104 sC104 C104 X104 Si104 q104
  obtain ⟨rfl, N104q, K104⟩ := q104
  have N104 := Fr.app N0 N104q
  have K106 : Keep h0 T104.heap [] := (((Keep.refl h0 []).ext E101).trans K104 (allS (Or.inr z_b101) all0))
  exact Go.retAW C104 X104 Si104 rfl d22_11 rfl rfl rfl ⟨b101, rfl, N104, K106, z_b101⟩ (by decide) (by decide)
theorem pf_26 : plainFor (⟨"com/example/opacheck/opacheck/Response", "committed", "()Lcom/example/opacheck/opacheck/Response;"⟩ : MethodName) = true := plainFor_of_name (by first | (simp [plainName, overriddenIn]; done) | decide +kernel)
theorem d26_0 : decode prog_53_method_4_code 0 = .ok (.new 16, 3) := by decide +kernel
theorem d26_3 : decode prog_53_method_4_code 3 = .ok (.dup, 1) := by decide +kernel
theorem d26_4 : decode prog_53_method_4_code 4 = .ok (.getstatic 35, 3) := by decide +kernel
theorem d26_7 : decode prog_53_method_4_code 7 = .ok (.lconst 0, 1) := by decide +kernel
theorem d26_8 : decode prog_53_method_4_code 8 = .ok (.invokespecial 29, 3) := by decide +kernel
theorem d26_11 : decode prog_53_method_4_code 11 = .ok (.areturn, 1) := by decide +kernel
def Q_rCOMMITTED (Z : State) (ct : Addr) (h0 : Heap) (rv : Option Value) (h : Heap) (L : List Loc) : Prop := ∃ o : Addr, rv = some (.ref o) ∧ Fr Z.heap.size L ∧ Keep h0 h [] ∧ h0.size ≤ o
set_option maxRecDepth 65536 in
set_option maxHeartbeats 40000000 in
theorem rm_rCOMMITTED (l : Launch) (Z : State) (a0 : Array Value) (hw : ∀ d ∈ tables_1, d.before a0 Z = true) (ct : Addr) (h0 : Heap) (O0 : Ext Z.heap h0) (S1 : Sta Z Z.heap "com/example/opacheck/opacheck/Response$Kind" "COMMITTED" "Lcom/example/opacheck/opacheck/Response$Kind;" (.ref ct)) :
    Met1W l Z (⟨"com/example/opacheck/opacheck/Response", "committed", "()Lcom/example/opacheck/opacheck/Response;"⟩ : MethodName) prog_53_method_4_code 0 (some (.object "com/example/opacheck/opacheck/Response")) ({ frames := 3, cells := 3, slots := 22, locals := 40 } : Room) #[] h0 (Q_rCOMMITTED Z ct h0) := by
  refine Met1W.of_body (Ls := #[]) pf_26 (fun m => by first | (simp [entryFrame, mkF, argsToLocals, Value.category]; done) | rfl) ?_
  intro p e s m below meth c T0 C X0 e0
  have N0 : Fr Z.heap.size [] := Fr.nil _
  have Si0 : Sin s s h0 := Sin.start s h0
  refine Go.newO (pc' := 3) C X0 (tw hw 88 rfl) (tw hw 89 rfl) (tw hw 86 rfl) e0 (by decide) (by decide) d26_0 rfl ?_
  intro T101 h101 b101 X101 e101 g101 E101 A101 D101
  have n_b101 : Z.heap.size ≤ b101 := Nat.le_trans O0.1 (Nat.le_of_eq g101.symm)
  have z_b101 : h0.size ≤ b101 := Nat.le_trans (Nat.le_refl _) (Nat.le_of_eq g101.symm)
  have F101_kind : Fld Z h101 b101 "com/example/opacheck/opacheck/Response" "kind" "Lcom/example/opacheck/opacheck/Response$Kind;" .null := D101 (Or.inr (tw hw 100 rfl)) (ty := (.object "com/example/opacheck/opacheck/Response$Kind")) (by decide)
  have F101_value : Fld Z h101 b101 "com/example/opacheck/opacheck/Response" "value" "J" (.long (0 : Int64)) := D101 (Or.inr (tw hw 102 rfl)) (ty := .long) (by decide)
  refine Go.dup (pc' := 4) C X101 d26_3 rfl rfl ?_
  have O103 : Ext Z.heap h101 := (Ext.trans O0 E101)
  refine Go.getS (pc' := 7) (host := "") C X101 (Or.inl (tw hw 151 rfl)) Via.refl e101 (S1.ext O103) d26_4 rfl ?_
  intro T102 X102 e102
  refine Go.lconst (z := (0 : Int64)) (pc' := 8) C X102 d26_7 rfl rfl ?_
  have Si105 : Sin s s h101 := Sin.mono Si0 (Nat.le_trans (Nat.le_refl _) E101.1)
  refine Go.callIW (y := (⟨"com/example/opacheck/opacheck/Response", "<init>", "(Lcom/example/opacheck/opacheck/Response$Kind;J)V"⟩ : MethodName)) (a := b101) (pc' := 11) C X102 Si105 rfl (tw hw 93 rfl) (tw hw 94 rfl) (by decide) (rm_rsI l Z a0 hw b101 ct ((0 : Int64)) h101 O103 A101 F101_kind F101_value n_b101) (tw hw 95 rfl) (tw hw 86 rfl) e102 (argsL := [(.ref ct), (.long (0 : Int64))]) (rest := [(.ref b101)]) (W := 1) rfl rfl pd_13 rfl (Nat.le_of_eq rfl) rfl (by decide) (by decide) (by decide) (by decide) rfl d26_8 rfl ?_
  intro T104 v104 L104 sC104 C104 X104 Si104 q104
  obtain ⟨rfl, N104q, K104⟩ := q104
  have N104 := Fr.app N0 N104q
  have K106 : Keep h0 T104.heap [] := (((Keep.refl h0 []).ext E101).trans K104 (allS (Or.inr z_b101) all0))
  exact Go.retAW C104 X104 Si104 rfl d26_11 rfl rfl rfl ⟨b101, rfl, N104, K106, z_b101⟩ (by decide) (by decide)
theorem pf_25 : plainFor (⟨"com/example/opacheck/opacheck/Response", "aborted", "()Lcom/example/opacheck/opacheck/Response;"⟩ : MethodName) = true := plainFor_of_name (by first | (simp [plainName, overriddenIn]; done) | decide +kernel)
theorem d25_0 : decode prog_53_method_5_code 0 = .ok (.new 16, 3) := by decide +kernel
theorem d25_3 : decode prog_53_method_5_code 3 = .ok (.dup, 1) := by decide +kernel
theorem d25_4 : decode prog_53_method_5_code 4 = .ok (.getstatic 38, 3) := by decide +kernel
theorem d25_7 : decode prog_53_method_5_code 7 = .ok (.lconst 0, 1) := by decide +kernel
theorem d25_8 : decode prog_53_method_5_code 8 = .ok (.invokespecial 29, 3) := by decide +kernel
theorem d25_11 : decode prog_53_method_5_code 11 = .ok (.areturn, 1) := by decide +kernel
def Q_rABORTED (Z : State) (ab : Addr) (h0 : Heap) (rv : Option Value) (h : Heap) (L : List Loc) : Prop := ∃ o : Addr, rv = some (.ref o) ∧ Fr Z.heap.size L ∧ Keep h0 h [] ∧ h0.size ≤ o
set_option maxRecDepth 65536 in
set_option maxHeartbeats 40000000 in
theorem rm_rABORTED (l : Launch) (Z : State) (a0 : Array Value) (hw : ∀ d ∈ tables_1, d.before a0 Z = true) (ab : Addr) (h0 : Heap) (O0 : Ext Z.heap h0) (S1 : Sta Z Z.heap "com/example/opacheck/opacheck/Response$Kind" "ABORTED" "Lcom/example/opacheck/opacheck/Response$Kind;" (.ref ab)) :
    Met1W l Z (⟨"com/example/opacheck/opacheck/Response", "aborted", "()Lcom/example/opacheck/opacheck/Response;"⟩ : MethodName) prog_53_method_5_code 0 (some (.object "com/example/opacheck/opacheck/Response")) ({ frames := 3, cells := 3, slots := 22, locals := 40 } : Room) #[] h0 (Q_rABORTED Z ab h0) := by
  refine Met1W.of_body (Ls := #[]) pf_25 (fun m => by first | (simp [entryFrame, mkF, argsToLocals, Value.category]; done) | rfl) ?_
  intro p e s m below meth c T0 C X0 e0
  have N0 : Fr Z.heap.size [] := Fr.nil _
  have Si0 : Sin s s h0 := Sin.start s h0
  refine Go.newO (pc' := 3) C X0 (tw hw 88 rfl) (tw hw 89 rfl) (tw hw 86 rfl) e0 (by decide) (by decide) d25_0 rfl ?_
  intro T101 h101 b101 X101 e101 g101 E101 A101 D101
  have n_b101 : Z.heap.size ≤ b101 := Nat.le_trans O0.1 (Nat.le_of_eq g101.symm)
  have z_b101 : h0.size ≤ b101 := Nat.le_trans (Nat.le_refl _) (Nat.le_of_eq g101.symm)
  have F101_kind : Fld Z h101 b101 "com/example/opacheck/opacheck/Response" "kind" "Lcom/example/opacheck/opacheck/Response$Kind;" .null := D101 (Or.inr (tw hw 100 rfl)) (ty := (.object "com/example/opacheck/opacheck/Response$Kind")) (by decide)
  have F101_value : Fld Z h101 b101 "com/example/opacheck/opacheck/Response" "value" "J" (.long (0 : Int64)) := D101 (Or.inr (tw hw 102 rfl)) (ty := .long) (by decide)
  refine Go.dup (pc' := 4) C X101 d25_3 rfl rfl ?_
  have O103 : Ext Z.heap h101 := (Ext.trans O0 E101)
  refine Go.getS (pc' := 7) (host := "") C X101 (Or.inl (tw hw 146 rfl)) Via.refl e101 (S1.ext O103) d25_4 rfl ?_
  intro T102 X102 e102
  refine Go.lconst (z := (0 : Int64)) (pc' := 8) C X102 d25_7 rfl rfl ?_
  have Si105 : Sin s s h101 := Sin.mono Si0 (Nat.le_trans (Nat.le_refl _) E101.1)
  refine Go.callIW (y := (⟨"com/example/opacheck/opacheck/Response", "<init>", "(Lcom/example/opacheck/opacheck/Response$Kind;J)V"⟩ : MethodName)) (a := b101) (pc' := 11) C X102 Si105 rfl (tw hw 93 rfl) (tw hw 94 rfl) (by decide) (rm_rsI l Z a0 hw b101 ab ((0 : Int64)) h101 O103 A101 F101_kind F101_value n_b101) (tw hw 95 rfl) (tw hw 86 rfl) e102 (argsL := [(.ref ab), (.long (0 : Int64))]) (rest := [(.ref b101)]) (W := 1) rfl rfl pd_13 rfl (Nat.le_of_eq rfl) rfl (by decide) (by decide) (by decide) (by decide) rfl d25_8 rfl ?_
  intro T104 v104 L104 sC104 C104 X104 Si104 q104
  obtain ⟨rfl, N104q, K104⟩ := q104
  have N104 := Fr.app N0 N104q
  have K106 : Keep h0 T104.heap [] := (((Keep.refl h0 []).ext E101).trans K104 (allS (Or.inr z_b101) all0))
  exact Go.retAW C104 X104 Si104 rfl d25_11 rfl rfl rfl ⟨b101, rfl, N104, K106, z_b101⟩ (by decide) (by decide)
theorem pd_14 : parseMethodDescriptor "(J)Lcom/example/opacheck/opacheck/Response;" = some ⟨[.long], some (.object "com/example/opacheck/opacheck/Response")⟩ := by decide +kernel
theorem pd_15 : parseMethodDescriptor "()Lcom/example/opacheck/opacheck/Response;" = some ⟨[], some (.object "com/example/opacheck/opacheck/Response")⟩ := by decide +kernel
theorem pf_16 : plainFor (⟨"com/example/opacheck/opacheck/EventIsBeginPinLaw", "makeResponse", "(IJ)Lcom/example/opacheck/opacheck/Response;"⟩ : MethodName) = true := plainFor_of_name (by first | (simp [plainName, overriddenIn]; done) | decide +kernel)
theorem d16_0 : decode method_3_code 0 = .ok (.iload_n 0, 1) := by decide +kernel
theorem d16_1 : decode method_3_code 1 = .ok (.ifCond .ne 8, 3) := by decide +kernel
theorem d16_4 : decode method_3_code 4 = .ok (.lload_n 1, 1) := by decide +kernel
theorem d16_5 : decode method_3_code 5 = .ok (.invokestatic 21, 3) := by decide +kernel
theorem d16_8 : decode method_3_code 8 = .ok (.areturn, 1) := by decide +kernel
theorem d16_9 : decode method_3_code 9 = .ok (.iload_n 0, 1) := by decide +kernel
theorem d16_10 : decode method_3_code 10 = .ok (.iconst 1, 1) := by decide +kernel
theorem d16_11 : decode method_3_code 11 = .ok (.if_icmp .ne 7, 3) := by decide +kernel
theorem d16_14 : decode method_3_code 14 = .ok (.invokestatic 27, 3) := by decide +kernel
theorem d16_17 : decode method_3_code 17 = .ok (.areturn, 1) := by decide +kernel
theorem d16_18 : decode method_3_code 18 = .ok (.iload_n 0, 1) := by decide +kernel
theorem d16_19 : decode method_3_code 19 = .ok (.iconst 2, 1) := by decide +kernel
theorem d16_20 : decode method_3_code 20 = .ok (.if_icmp .ne 7, 3) := by decide +kernel
theorem d16_23 : decode method_3_code 23 = .ok (.invokestatic 31, 3) := by decide +kernel
theorem d16_26 : decode method_3_code 26 = .ok (.areturn, 1) := by decide +kernel
theorem d16_27 : decode method_3_code 27 = .ok (.invokestatic 34, 3) := by decide +kernel
theorem d16_30 : decode method_3_code 30 = .ok (.areturn, 1) := by decide +kernel
def Q_mr (Z : State) (k0 : Int32) (w0 : Int64) (va : Addr) (ok : Addr) (ct : Addr) (ab : Addr) (h0 : Heap) (rv : Option Value) (h : Heap) (L : List Loc) : Prop := ∃ o : Addr, rv = some (.ref o) ∧ Fr Z.heap.size L ∧ Keep h0 h [] ∧ h0.size ≤ o
set_option maxRecDepth 65536 in
set_option maxHeartbeats 40000000 in
theorem rm_mr (l : Launch) (Z : State) (a0 : Array Value) (hw : ∀ d ∈ tables_1, d.before a0 Z = true) (k0 : Int32) (w0 : Int64) (va : Addr) (ok : Addr) (ct : Addr) (ab : Addr) (h0 : Heap) (O0 : Ext Z.heap h0) (S0 : Sta Z Z.heap "com/example/opacheck/opacheck/Response$Kind" "VALUE" "Lcom/example/opacheck/opacheck/Response$Kind;" (.ref va)) (S1 : Sta Z Z.heap "com/example/opacheck/opacheck/Response$Kind" "OK" "Lcom/example/opacheck/opacheck/Response$Kind;" (.ref ok)) (S2 : Sta Z Z.heap "com/example/opacheck/opacheck/Response$Kind" "COMMITTED" "Lcom/example/opacheck/opacheck/Response$Kind;" (.ref ct)) (S3 : Sta Z Z.heap "com/example/opacheck/opacheck/Response$Kind" "ABORTED" "Lcom/example/opacheck/opacheck/Response$Kind;" (.ref ab)) :
    Met1W l Z (⟨"com/example/opacheck/opacheck/EventIsBeginPinLaw", "makeResponse", "(IJ)Lcom/example/opacheck/opacheck/Response;"⟩ : MethodName) method_3_code 3 (some (.object "com/example/opacheck/opacheck/Response")) ({ frames := 4, cells := 3, slots := 22, locals := 53 } : Room) #[(.int k0), (.long w0)] h0 (Q_mr Z k0 w0 va ok ct ab h0) := by
  refine Met1W.of_body (Ls := #[.val (.int k0), .val (.long w0), .second]) pf_16 (fun m => by first | (simp [entryFrame, mkF, argsToLocals, Value.category]; done) | rfl) ?_
  intro p e s m below meth c T0 C X0 e0
  have N0 : Fr Z.heap.size [] := Fr.nil _
  have Si0 : Sin s s h0 := Sin.start s h0
  refine Go.iloadN (pc' := 1) C X0 d16_0 rfl rfl ?_
  by_cases hc1_101 : k0 = (0 : Int32)
  · refine Go.ifNo (pc' := 4) C X0 d16_1 ((if0 _ _).trans (teq (x := k0) (y := (0 : Int32)) hc1_101).2) rfl ?_
    refine Go.lloadN (pc' := 5) C X0 d16_4 rfl rfl ?_
    refine Go.callSW (y := (⟨"com/example/opacheck/opacheck/Response", "value", "(J)Lcom/example/opacheck/opacheck/Response;"⟩ : MethodName)) (pc' := 8) C X0 Si0 (tw hw 84 rfl) (tw hw 85 rfl) (by decide) (rm_rV l Z a0 hw w0 va h0 O0 S0) (tw hw 87 rfl) (tw hw 86 rfl) e0 (argsL := [(.long w0)]) (rest := []) (W := 0) rfl rfl pd_14 rfl (Nat.le_of_eq rfl) rfl (by decide) (by decide) (by decide) (by decide) d16_5 rfl ?_
    intro T102 v102 L102 sC102 C102 X102 Si102 q102
    obtain ⟨o_102, rfl, N102q, K102, B102_0⟩ := q102
    have N102 := Fr.app N0 N102q
    have n_o_102 : Z.heap.size ≤ o_102 := Nat.le_trans O0.1 B102_0
    have z_o_102 : h0.size ≤ o_102 := Nat.le_trans (Nat.le_refl _) B102_0
    have K103 : Keep h0 T102.heap [] := ((Keep.refl h0 []).trans K102 all0)
    exact Go.retAW C102 X102 Si102 rfl d16_8 rfl rfl rfl ⟨o_102, rfl, N102, K103, z_o_102⟩ (by decide) (by decide)
  · refine Go.ifYes (pc' := 9) C X0 d16_1 ((if0 _ _).trans (feq (x := k0) (y := (0 : Int32)) hc1_101).2) (by decide) (by decide) ?_
    refine Go.iloadN (pc' := 10) C X0 d16_9 rfl rfl ?_
    refine Go.iconst (z := (1 : Int32)) (pc' := 11) C X0 d16_10 rfl rfl ?_
    by_cases hc11_104 : k0 = (1 : Int32)
    · refine Go.icmpNo (pc' := 14) C X0 d16_11 (teq (x := k0) (y := (1 : Int32)) hc11_104).2 rfl ?_
      refine Go.callSW (y := (⟨"com/example/opacheck/opacheck/Response", "ok", "()Lcom/example/opacheck/opacheck/Response;"⟩ : MethodName)) (pc' := 17) C X0 Si0 (tw hw 130 rfl) (tw hw 131 rfl) (by decide) (rm_rOK l Z a0 hw ok h0 O0 S1) (tw hw 132 rfl) (tw hw 86 rfl) e0 (argsL := []) (rest := []) (W := 0) rfl rfl pd_15 rfl (Nat.le_of_eq rfl) rfl (by decide) (by decide) (by decide) (by decide) d16_14 rfl ?_
      intro T105 v105 L105 sC105 C105 X105 Si105 q105
      obtain ⟨o_105, rfl, N105q, K105, B105_0⟩ := q105
      have N105 := Fr.app N0 N105q
      have n_o_105 : Z.heap.size ≤ o_105 := Nat.le_trans O0.1 B105_0
      have z_o_105 : h0.size ≤ o_105 := Nat.le_trans (Nat.le_refl _) B105_0
      have K106 : Keep h0 T105.heap [] := ((Keep.refl h0 []).trans K105 all0)
      exact Go.retAW C105 X105 Si105 rfl d16_17 rfl rfl rfl ⟨o_105, rfl, N105, K106, z_o_105⟩ (by decide) (by decide)
    · refine Go.icmpYes (pc' := 18) C X0 d16_11 (feq (x := k0) (y := (1 : Int32)) hc11_104).2 (by decide) (by decide) ?_
      refine Go.iloadN (pc' := 19) C X0 d16_18 rfl rfl ?_
      refine Go.iconst (z := (2 : Int32)) (pc' := 20) C X0 d16_19 rfl rfl ?_
      by_cases hc20_107 : k0 = (2 : Int32)
      · refine Go.icmpNo (pc' := 23) C X0 d16_20 (teq (x := k0) (y := (2 : Int32)) hc20_107).2 rfl ?_
        refine Go.callSW (y := (⟨"com/example/opacheck/opacheck/Response", "committed", "()Lcom/example/opacheck/opacheck/Response;"⟩ : MethodName)) (pc' := 26) C X0 Si0 (tw hw 148 rfl) (tw hw 149 rfl) (by decide) (rm_rCOMMITTED l Z a0 hw ct h0 O0 S2) (tw hw 150 rfl) (tw hw 86 rfl) e0 (argsL := []) (rest := []) (W := 0) rfl rfl pd_15 rfl (Nat.le_of_eq rfl) rfl (by decide) (by decide) (by decide) (by decide) d16_23 rfl ?_
        intro T108 v108 L108 sC108 C108 X108 Si108 q108
        obtain ⟨o_108, rfl, N108q, K108, B108_0⟩ := q108
        have N108 := Fr.app N0 N108q
        have n_o_108 : Z.heap.size ≤ o_108 := Nat.le_trans O0.1 B108_0
        have z_o_108 : h0.size ≤ o_108 := Nat.le_trans (Nat.le_refl _) B108_0
        have K109 : Keep h0 T108.heap [] := ((Keep.refl h0 []).trans K108 all0)
        exact Go.retAW C108 X108 Si108 rfl d16_26 rfl rfl rfl ⟨o_108, rfl, N108, K109, z_o_108⟩ (by decide) (by decide)
      · refine Go.icmpYes (pc' := 27) C X0 d16_20 (feq (x := k0) (y := (2 : Int32)) hc20_107).2 (by decide) (by decide) ?_
        refine Go.callSW (y := (⟨"com/example/opacheck/opacheck/Response", "aborted", "()Lcom/example/opacheck/opacheck/Response;"⟩ : MethodName)) (pc' := 30) C X0 Si0 (tw hw 143 rfl) (tw hw 144 rfl) (by decide) (rm_rABORTED l Z a0 hw ab h0 O0 S3) (tw hw 145 rfl) (tw hw 86 rfl) e0 (argsL := []) (rest := []) (W := 0) rfl rfl pd_15 rfl (Nat.le_of_eq rfl) rfl (by decide) (by decide) (by decide) (by decide) d16_27 rfl ?_
        intro T110 v110 L110 sC110 C110 X110 Si110 q110
        obtain ⟨o_110, rfl, N110q, K110, B110_0⟩ := q110
        have N110 := Fr.app N0 N110q
        have n_o_110 : Z.heap.size ≤ o_110 := Nat.le_trans O0.1 B110_0
        have z_o_110 : h0.size ≤ o_110 := Nat.le_trans (Nat.le_refl _) B110_0
        have K111 : Keep h0 T110.heap [] := ((Keep.refl h0 []).trans K110 all0)
        exact Go.retAW C110 X110 Si110 rfl d16_30 rfl rfl rfl ⟨o_110, rfl, N110, K111, z_o_110⟩ (by decide) (by decide)
theorem pf_20 : plainFor (⟨"com/example/opacheck/opacheck/Event", "<init>", "(ILjava/lang/String;Lcom/example/opacheck/opacheck/Operation;Lcom/example/opacheck/opacheck/Response;)V"⟩ : MethodName) = true := plainFor_of_name (by first | (simp [plainName, overriddenIn]; done) | decide +kernel)
theorem d20_0 : decode prog_11_method_1_code 0 = .ok (.aload_n 0, 1) := by decide +kernel
theorem d20_1 : decode prog_11_method_1_code 1 = .ok (.invokespecial 1, 3) := by decide +kernel
theorem d20_4 : decode prog_11_method_1_code 4 = .ok (.aload_n 2, 1) := by decide +kernel
theorem d20_5 : decode prog_11_method_1_code 5 = .ok (.ldc 7, 2) := by decide +kernel
theorem d20_7 : decode prog_11_method_1_code 7 = .ok (.invokestatic 9, 3) := by decide +kernel
theorem d20_10 : decode prog_11_method_1_code 10 = .ok (.pop, 1) := by decide +kernel
theorem d20_11 : decode prog_11_method_1_code 11 = .ok (.iload_n 1, 1) := by decide +kernel
theorem d20_12 : decode prog_11_method_1_code 12 = .ok (.iconst 1, 1) := by decide +kernel
theorem d20_13 : decode prog_11_method_1_code 13 = .ok (.if_icmp .ge 17, 3) := by decide +kernel
theorem d20_30 : decode prog_11_method_1_code 30 = .ok (.aload_n 0, 1) := by decide +kernel
theorem d20_31 : decode prog_11_method_1_code 31 = .ok (.iload_n 1, 1) := by decide +kernel
theorem d20_32 : decode prog_11_method_1_code 32 = .ok (.putfield 24, 3) := by decide +kernel
theorem d20_35 : decode prog_11_method_1_code 35 = .ok (.aload_n 0, 1) := by decide +kernel
theorem d20_36 : decode prog_11_method_1_code 36 = .ok (.aload_n 2, 1) := by decide +kernel
theorem d20_37 : decode prog_11_method_1_code 37 = .ok (.putfield 30, 3) := by decide +kernel
theorem d20_40 : decode prog_11_method_1_code 40 = .ok (.aload_n 0, 1) := by decide +kernel
theorem d20_41 : decode prog_11_method_1_code 41 = .ok (.aload_n 3, 1) := by decide +kernel
theorem d20_42 : decode prog_11_method_1_code 42 = .ok (.putfield 33, 3) := by decide +kernel
theorem d20_45 : decode prog_11_method_1_code 45 = .ok (.aload_n 0, 1) := by decide +kernel
theorem d20_46 : decode prog_11_method_1_code 46 = .ok (.aload 4, 2) := by decide +kernel
theorem d20_48 : decode prog_11_method_1_code 48 = .ok (.putfield 37, 3) := by decide +kernel
theorem d20_51 : decode prog_11_method_1_code 51 = .ok (.return_, 1) := by decide +kernel
def Q_ev0 (Z : State) (o : Addr) (n0 : Int32) (sv : Addr) (h0 : Heap) (rv : Option Value) (h : Heap) (L : List Loc) : Prop := rv = none ∧ Fr Z.heap.size L ∧ Keep h0 h [o] ∧ Fld Z h o "com/example/opacheck/opacheck/Event" "invocation" "Lcom/example/opacheck/opacheck/Operation;" .null ∧ Fld Z h o "com/example/opacheck/opacheck/Event" "response" "Lcom/example/opacheck/opacheck/Response;" .null
set_option maxRecDepth 65536 in
set_option maxHeartbeats 40000000 in
theorem rm_ev0 (l : Launch) (Z : State) (a0 : Array Value) (hw : ∀ d ∈ tables_1, d.before a0 Z = true) (o : Addr) (n0 : Int32) (sv : Addr) (h0 : Heap) (O0 : Ext Z.heap h0) (E0 : Exa Z h0 o "com/example/opacheck/opacheck/Event") (F1 : Fld Z h0 o "com/example/opacheck/opacheck/Event" "line" "I" (.int (0 : Int32))) (F2 : Fld Z h0 o "com/example/opacheck/opacheck/Event" "transaction" "Ljava/lang/String;" .null) (F3 : Fld Z h0 o "com/example/opacheck/opacheck/Event" "invocation" "Lcom/example/opacheck/opacheck/Operation;" .null) (F4 : Fld Z h0 o "com/example/opacheck/opacheck/Event" "response" "Lcom/example/opacheck/opacheck/Response;" .null) (hn : Z.heap.size ≤ o) (hl : ¬ n0 < (1 : Int32)) :
    Met1W l Z (⟨"com/example/opacheck/opacheck/Event", "<init>", "(ILjava/lang/String;Lcom/example/opacheck/opacheck/Operation;Lcom/example/opacheck/opacheck/Response;)V"⟩ : MethodName) prog_11_method_1_code 5 none ({ frames := 2, cells := 2, slots := 48, locals := 24 } : Room) #[(.ref o), (.int n0), (.ref sv), .null, .null] h0 (Q_ev0 Z o n0 sv h0) := by
  refine Met1W.of_body (Ls := #[.val (.ref o), .val (.int n0), .val (.ref sv), .val .null, .val .null]) pf_20 (fun m => by first | (simp [entryFrame, mkF, argsToLocals, Value.category]; done) | rfl) ?_
  intro p e s m below meth c T0 C X0 e0
  have N0 : Fr Z.heap.size [] := Fr.nil _
  have Si0 : Sin s s h0 := Sin.start s h0
  refine Go.aloadN (pc' := 1) C X0 d20_0 rfl rfl rfl ?_
  refine Go.callI (y := (⟨"java/lang/Record", "<init>", "()V"⟩ : MethodName)) (a := o) (pc' := 4) C X0 rfl (tw hw 114 rfl) (tw hw 61 rfl) (by decide) (rm_rec l Z a0 hw o h0 O0 ) (tw hw 64 rfl) (tw hw 63 rfl) e0 (argsL := []) (rest := []) (W := 0) rfl rfl pd_7 rfl (Nat.le_of_eq rfl) rfl (by decide) (by decide) (by decide) (by decide) rfl d20_1 rfl ?_
  intro T101 v101 L101 X101 q101
  obtain ⟨rfl, rfl, e101⟩ := q101
  have N101 := Fr.app N0 (Fr.nil _)
  refine Go.aloadN (pc' := 5) C X101 d20_4 rfl rfl rfl ?_
  refine Go.ldcW (pc' := 7) (n := 44) C X101 Si0 (tw hw 115 rfl) (wS hw) e101 (by decide) (by decide) (by decide) (by decide) d20_5 rfl ?_
  intro T102 h102 b102 sC102 C102 X102 e102 Si102 E102
  have O104 : Ext Z.heap h102 := (Ext.trans O0 E102)
  refine Go.callS (y := (⟨"java/util/Objects", "requireNonNull", "(Ljava/lang/Object;Ljava/lang/String;)Ljava/lang/Object;"⟩ : MethodName)) (pc' := 10) C102 X102 (tw hw 116 rfl) (tw hw 70 rfl) (by decide) (rm_rn l Z a0 hw sv b102 h102 O104 ) (tw hw 72 rfl) (tw hw 71 rfl) e102 (argsL := [(.ref sv), (.ref b102)]) (rest := []) (W := 0) rfl rfl pd_8 rfl (Nat.le_of_eq rfl) rfl (by decide) (by decide) (by decide) (by decide) d20_7 rfl ?_
  intro T103 v103 L103 X103 q103
  obtain ⟨rfl, rfl, e103⟩ := q103
  have N103 := Fr.app N101 (Fr.nil _)
  refine Go.pop (pc' := 11) C102 X103 d20_10 rfl rfl ?_
  refine Go.iloadN (pc' := 12) C102 X103 d20_11 rfl rfl ?_
  refine Go.iconst (z := (1 : Int32)) (pc' := 13) C102 X103 d20_12 rfl rfl ?_
  refine Go.icmpYes (pc' := 30) C102 X103 d20_13 (flt (x := n0) (y := (1 : Int32)) hl).2.1 (by decide) (by decide) ?_
  refine Go.aloadN (pc' := 31) C102 X103 d20_30 rfl rfl rfl ?_
  refine Go.iloadN (pc' := 32) C102 X103 d20_31 rfl rfl ?_
  have c107 : Fld Z h102 o "com/example/opacheck/opacheck/Event" "line" "I" (.int (0 : Int32)) := (Fld.ext E102 F1)
  have c108 : Exa Z h102 o "com/example/opacheck/opacheck/Event" := (Exa.ext E102 E0)
  refine Go.putF (pc' := 35) (host := "") (ty := .int) C102 X103 (Or.inl (tw hw 117 rfl)) Via.refl e103 c107 c108 (Or.inr ⟨(tw hw 118 rfl), rfl, rfl⟩) (tw hw 104 rfl) (by decide) rfl rfl d20_32 rfl ?_
  intro T106 h106 X106 e106 W106 F106
  have N106 := Fr.snoc X106 N103 hn
  refine Go.aloadN (pc' := 36) C102 X106 d20_35 rfl rfl rfl ?_
  refine Go.aloadN (pc' := 37) C102 X106 d20_36 rfl rfl rfl ?_
  have c110 : Fld Z h106 o "com/example/opacheck/opacheck/Event" "transaction" "Ljava/lang/String;" .null := (Fld.other W106 (Fld.ext E102 F2) (Or.inr (slot_ne (Or.inr (tw hw 120 rfl)) (Or.inr (tw hw 118 rfl)) (by decide) (t := (.object "java/lang/String")) (t' := .int) (by decide) (by decide))))
  have c111 : Exa Z h106 o "com/example/opacheck/opacheck/Event" := (Exa.wr W106 c108)
  refine Go.putF (pc' := 40) (host := "") (ty := (.object "java/lang/String")) C102 X106 (Or.inl (tw hw 119 rfl)) Via.refl e106 c110 c111 (Or.inr ⟨(tw hw 120 rfl), rfl, rfl⟩) (tw hw 104 rfl) (by decide) rfl rfl d20_37 rfl ?_
  intro T109 h109 X109 e109 W109 F109
  have N109 := Fr.snoc X109 N106 hn
  refine Go.aloadN (pc' := 41) C102 X109 d20_40 rfl rfl rfl ?_
  refine Go.aloadN (pc' := 42) C102 X109 d20_41 rfl rfl rfl ?_
  have c113 : Fld Z h109 o "com/example/opacheck/opacheck/Event" "invocation" "Lcom/example/opacheck/opacheck/Operation;" .null := (Fld.other W109 (Fld.other W106 (Fld.ext E102 F3) (Or.inr (slot_ne (Or.inr (tw hw 122 rfl)) (Or.inr (tw hw 118 rfl)) (by decide) (t := (.object "com/example/opacheck/opacheck/Operation")) (t' := .int) (by decide) (by decide)))) (Or.inr (slot_ne (Or.inr (tw hw 122 rfl)) (Or.inr (tw hw 120 rfl)) (by decide) (t := (.object "com/example/opacheck/opacheck/Operation")) (t' := (.object "java/lang/String")) (by decide) (by decide))))
  have c114 : Exa Z h109 o "com/example/opacheck/opacheck/Event" := (Exa.wr W109 c111)
  refine Go.putF (pc' := 45) (host := "") (ty := (.object "com/example/opacheck/opacheck/Operation")) C102 X109 (Or.inl (tw hw 121 rfl)) Via.refl e109 c113 c114 (Or.inr ⟨(tw hw 122 rfl), rfl, rfl⟩) (tw hw 104 rfl) (by decide) rfl rfl d20_42 rfl ?_
  intro T112 h112 X112 e112 W112 F112
  have N112 := Fr.snoc X112 N109 hn
  refine Go.aloadN (pc' := 46) C102 X112 d20_45 rfl rfl rfl ?_
  refine Go.aload (pc' := 48) C102 X112 d20_46 rfl rfl rfl ?_
  have c116 : Fld Z h112 o "com/example/opacheck/opacheck/Event" "response" "Lcom/example/opacheck/opacheck/Response;" .null := (Fld.other W112 (Fld.other W109 (Fld.other W106 (Fld.ext E102 F4) (Or.inr (slot_ne (Or.inr (tw hw 124 rfl)) (Or.inr (tw hw 118 rfl)) (by decide) (t := (.object "com/example/opacheck/opacheck/Response")) (t' := .int) (by decide) (by decide)))) (Or.inr (slot_ne (Or.inr (tw hw 124 rfl)) (Or.inr (tw hw 120 rfl)) (by decide) (t := (.object "com/example/opacheck/opacheck/Response")) (t' := (.object "java/lang/String")) (by decide) (by decide)))) (Or.inr (slot_ne (Or.inr (tw hw 124 rfl)) (Or.inr (tw hw 122 rfl)) (by decide) (t := (.object "com/example/opacheck/opacheck/Response")) (t' := (.object "com/example/opacheck/opacheck/Operation")) (by decide) (by decide))))
  have c117 : Exa Z h112 o "com/example/opacheck/opacheck/Event" := (Exa.wr W112 c114)
  refine Go.putF (pc' := 51) (host := "") (ty := (.object "com/example/opacheck/opacheck/Response")) C102 X112 (Or.inl (tw hw 123 rfl)) Via.refl e112 c116 c117 (Or.inr ⟨(tw hw 124 rfl), rfl, rfl⟩) (tw hw 104 rfl) (by decide) rfl rfl d20_48 rfl ?_
  intro T115 h115 X115 e115 W115 F115
  have N115 := Fr.snoc X115 N112 hn
  have K118 : Keep h0 h115 [o] := ((((((Keep.refl h0 [o]).ext E102).wr W106 (Or.inl (by simp))).wr W109 (Or.inl (by simp))).wr W112 (Or.inl (by simp))).wr W115 (Or.inl (by simp)))
  have c119 : Fld Z h115 o "com/example/opacheck/opacheck/Event" "invocation" "Lcom/example/opacheck/opacheck/Operation;" .null := (Fld.other W115 F112 (Or.inr (slot_ne (Or.inr (tw hw 122 rfl)) (Or.inr (tw hw 124 rfl)) (by decide) (t := (.object "com/example/opacheck/opacheck/Operation")) (t' := (.object "com/example/opacheck/opacheck/Response")) (by decide) (by decide))))
  have Si120 : Sin s sC102 h115 := Sin.mono Si102 (Nat.le_trans (Nat.le_trans (Nat.le_trans (Nat.le_trans (Nat.le_refl _) (Nat.le_of_eq W106.size.symm)) (Nat.le_of_eq W109.size.symm)) (Nat.le_of_eq W112.size.symm)) (Nat.le_of_eq W115.size.symm))
  exact Go.retVW C102 X115 (by rw [e115]; exact Si120) rfl d20_51 (by rw [e115]; exact ⟨rfl, N115, K118, c119, F115⟩) (by decide) (by decide)
theorem pf_21 : plainFor (⟨"com/example/opacheck/opacheck/Event", "isBegin", "()Z"⟩ : MethodName) = true := plainFor_of_name (by first | (simp [plainName, overriddenIn]; done) | decide +kernel)
theorem d21_0 : decode prog_11_method_2_code 0 = .ok (.aload_n 0, 1) := by decide +kernel
theorem d21_1 : decode prog_11_method_2_code 1 = .ok (.getfield 33, 3) := by decide +kernel
theorem d21_4 : decode prog_11_method_2_code 4 = .ok (.ifnonnull 14, 3) := by decide +kernel
theorem d21_7 : decode prog_11_method_2_code 7 = .ok (.aload_n 0, 1) := by decide +kernel
theorem d21_8 : decode prog_11_method_2_code 8 = .ok (.getfield 37, 3) := by decide +kernel
theorem d21_11 : decode prog_11_method_2_code 11 = .ok (.ifnonnull 7, 3) := by decide +kernel
theorem d21_14 : decode prog_11_method_2_code 14 = .ok (.iconst 1, 1) := by decide +kernel
theorem d21_15 : decode prog_11_method_2_code 15 = .ok (.goto 4, 3) := by decide +kernel
theorem d21_19 : decode prog_11_method_2_code 19 = .ok (.ireturn, 1) := by decide +kernel
def Q_ib0 (Z : State) (o : Addr) (h0 : Heap) (rv : Option Value) (h : Heap) (L : List Loc) : Prop := rv = some (.int (1 : Int32)) ∧ L = [] ∧ h = h0
set_option maxRecDepth 65536 in
set_option maxHeartbeats 40000000 in
theorem rm_ib0 (l : Launch) (Z : State) (a0 : Array Value) (hw : ∀ d ∈ tables_1, d.before a0 Z = true) (o : Addr) (h0 : Heap) (O0 : Ext Z.heap h0) (P1 : Fld Z h0 o "com/example/opacheck/opacheck/Event" "invocation" "Lcom/example/opacheck/opacheck/Operation;" .null) (P2 : Fld Z h0 o "com/example/opacheck/opacheck/Event" "response" "Lcom/example/opacheck/opacheck/Response;" .null) :
    Met1 l Z (⟨"com/example/opacheck/opacheck/Event", "isBegin", "()Z"⟩ : MethodName) prog_11_method_2_code 1 (some .boolean) ({ frames := 0, cells := 0, slots := 0, locals := 0 } : Room) #[(.ref o)] h0 (Q_ib0 Z o h0) := by
  refine Met1.of_body (Ls := #[.val (.ref o)]) pf_21 (fun m => by first | (simp [entryFrame, mkF, argsToLocals, Value.category]; done) | rfl) ?_
  intro p e s m below meth c T0 C X0 e0
  have N0 : Fr Z.heap.size [] := Fr.nil _
  refine Go.aloadN (pc' := 1) C X0 d21_0 rfl rfl rfl ?_
  refine Go.getF (pc' := 4) (host := "") C X0 (Or.inl (tw hw 121 rfl)) Via.refl e0 P1 d21_1 rfl ?_
  intro T101 X101 e101
  refine Go.ifnonnullNo (pc' := 7) C X101 d21_4 rfl ?_
  refine Go.aloadN (pc' := 8) C X101 d21_7 rfl rfl rfl ?_
  refine Go.getF (pc' := 11) (host := "") C X101 (Or.inl (tw hw 123 rfl)) Via.refl e101 P2 d21_8 rfl ?_
  intro T102 X102 e102
  refine Go.ifnonnullNo (pc' := 14) C X102 d21_11 rfl ?_
  refine Go.iconst (z := (1 : Int32)) (pc' := 15) C X102 d21_14 rfl rfl ?_
  refine Go.goto (pc' := 19) C X102 d21_15 (by decide) (by decide) ?_
  exact Go.retN C X102 rfl d21_19 (by simp) (by rw [e102]; exact ⟨rfl, rfl, rfl⟩) (by decide) (by decide)
def Q_ev1 (Z : State) (o : Addr) (n0 : Int32) (sv : Addr) (a1 : Addr) (h0 : Heap) (rv : Option Value) (h : Heap) (L : List Loc) : Prop := rv = none ∧ Fr Z.heap.size L ∧ Keep h0 h [o] ∧ Fld Z h o "com/example/opacheck/opacheck/Event" "invocation" "Lcom/example/opacheck/opacheck/Operation;" (.ref a1) ∧ Fld Z h o "com/example/opacheck/opacheck/Event" "response" "Lcom/example/opacheck/opacheck/Response;" .null
set_option maxRecDepth 65536 in
set_option maxHeartbeats 40000000 in
theorem rm_ev1 (l : Launch) (Z : State) (a0 : Array Value) (hw : ∀ d ∈ tables_1, d.before a0 Z = true) (o : Addr) (n0 : Int32) (sv : Addr) (a1 : Addr) (h0 : Heap) (O0 : Ext Z.heap h0) (E0 : Exa Z h0 o "com/example/opacheck/opacheck/Event") (F1 : Fld Z h0 o "com/example/opacheck/opacheck/Event" "line" "I" (.int (0 : Int32))) (F2 : Fld Z h0 o "com/example/opacheck/opacheck/Event" "transaction" "Ljava/lang/String;" .null) (F3 : Fld Z h0 o "com/example/opacheck/opacheck/Event" "invocation" "Lcom/example/opacheck/opacheck/Operation;" .null) (F4 : Fld Z h0 o "com/example/opacheck/opacheck/Event" "response" "Lcom/example/opacheck/opacheck/Response;" .null) (hn : Z.heap.size ≤ o) (hl : ¬ n0 < (1 : Int32)) :
    Met1W l Z (⟨"com/example/opacheck/opacheck/Event", "<init>", "(ILjava/lang/String;Lcom/example/opacheck/opacheck/Operation;Lcom/example/opacheck/opacheck/Response;)V"⟩ : MethodName) prog_11_method_1_code 5 none ({ frames := 2, cells := 2, slots := 48, locals := 24 } : Room) #[(.ref o), (.int n0), (.ref sv), (.ref a1), .null] h0 (Q_ev1 Z o n0 sv a1 h0) := by
  refine Met1W.of_body (Ls := #[.val (.ref o), .val (.int n0), .val (.ref sv), .val (.ref a1), .val .null]) pf_20 (fun m => by first | (simp [entryFrame, mkF, argsToLocals, Value.category]; done) | rfl) ?_
  intro p e s m below meth c T0 C X0 e0
  have N0 : Fr Z.heap.size [] := Fr.nil _
  have Si0 : Sin s s h0 := Sin.start s h0
  refine Go.aloadN (pc' := 1) C X0 d20_0 rfl rfl rfl ?_
  refine Go.callI (y := (⟨"java/lang/Record", "<init>", "()V"⟩ : MethodName)) (a := o) (pc' := 4) C X0 rfl (tw hw 114 rfl) (tw hw 61 rfl) (by decide) (rm_rec l Z a0 hw o h0 O0 ) (tw hw 64 rfl) (tw hw 63 rfl) e0 (argsL := []) (rest := []) (W := 0) rfl rfl pd_7 rfl (Nat.le_of_eq rfl) rfl (by decide) (by decide) (by decide) (by decide) rfl d20_1 rfl ?_
  intro T101 v101 L101 X101 q101
  obtain ⟨rfl, rfl, e101⟩ := q101
  have N101 := Fr.app N0 (Fr.nil _)
  refine Go.aloadN (pc' := 5) C X101 d20_4 rfl rfl rfl ?_
  refine Go.ldcW (pc' := 7) (n := 44) C X101 Si0 (tw hw 115 rfl) (wS hw) e101 (by decide) (by decide) (by decide) (by decide) d20_5 rfl ?_
  intro T102 h102 b102 sC102 C102 X102 e102 Si102 E102
  have O104 : Ext Z.heap h102 := (Ext.trans O0 E102)
  refine Go.callS (y := (⟨"java/util/Objects", "requireNonNull", "(Ljava/lang/Object;Ljava/lang/String;)Ljava/lang/Object;"⟩ : MethodName)) (pc' := 10) C102 X102 (tw hw 116 rfl) (tw hw 70 rfl) (by decide) (rm_rn l Z a0 hw sv b102 h102 O104 ) (tw hw 72 rfl) (tw hw 71 rfl) e102 (argsL := [(.ref sv), (.ref b102)]) (rest := []) (W := 0) rfl rfl pd_8 rfl (Nat.le_of_eq rfl) rfl (by decide) (by decide) (by decide) (by decide) d20_7 rfl ?_
  intro T103 v103 L103 X103 q103
  obtain ⟨rfl, rfl, e103⟩ := q103
  have N103 := Fr.app N101 (Fr.nil _)
  refine Go.pop (pc' := 11) C102 X103 d20_10 rfl rfl ?_
  refine Go.iloadN (pc' := 12) C102 X103 d20_11 rfl rfl ?_
  refine Go.iconst (z := (1 : Int32)) (pc' := 13) C102 X103 d20_12 rfl rfl ?_
  refine Go.icmpYes (pc' := 30) C102 X103 d20_13 (flt (x := n0) (y := (1 : Int32)) hl).2.1 (by decide) (by decide) ?_
  refine Go.aloadN (pc' := 31) C102 X103 d20_30 rfl rfl rfl ?_
  refine Go.iloadN (pc' := 32) C102 X103 d20_31 rfl rfl ?_
  have c107 : Fld Z h102 o "com/example/opacheck/opacheck/Event" "line" "I" (.int (0 : Int32)) := (Fld.ext E102 F1)
  have c108 : Exa Z h102 o "com/example/opacheck/opacheck/Event" := (Exa.ext E102 E0)
  refine Go.putF (pc' := 35) (host := "") (ty := .int) C102 X103 (Or.inl (tw hw 117 rfl)) Via.refl e103 c107 c108 (Or.inr ⟨(tw hw 118 rfl), rfl, rfl⟩) (tw hw 104 rfl) (by decide) rfl rfl d20_32 rfl ?_
  intro T106 h106 X106 e106 W106 F106
  have N106 := Fr.snoc X106 N103 hn
  refine Go.aloadN (pc' := 36) C102 X106 d20_35 rfl rfl rfl ?_
  refine Go.aloadN (pc' := 37) C102 X106 d20_36 rfl rfl rfl ?_
  have c110 : Fld Z h106 o "com/example/opacheck/opacheck/Event" "transaction" "Ljava/lang/String;" .null := (Fld.other W106 (Fld.ext E102 F2) (Or.inr (slot_ne (Or.inr (tw hw 120 rfl)) (Or.inr (tw hw 118 rfl)) (by decide) (t := (.object "java/lang/String")) (t' := .int) (by decide) (by decide))))
  have c111 : Exa Z h106 o "com/example/opacheck/opacheck/Event" := (Exa.wr W106 c108)
  refine Go.putF (pc' := 40) (host := "") (ty := (.object "java/lang/String")) C102 X106 (Or.inl (tw hw 119 rfl)) Via.refl e106 c110 c111 (Or.inr ⟨(tw hw 120 rfl), rfl, rfl⟩) (tw hw 104 rfl) (by decide) rfl rfl d20_37 rfl ?_
  intro T109 h109 X109 e109 W109 F109
  have N109 := Fr.snoc X109 N106 hn
  refine Go.aloadN (pc' := 41) C102 X109 d20_40 rfl rfl rfl ?_
  refine Go.aloadN (pc' := 42) C102 X109 d20_41 rfl rfl rfl ?_
  have c113 : Fld Z h109 o "com/example/opacheck/opacheck/Event" "invocation" "Lcom/example/opacheck/opacheck/Operation;" .null := (Fld.other W109 (Fld.other W106 (Fld.ext E102 F3) (Or.inr (slot_ne (Or.inr (tw hw 122 rfl)) (Or.inr (tw hw 118 rfl)) (by decide) (t := (.object "com/example/opacheck/opacheck/Operation")) (t' := .int) (by decide) (by decide)))) (Or.inr (slot_ne (Or.inr (tw hw 122 rfl)) (Or.inr (tw hw 120 rfl)) (by decide) (t := (.object "com/example/opacheck/opacheck/Operation")) (t' := (.object "java/lang/String")) (by decide) (by decide))))
  have c114 : Exa Z h109 o "com/example/opacheck/opacheck/Event" := (Exa.wr W109 c111)
  refine Go.putF (pc' := 45) (host := "") (ty := (.object "com/example/opacheck/opacheck/Operation")) C102 X109 (Or.inl (tw hw 121 rfl)) Via.refl e109 c113 c114 (Or.inr ⟨(tw hw 122 rfl), rfl, rfl⟩) (tw hw 104 rfl) (by decide) rfl rfl d20_42 rfl ?_
  intro T112 h112 X112 e112 W112 F112
  have N112 := Fr.snoc X112 N109 hn
  refine Go.aloadN (pc' := 46) C102 X112 d20_45 rfl rfl rfl ?_
  refine Go.aload (pc' := 48) C102 X112 d20_46 rfl rfl rfl ?_
  have c116 : Fld Z h112 o "com/example/opacheck/opacheck/Event" "response" "Lcom/example/opacheck/opacheck/Response;" .null := (Fld.other W112 (Fld.other W109 (Fld.other W106 (Fld.ext E102 F4) (Or.inr (slot_ne (Or.inr (tw hw 124 rfl)) (Or.inr (tw hw 118 rfl)) (by decide) (t := (.object "com/example/opacheck/opacheck/Response")) (t' := .int) (by decide) (by decide)))) (Or.inr (slot_ne (Or.inr (tw hw 124 rfl)) (Or.inr (tw hw 120 rfl)) (by decide) (t := (.object "com/example/opacheck/opacheck/Response")) (t' := (.object "java/lang/String")) (by decide) (by decide)))) (Or.inr (slot_ne (Or.inr (tw hw 124 rfl)) (Or.inr (tw hw 122 rfl)) (by decide) (t := (.object "com/example/opacheck/opacheck/Response")) (t' := (.object "com/example/opacheck/opacheck/Operation")) (by decide) (by decide))))
  have c117 : Exa Z h112 o "com/example/opacheck/opacheck/Event" := (Exa.wr W112 c114)
  refine Go.putF (pc' := 51) (host := "") (ty := (.object "com/example/opacheck/opacheck/Response")) C102 X112 (Or.inl (tw hw 123 rfl)) Via.refl e112 c116 c117 (Or.inr ⟨(tw hw 124 rfl), rfl, rfl⟩) (tw hw 104 rfl) (by decide) rfl rfl d20_48 rfl ?_
  intro T115 h115 X115 e115 W115 F115
  have N115 := Fr.snoc X115 N112 hn
  have K118 : Keep h0 h115 [o] := ((((((Keep.refl h0 [o]).ext E102).wr W106 (Or.inl (by simp))).wr W109 (Or.inl (by simp))).wr W112 (Or.inl (by simp))).wr W115 (Or.inl (by simp)))
  have c119 : Fld Z h115 o "com/example/opacheck/opacheck/Event" "invocation" "Lcom/example/opacheck/opacheck/Operation;" (.ref a1) := (Fld.other W115 F112 (Or.inr (slot_ne (Or.inr (tw hw 122 rfl)) (Or.inr (tw hw 124 rfl)) (by decide) (t := (.object "com/example/opacheck/opacheck/Operation")) (t' := (.object "com/example/opacheck/opacheck/Response")) (by decide) (by decide))))
  have Si120 : Sin s sC102 h115 := Sin.mono Si102 (Nat.le_trans (Nat.le_trans (Nat.le_trans (Nat.le_trans (Nat.le_refl _) (Nat.le_of_eq W106.size.symm)) (Nat.le_of_eq W109.size.symm)) (Nat.le_of_eq W112.size.symm)) (Nat.le_of_eq W115.size.symm))
  exact Go.retVW C102 X115 (by rw [e115]; exact Si120) rfl d20_51 (by rw [e115]; exact ⟨rfl, N115, K118, c119, F115⟩) (by decide) (by decide)
theorem d21_18 : decode prog_11_method_2_code 18 = .ok (.iconst 0, 1) := by decide +kernel
def Q_ib1 (Z : State) (o : Addr) (a1 : Addr) (h0 : Heap) (rv : Option Value) (h : Heap) (L : List Loc) : Prop := rv = some (.int (0 : Int32)) ∧ L = [] ∧ h = h0
set_option maxRecDepth 65536 in
set_option maxHeartbeats 40000000 in
theorem rm_ib1 (l : Launch) (Z : State) (a0 : Array Value) (hw : ∀ d ∈ tables_1, d.before a0 Z = true) (o : Addr) (a1 : Addr) (h0 : Heap) (O0 : Ext Z.heap h0) (P1 : Fld Z h0 o "com/example/opacheck/opacheck/Event" "invocation" "Lcom/example/opacheck/opacheck/Operation;" (.ref a1)) (P2 : Fld Z h0 o "com/example/opacheck/opacheck/Event" "response" "Lcom/example/opacheck/opacheck/Response;" .null) :
    Met1 l Z (⟨"com/example/opacheck/opacheck/Event", "isBegin", "()Z"⟩ : MethodName) prog_11_method_2_code 1 (some .boolean) ({ frames := 0, cells := 0, slots := 0, locals := 0 } : Room) #[(.ref o)] h0 (Q_ib1 Z o a1 h0) := by
  refine Met1.of_body (Ls := #[.val (.ref o)]) pf_21 (fun m => by first | (simp [entryFrame, mkF, argsToLocals, Value.category]; done) | rfl) ?_
  intro p e s m below meth c T0 C X0 e0
  have N0 : Fr Z.heap.size [] := Fr.nil _
  refine Go.aloadN (pc' := 1) C X0 d21_0 rfl rfl rfl ?_
  refine Go.getF (pc' := 4) (host := "") C X0 (Or.inl (tw hw 121 rfl)) Via.refl e0 P1 d21_1 rfl ?_
  intro T101 X101 e101
  refine Go.ifnonnullYes (pc' := 18) C X101 d21_4 (by decide) (by decide) ?_
  refine Go.iconst (z := (0 : Int32)) (pc' := 19) C X101 d21_18 rfl rfl ?_
  exact Go.retN C X101 rfl d21_19 (by simp) (by rw [e101]; exact ⟨rfl, rfl, rfl⟩) (by decide) (by decide)
def Q_ev2 (Z : State) (o : Addr) (n0 : Int32) (sv : Addr) (a2 : Addr) (h0 : Heap) (rv : Option Value) (h : Heap) (L : List Loc) : Prop := rv = none ∧ Fr Z.heap.size L ∧ Keep h0 h [o] ∧ Fld Z h o "com/example/opacheck/opacheck/Event" "invocation" "Lcom/example/opacheck/opacheck/Operation;" .null ∧ Fld Z h o "com/example/opacheck/opacheck/Event" "response" "Lcom/example/opacheck/opacheck/Response;" (.ref a2)
set_option maxRecDepth 65536 in
set_option maxHeartbeats 40000000 in
theorem rm_ev2 (l : Launch) (Z : State) (a0 : Array Value) (hw : ∀ d ∈ tables_1, d.before a0 Z = true) (o : Addr) (n0 : Int32) (sv : Addr) (a2 : Addr) (h0 : Heap) (O0 : Ext Z.heap h0) (E0 : Exa Z h0 o "com/example/opacheck/opacheck/Event") (F1 : Fld Z h0 o "com/example/opacheck/opacheck/Event" "line" "I" (.int (0 : Int32))) (F2 : Fld Z h0 o "com/example/opacheck/opacheck/Event" "transaction" "Ljava/lang/String;" .null) (F3 : Fld Z h0 o "com/example/opacheck/opacheck/Event" "invocation" "Lcom/example/opacheck/opacheck/Operation;" .null) (F4 : Fld Z h0 o "com/example/opacheck/opacheck/Event" "response" "Lcom/example/opacheck/opacheck/Response;" .null) (hn : Z.heap.size ≤ o) (hl : ¬ n0 < (1 : Int32)) :
    Met1W l Z (⟨"com/example/opacheck/opacheck/Event", "<init>", "(ILjava/lang/String;Lcom/example/opacheck/opacheck/Operation;Lcom/example/opacheck/opacheck/Response;)V"⟩ : MethodName) prog_11_method_1_code 5 none ({ frames := 2, cells := 2, slots := 48, locals := 24 } : Room) #[(.ref o), (.int n0), (.ref sv), .null, (.ref a2)] h0 (Q_ev2 Z o n0 sv a2 h0) := by
  refine Met1W.of_body (Ls := #[.val (.ref o), .val (.int n0), .val (.ref sv), .val .null, .val (.ref a2)]) pf_20 (fun m => by first | (simp [entryFrame, mkF, argsToLocals, Value.category]; done) | rfl) ?_
  intro p e s m below meth c T0 C X0 e0
  have N0 : Fr Z.heap.size [] := Fr.nil _
  have Si0 : Sin s s h0 := Sin.start s h0
  refine Go.aloadN (pc' := 1) C X0 d20_0 rfl rfl rfl ?_
  refine Go.callI (y := (⟨"java/lang/Record", "<init>", "()V"⟩ : MethodName)) (a := o) (pc' := 4) C X0 rfl (tw hw 114 rfl) (tw hw 61 rfl) (by decide) (rm_rec l Z a0 hw o h0 O0 ) (tw hw 64 rfl) (tw hw 63 rfl) e0 (argsL := []) (rest := []) (W := 0) rfl rfl pd_7 rfl (Nat.le_of_eq rfl) rfl (by decide) (by decide) (by decide) (by decide) rfl d20_1 rfl ?_
  intro T101 v101 L101 X101 q101
  obtain ⟨rfl, rfl, e101⟩ := q101
  have N101 := Fr.app N0 (Fr.nil _)
  refine Go.aloadN (pc' := 5) C X101 d20_4 rfl rfl rfl ?_
  refine Go.ldcW (pc' := 7) (n := 44) C X101 Si0 (tw hw 115 rfl) (wS hw) e101 (by decide) (by decide) (by decide) (by decide) d20_5 rfl ?_
  intro T102 h102 b102 sC102 C102 X102 e102 Si102 E102
  have O104 : Ext Z.heap h102 := (Ext.trans O0 E102)
  refine Go.callS (y := (⟨"java/util/Objects", "requireNonNull", "(Ljava/lang/Object;Ljava/lang/String;)Ljava/lang/Object;"⟩ : MethodName)) (pc' := 10) C102 X102 (tw hw 116 rfl) (tw hw 70 rfl) (by decide) (rm_rn l Z a0 hw sv b102 h102 O104 ) (tw hw 72 rfl) (tw hw 71 rfl) e102 (argsL := [(.ref sv), (.ref b102)]) (rest := []) (W := 0) rfl rfl pd_8 rfl (Nat.le_of_eq rfl) rfl (by decide) (by decide) (by decide) (by decide) d20_7 rfl ?_
  intro T103 v103 L103 X103 q103
  obtain ⟨rfl, rfl, e103⟩ := q103
  have N103 := Fr.app N101 (Fr.nil _)
  refine Go.pop (pc' := 11) C102 X103 d20_10 rfl rfl ?_
  refine Go.iloadN (pc' := 12) C102 X103 d20_11 rfl rfl ?_
  refine Go.iconst (z := (1 : Int32)) (pc' := 13) C102 X103 d20_12 rfl rfl ?_
  refine Go.icmpYes (pc' := 30) C102 X103 d20_13 (flt (x := n0) (y := (1 : Int32)) hl).2.1 (by decide) (by decide) ?_
  refine Go.aloadN (pc' := 31) C102 X103 d20_30 rfl rfl rfl ?_
  refine Go.iloadN (pc' := 32) C102 X103 d20_31 rfl rfl ?_
  have c107 : Fld Z h102 o "com/example/opacheck/opacheck/Event" "line" "I" (.int (0 : Int32)) := (Fld.ext E102 F1)
  have c108 : Exa Z h102 o "com/example/opacheck/opacheck/Event" := (Exa.ext E102 E0)
  refine Go.putF (pc' := 35) (host := "") (ty := .int) C102 X103 (Or.inl (tw hw 117 rfl)) Via.refl e103 c107 c108 (Or.inr ⟨(tw hw 118 rfl), rfl, rfl⟩) (tw hw 104 rfl) (by decide) rfl rfl d20_32 rfl ?_
  intro T106 h106 X106 e106 W106 F106
  have N106 := Fr.snoc X106 N103 hn
  refine Go.aloadN (pc' := 36) C102 X106 d20_35 rfl rfl rfl ?_
  refine Go.aloadN (pc' := 37) C102 X106 d20_36 rfl rfl rfl ?_
  have c110 : Fld Z h106 o "com/example/opacheck/opacheck/Event" "transaction" "Ljava/lang/String;" .null := (Fld.other W106 (Fld.ext E102 F2) (Or.inr (slot_ne (Or.inr (tw hw 120 rfl)) (Or.inr (tw hw 118 rfl)) (by decide) (t := (.object "java/lang/String")) (t' := .int) (by decide) (by decide))))
  have c111 : Exa Z h106 o "com/example/opacheck/opacheck/Event" := (Exa.wr W106 c108)
  refine Go.putF (pc' := 40) (host := "") (ty := (.object "java/lang/String")) C102 X106 (Or.inl (tw hw 119 rfl)) Via.refl e106 c110 c111 (Or.inr ⟨(tw hw 120 rfl), rfl, rfl⟩) (tw hw 104 rfl) (by decide) rfl rfl d20_37 rfl ?_
  intro T109 h109 X109 e109 W109 F109
  have N109 := Fr.snoc X109 N106 hn
  refine Go.aloadN (pc' := 41) C102 X109 d20_40 rfl rfl rfl ?_
  refine Go.aloadN (pc' := 42) C102 X109 d20_41 rfl rfl rfl ?_
  have c113 : Fld Z h109 o "com/example/opacheck/opacheck/Event" "invocation" "Lcom/example/opacheck/opacheck/Operation;" .null := (Fld.other W109 (Fld.other W106 (Fld.ext E102 F3) (Or.inr (slot_ne (Or.inr (tw hw 122 rfl)) (Or.inr (tw hw 118 rfl)) (by decide) (t := (.object "com/example/opacheck/opacheck/Operation")) (t' := .int) (by decide) (by decide)))) (Or.inr (slot_ne (Or.inr (tw hw 122 rfl)) (Or.inr (tw hw 120 rfl)) (by decide) (t := (.object "com/example/opacheck/opacheck/Operation")) (t' := (.object "java/lang/String")) (by decide) (by decide))))
  have c114 : Exa Z h109 o "com/example/opacheck/opacheck/Event" := (Exa.wr W109 c111)
  refine Go.putF (pc' := 45) (host := "") (ty := (.object "com/example/opacheck/opacheck/Operation")) C102 X109 (Or.inl (tw hw 121 rfl)) Via.refl e109 c113 c114 (Or.inr ⟨(tw hw 122 rfl), rfl, rfl⟩) (tw hw 104 rfl) (by decide) rfl rfl d20_42 rfl ?_
  intro T112 h112 X112 e112 W112 F112
  have N112 := Fr.snoc X112 N109 hn
  refine Go.aloadN (pc' := 46) C102 X112 d20_45 rfl rfl rfl ?_
  refine Go.aload (pc' := 48) C102 X112 d20_46 rfl rfl rfl ?_
  have c116 : Fld Z h112 o "com/example/opacheck/opacheck/Event" "response" "Lcom/example/opacheck/opacheck/Response;" .null := (Fld.other W112 (Fld.other W109 (Fld.other W106 (Fld.ext E102 F4) (Or.inr (slot_ne (Or.inr (tw hw 124 rfl)) (Or.inr (tw hw 118 rfl)) (by decide) (t := (.object "com/example/opacheck/opacheck/Response")) (t' := .int) (by decide) (by decide)))) (Or.inr (slot_ne (Or.inr (tw hw 124 rfl)) (Or.inr (tw hw 120 rfl)) (by decide) (t := (.object "com/example/opacheck/opacheck/Response")) (t' := (.object "java/lang/String")) (by decide) (by decide)))) (Or.inr (slot_ne (Or.inr (tw hw 124 rfl)) (Or.inr (tw hw 122 rfl)) (by decide) (t := (.object "com/example/opacheck/opacheck/Response")) (t' := (.object "com/example/opacheck/opacheck/Operation")) (by decide) (by decide))))
  have c117 : Exa Z h112 o "com/example/opacheck/opacheck/Event" := (Exa.wr W112 c114)
  refine Go.putF (pc' := 51) (host := "") (ty := (.object "com/example/opacheck/opacheck/Response")) C102 X112 (Or.inl (tw hw 123 rfl)) Via.refl e112 c116 c117 (Or.inr ⟨(tw hw 124 rfl), rfl, rfl⟩) (tw hw 104 rfl) (by decide) rfl rfl d20_48 rfl ?_
  intro T115 h115 X115 e115 W115 F115
  have N115 := Fr.snoc X115 N112 hn
  have K118 : Keep h0 h115 [o] := ((((((Keep.refl h0 [o]).ext E102).wr W106 (Or.inl (by simp))).wr W109 (Or.inl (by simp))).wr W112 (Or.inl (by simp))).wr W115 (Or.inl (by simp)))
  have c119 : Fld Z h115 o "com/example/opacheck/opacheck/Event" "invocation" "Lcom/example/opacheck/opacheck/Operation;" .null := (Fld.other W115 F112 (Or.inr (slot_ne (Or.inr (tw hw 122 rfl)) (Or.inr (tw hw 124 rfl)) (by decide) (t := (.object "com/example/opacheck/opacheck/Operation")) (t' := (.object "com/example/opacheck/opacheck/Response")) (by decide) (by decide))))
  have Si120 : Sin s sC102 h115 := Sin.mono Si102 (Nat.le_trans (Nat.le_trans (Nat.le_trans (Nat.le_trans (Nat.le_refl _) (Nat.le_of_eq W106.size.symm)) (Nat.le_of_eq W109.size.symm)) (Nat.le_of_eq W112.size.symm)) (Nat.le_of_eq W115.size.symm))
  exact Go.retVW C102 X115 (by rw [e115]; exact Si120) rfl d20_51 (by rw [e115]; exact ⟨rfl, N115, K118, c119, F115⟩) (by decide) (by decide)
def Q_ib2 (Z : State) (o : Addr) (a2 : Addr) (h0 : Heap) (rv : Option Value) (h : Heap) (L : List Loc) : Prop := rv = some (.int (0 : Int32)) ∧ L = [] ∧ h = h0
set_option maxRecDepth 65536 in
set_option maxHeartbeats 40000000 in
theorem rm_ib2 (l : Launch) (Z : State) (a0 : Array Value) (hw : ∀ d ∈ tables_1, d.before a0 Z = true) (o : Addr) (a2 : Addr) (h0 : Heap) (O0 : Ext Z.heap h0) (P1 : Fld Z h0 o "com/example/opacheck/opacheck/Event" "invocation" "Lcom/example/opacheck/opacheck/Operation;" .null) (P2 : Fld Z h0 o "com/example/opacheck/opacheck/Event" "response" "Lcom/example/opacheck/opacheck/Response;" (.ref a2)) :
    Met1 l Z (⟨"com/example/opacheck/opacheck/Event", "isBegin", "()Z"⟩ : MethodName) prog_11_method_2_code 1 (some .boolean) ({ frames := 0, cells := 0, slots := 0, locals := 0 } : Room) #[(.ref o)] h0 (Q_ib2 Z o a2 h0) := by
  refine Met1.of_body (Ls := #[.val (.ref o)]) pf_21 (fun m => by first | (simp [entryFrame, mkF, argsToLocals, Value.category]; done) | rfl) ?_
  intro p e s m below meth c T0 C X0 e0
  have N0 : Fr Z.heap.size [] := Fr.nil _
  refine Go.aloadN (pc' := 1) C X0 d21_0 rfl rfl rfl ?_
  refine Go.getF (pc' := 4) (host := "") C X0 (Or.inl (tw hw 121 rfl)) Via.refl e0 P1 d21_1 rfl ?_
  intro T101 X101 e101
  refine Go.ifnonnullNo (pc' := 7) C X101 d21_4 rfl ?_
  refine Go.aloadN (pc' := 8) C X101 d21_7 rfl rfl rfl ?_
  refine Go.getF (pc' := 11) (host := "") C X101 (Or.inl (tw hw 123 rfl)) Via.refl e101 P2 d21_8 rfl ?_
  intro T102 X102 e102
  refine Go.ifnonnullYes (pc' := 18) C X102 d21_11 (by decide) (by decide) ?_
  refine Go.iconst (z := (0 : Int32)) (pc' := 19) C X102 d21_18 rfl rfl ?_
  exact Go.retN C X102 rfl d21_19 (by simp) (by rw [e102]; exact ⟨rfl, rfl, rfl⟩) (by decide) (by decide)
def Q_ev3 (Z : State) (o : Addr) (n0 : Int32) (sv : Addr) (a1 : Addr) (a2 : Addr) (h0 : Heap) (rv : Option Value) (h : Heap) (L : List Loc) : Prop := rv = none ∧ Fr Z.heap.size L ∧ Keep h0 h [o] ∧ Fld Z h o "com/example/opacheck/opacheck/Event" "invocation" "Lcom/example/opacheck/opacheck/Operation;" (.ref a1) ∧ Fld Z h o "com/example/opacheck/opacheck/Event" "response" "Lcom/example/opacheck/opacheck/Response;" (.ref a2)
set_option maxRecDepth 65536 in
set_option maxHeartbeats 40000000 in
theorem rm_ev3 (l : Launch) (Z : State) (a0 : Array Value) (hw : ∀ d ∈ tables_1, d.before a0 Z = true) (o : Addr) (n0 : Int32) (sv : Addr) (a1 : Addr) (a2 : Addr) (h0 : Heap) (O0 : Ext Z.heap h0) (E0 : Exa Z h0 o "com/example/opacheck/opacheck/Event") (F1 : Fld Z h0 o "com/example/opacheck/opacheck/Event" "line" "I" (.int (0 : Int32))) (F2 : Fld Z h0 o "com/example/opacheck/opacheck/Event" "transaction" "Ljava/lang/String;" .null) (F3 : Fld Z h0 o "com/example/opacheck/opacheck/Event" "invocation" "Lcom/example/opacheck/opacheck/Operation;" .null) (F4 : Fld Z h0 o "com/example/opacheck/opacheck/Event" "response" "Lcom/example/opacheck/opacheck/Response;" .null) (hn : Z.heap.size ≤ o) (hl : ¬ n0 < (1 : Int32)) :
    Met1W l Z (⟨"com/example/opacheck/opacheck/Event", "<init>", "(ILjava/lang/String;Lcom/example/opacheck/opacheck/Operation;Lcom/example/opacheck/opacheck/Response;)V"⟩ : MethodName) prog_11_method_1_code 5 none ({ frames := 2, cells := 2, slots := 48, locals := 24 } : Room) #[(.ref o), (.int n0), (.ref sv), (.ref a1), (.ref a2)] h0 (Q_ev3 Z o n0 sv a1 a2 h0) := by
  refine Met1W.of_body (Ls := #[.val (.ref o), .val (.int n0), .val (.ref sv), .val (.ref a1), .val (.ref a2)]) pf_20 (fun m => by first | (simp [entryFrame, mkF, argsToLocals, Value.category]; done) | rfl) ?_
  intro p e s m below meth c T0 C X0 e0
  have N0 : Fr Z.heap.size [] := Fr.nil _
  have Si0 : Sin s s h0 := Sin.start s h0
  refine Go.aloadN (pc' := 1) C X0 d20_0 rfl rfl rfl ?_
  refine Go.callI (y := (⟨"java/lang/Record", "<init>", "()V"⟩ : MethodName)) (a := o) (pc' := 4) C X0 rfl (tw hw 114 rfl) (tw hw 61 rfl) (by decide) (rm_rec l Z a0 hw o h0 O0 ) (tw hw 64 rfl) (tw hw 63 rfl) e0 (argsL := []) (rest := []) (W := 0) rfl rfl pd_7 rfl (Nat.le_of_eq rfl) rfl (by decide) (by decide) (by decide) (by decide) rfl d20_1 rfl ?_
  intro T101 v101 L101 X101 q101
  obtain ⟨rfl, rfl, e101⟩ := q101
  have N101 := Fr.app N0 (Fr.nil _)
  refine Go.aloadN (pc' := 5) C X101 d20_4 rfl rfl rfl ?_
  refine Go.ldcW (pc' := 7) (n := 44) C X101 Si0 (tw hw 115 rfl) (wS hw) e101 (by decide) (by decide) (by decide) (by decide) d20_5 rfl ?_
  intro T102 h102 b102 sC102 C102 X102 e102 Si102 E102
  have O104 : Ext Z.heap h102 := (Ext.trans O0 E102)
  refine Go.callS (y := (⟨"java/util/Objects", "requireNonNull", "(Ljava/lang/Object;Ljava/lang/String;)Ljava/lang/Object;"⟩ : MethodName)) (pc' := 10) C102 X102 (tw hw 116 rfl) (tw hw 70 rfl) (by decide) (rm_rn l Z a0 hw sv b102 h102 O104 ) (tw hw 72 rfl) (tw hw 71 rfl) e102 (argsL := [(.ref sv), (.ref b102)]) (rest := []) (W := 0) rfl rfl pd_8 rfl (Nat.le_of_eq rfl) rfl (by decide) (by decide) (by decide) (by decide) d20_7 rfl ?_
  intro T103 v103 L103 X103 q103
  obtain ⟨rfl, rfl, e103⟩ := q103
  have N103 := Fr.app N101 (Fr.nil _)
  refine Go.pop (pc' := 11) C102 X103 d20_10 rfl rfl ?_
  refine Go.iloadN (pc' := 12) C102 X103 d20_11 rfl rfl ?_
  refine Go.iconst (z := (1 : Int32)) (pc' := 13) C102 X103 d20_12 rfl rfl ?_
  refine Go.icmpYes (pc' := 30) C102 X103 d20_13 (flt (x := n0) (y := (1 : Int32)) hl).2.1 (by decide) (by decide) ?_
  refine Go.aloadN (pc' := 31) C102 X103 d20_30 rfl rfl rfl ?_
  refine Go.iloadN (pc' := 32) C102 X103 d20_31 rfl rfl ?_
  have c107 : Fld Z h102 o "com/example/opacheck/opacheck/Event" "line" "I" (.int (0 : Int32)) := (Fld.ext E102 F1)
  have c108 : Exa Z h102 o "com/example/opacheck/opacheck/Event" := (Exa.ext E102 E0)
  refine Go.putF (pc' := 35) (host := "") (ty := .int) C102 X103 (Or.inl (tw hw 117 rfl)) Via.refl e103 c107 c108 (Or.inr ⟨(tw hw 118 rfl), rfl, rfl⟩) (tw hw 104 rfl) (by decide) rfl rfl d20_32 rfl ?_
  intro T106 h106 X106 e106 W106 F106
  have N106 := Fr.snoc X106 N103 hn
  refine Go.aloadN (pc' := 36) C102 X106 d20_35 rfl rfl rfl ?_
  refine Go.aloadN (pc' := 37) C102 X106 d20_36 rfl rfl rfl ?_
  have c110 : Fld Z h106 o "com/example/opacheck/opacheck/Event" "transaction" "Ljava/lang/String;" .null := (Fld.other W106 (Fld.ext E102 F2) (Or.inr (slot_ne (Or.inr (tw hw 120 rfl)) (Or.inr (tw hw 118 rfl)) (by decide) (t := (.object "java/lang/String")) (t' := .int) (by decide) (by decide))))
  have c111 : Exa Z h106 o "com/example/opacheck/opacheck/Event" := (Exa.wr W106 c108)
  refine Go.putF (pc' := 40) (host := "") (ty := (.object "java/lang/String")) C102 X106 (Or.inl (tw hw 119 rfl)) Via.refl e106 c110 c111 (Or.inr ⟨(tw hw 120 rfl), rfl, rfl⟩) (tw hw 104 rfl) (by decide) rfl rfl d20_37 rfl ?_
  intro T109 h109 X109 e109 W109 F109
  have N109 := Fr.snoc X109 N106 hn
  refine Go.aloadN (pc' := 41) C102 X109 d20_40 rfl rfl rfl ?_
  refine Go.aloadN (pc' := 42) C102 X109 d20_41 rfl rfl rfl ?_
  have c113 : Fld Z h109 o "com/example/opacheck/opacheck/Event" "invocation" "Lcom/example/opacheck/opacheck/Operation;" .null := (Fld.other W109 (Fld.other W106 (Fld.ext E102 F3) (Or.inr (slot_ne (Or.inr (tw hw 122 rfl)) (Or.inr (tw hw 118 rfl)) (by decide) (t := (.object "com/example/opacheck/opacheck/Operation")) (t' := .int) (by decide) (by decide)))) (Or.inr (slot_ne (Or.inr (tw hw 122 rfl)) (Or.inr (tw hw 120 rfl)) (by decide) (t := (.object "com/example/opacheck/opacheck/Operation")) (t' := (.object "java/lang/String")) (by decide) (by decide))))
  have c114 : Exa Z h109 o "com/example/opacheck/opacheck/Event" := (Exa.wr W109 c111)
  refine Go.putF (pc' := 45) (host := "") (ty := (.object "com/example/opacheck/opacheck/Operation")) C102 X109 (Or.inl (tw hw 121 rfl)) Via.refl e109 c113 c114 (Or.inr ⟨(tw hw 122 rfl), rfl, rfl⟩) (tw hw 104 rfl) (by decide) rfl rfl d20_42 rfl ?_
  intro T112 h112 X112 e112 W112 F112
  have N112 := Fr.snoc X112 N109 hn
  refine Go.aloadN (pc' := 46) C102 X112 d20_45 rfl rfl rfl ?_
  refine Go.aload (pc' := 48) C102 X112 d20_46 rfl rfl rfl ?_
  have c116 : Fld Z h112 o "com/example/opacheck/opacheck/Event" "response" "Lcom/example/opacheck/opacheck/Response;" .null := (Fld.other W112 (Fld.other W109 (Fld.other W106 (Fld.ext E102 F4) (Or.inr (slot_ne (Or.inr (tw hw 124 rfl)) (Or.inr (tw hw 118 rfl)) (by decide) (t := (.object "com/example/opacheck/opacheck/Response")) (t' := .int) (by decide) (by decide)))) (Or.inr (slot_ne (Or.inr (tw hw 124 rfl)) (Or.inr (tw hw 120 rfl)) (by decide) (t := (.object "com/example/opacheck/opacheck/Response")) (t' := (.object "java/lang/String")) (by decide) (by decide)))) (Or.inr (slot_ne (Or.inr (tw hw 124 rfl)) (Or.inr (tw hw 122 rfl)) (by decide) (t := (.object "com/example/opacheck/opacheck/Response")) (t' := (.object "com/example/opacheck/opacheck/Operation")) (by decide) (by decide))))
  have c117 : Exa Z h112 o "com/example/opacheck/opacheck/Event" := (Exa.wr W112 c114)
  refine Go.putF (pc' := 51) (host := "") (ty := (.object "com/example/opacheck/opacheck/Response")) C102 X112 (Or.inl (tw hw 123 rfl)) Via.refl e112 c116 c117 (Or.inr ⟨(tw hw 124 rfl), rfl, rfl⟩) (tw hw 104 rfl) (by decide) rfl rfl d20_48 rfl ?_
  intro T115 h115 X115 e115 W115 F115
  have N115 := Fr.snoc X115 N112 hn
  have K118 : Keep h0 h115 [o] := ((((((Keep.refl h0 [o]).ext E102).wr W106 (Or.inl (by simp))).wr W109 (Or.inl (by simp))).wr W112 (Or.inl (by simp))).wr W115 (Or.inl (by simp)))
  have c119 : Fld Z h115 o "com/example/opacheck/opacheck/Event" "invocation" "Lcom/example/opacheck/opacheck/Operation;" (.ref a1) := (Fld.other W115 F112 (Or.inr (slot_ne (Or.inr (tw hw 122 rfl)) (Or.inr (tw hw 124 rfl)) (by decide) (t := (.object "com/example/opacheck/opacheck/Operation")) (t' := (.object "com/example/opacheck/opacheck/Response")) (by decide) (by decide))))
  have Si120 : Sin s sC102 h115 := Sin.mono Si102 (Nat.le_trans (Nat.le_trans (Nat.le_trans (Nat.le_trans (Nat.le_refl _) (Nat.le_of_eq W106.size.symm)) (Nat.le_of_eq W109.size.symm)) (Nat.le_of_eq W112.size.symm)) (Nat.le_of_eq W115.size.symm))
  exact Go.retVW C102 X115 (by rw [e115]; exact Si120) rfl d20_51 (by rw [e115]; exact ⟨rfl, N115, K118, c119, F115⟩) (by decide) (by decide)
def Q_ib3 (Z : State) (o : Addr) (a1 : Addr) (a2 : Addr) (h0 : Heap) (rv : Option Value) (h : Heap) (L : List Loc) : Prop := rv = some (.int (0 : Int32)) ∧ L = [] ∧ h = h0
set_option maxRecDepth 65536 in
set_option maxHeartbeats 40000000 in
theorem rm_ib3 (l : Launch) (Z : State) (a0 : Array Value) (hw : ∀ d ∈ tables_1, d.before a0 Z = true) (o : Addr) (a1 : Addr) (a2 : Addr) (h0 : Heap) (O0 : Ext Z.heap h0) (P1 : Fld Z h0 o "com/example/opacheck/opacheck/Event" "invocation" "Lcom/example/opacheck/opacheck/Operation;" (.ref a1)) (P2 : Fld Z h0 o "com/example/opacheck/opacheck/Event" "response" "Lcom/example/opacheck/opacheck/Response;" (.ref a2)) :
    Met1 l Z (⟨"com/example/opacheck/opacheck/Event", "isBegin", "()Z"⟩ : MethodName) prog_11_method_2_code 1 (some .boolean) ({ frames := 0, cells := 0, slots := 0, locals := 0 } : Room) #[(.ref o)] h0 (Q_ib3 Z o a1 a2 h0) := by
  refine Met1.of_body (Ls := #[.val (.ref o)]) pf_21 (fun m => by first | (simp [entryFrame, mkF, argsToLocals, Value.category]; done) | rfl) ?_
  intro p e s m below meth c T0 C X0 e0
  have N0 : Fr Z.heap.size [] := Fr.nil _
  refine Go.aloadN (pc' := 1) C X0 d21_0 rfl rfl rfl ?_
  refine Go.getF (pc' := 4) (host := "") C X0 (Or.inl (tw hw 121 rfl)) Via.refl e0 P1 d21_1 rfl ?_
  intro T101 X101 e101
  refine Go.ifnonnullYes (pc' := 18) C X101 d21_4 (by decide) (by decide) ?_
  refine Go.iconst (z := (0 : Int32)) (pc' := 19) C X101 d21_18 rfl rfl ?_
  exact Go.retN C X101 rfl d21_19 (by simp) (by rw [e101]; exact ⟨rfl, rfl, rfl⟩) (by decide) (by decide)
theorem pd_16 : parseMethodDescriptor "([C)V" = some ⟨[(.array .char)], none⟩ := by decide +kernel
theorem pd_17 : parseMethodDescriptor "(C)Ljava/lang/String;" = some ⟨[.char], some (.object "java/lang/String")⟩ := by decide +kernel
theorem pd_18 : parseMethodDescriptor "(II)I" = some ⟨[.int, .int], some .int⟩ := by decide +kernel
theorem pd_19 : parseMethodDescriptor "(ILjava/lang/String;Lcom/example/opacheck/opacheck/Operation;Lcom/example/opacheck/opacheck/Response;)V" = some ⟨[.int, (.object "java/lang/String"), (.object "com/example/opacheck/opacheck/Operation"), (.object "com/example/opacheck/opacheck/Response")], none⟩ := by decide +kernel
theorem pd_20 : parseMethodDescriptor "()Z" = some ⟨[], some .boolean⟩ := by decide +kernel
theorem pd_21 : parseMethodDescriptor "(ILjava/lang/String;J)Lcom/example/opacheck/opacheck/Operation;" = some ⟨[.int, (.object "java/lang/String"), .long], some (.object "com/example/opacheck/opacheck/Operation")⟩ := by decide +kernel
theorem pd_22 : parseMethodDescriptor "(IJ)Lcom/example/opacheck/opacheck/Response;" = some ⟨[.int, .long], some (.object "com/example/opacheck/opacheck/Response")⟩ := by decide +kernel
theorem pf_0 : plainFor x = true := plainFor_of_name (by first | (simp [plainName, overriddenIn, x]; done) | decide +kernel)
def Q_law (Z : State) (p1 : Int32) (p2 : Int32) (p3 : Int32) (p4 : Int32) (p5 : Int64) (cP : Int32) (rd : Addr) (wr : Addr) (cm : Addr) (va : Addr) (ok : Addr) (ct : Addr) (ab : Addr) (h0 : Heap) (rv : Option Value) (h : Heap) (L : List Loc) : Prop := rv = some (.int (1 : Int32)) ∧ Fr Z.heap.size L ∧ Keep h0 h []
set_option maxRecDepth 65536 in
set_option maxHeartbeats 40000000 in
theorem rm_law (l : Launch) (Z : State) (a0 : Array Value) (hw : ∀ d ∈ tables_1, d.before a0 Z = true) (p1 : Int32) (p2 : Int32) (p3 : Int32) (p4 : Int32) (p5 : Int64) (cP : Int32) (rd : Addr) (wr : Addr) (cm : Addr) (va : Addr) (ok : Addr) (ct : Addr) (ab : Addr) (h0 : Heap) (O0 : Ext Z.heap h0) (SC : Sta Z Z.heap "java/lang/String" "COMPACT_STRINGS" "Z" (.int cP)) (SR : Sta Z Z.heap "com/example/opacheck/opacheck/Operation$Kind" "READ" "Lcom/example/opacheck/opacheck/Operation$Kind;" (.ref rd)) (SW : Sta Z Z.heap "com/example/opacheck/opacheck/Operation$Kind" "WRITE" "Lcom/example/opacheck/opacheck/Operation$Kind;" (.ref wr)) (SM : Sta Z Z.heap "com/example/opacheck/opacheck/Operation$Kind" "COMMIT" "Lcom/example/opacheck/opacheck/Operation$Kind;" (.ref cm)) (S0 : Sta Z Z.heap "com/example/opacheck/opacheck/Response$Kind" "VALUE" "Lcom/example/opacheck/opacheck/Response$Kind;" (.ref va)) (S1 : Sta Z Z.heap "com/example/opacheck/opacheck/Response$Kind" "OK" "Lcom/example/opacheck/opacheck/Response$Kind;" (.ref ok)) (S2 : Sta Z Z.heap "com/example/opacheck/opacheck/Response$Kind" "COMMITTED" "Lcom/example/opacheck/opacheck/Response$Kind;" (.ref ct)) (S3 : Sta Z Z.heap "com/example/opacheck/opacheck/Response$Kind" "ABORTED" "Lcom/example/opacheck/opacheck/Response$Kind;" (.ref ab)) (hP : ¬ cP = (0 : Int32)) (hrc : rd ≠ cm) (hwc : wr ≠ cm) :
    Met1W l Z x code maxLocals ret room_1 #[(.int p1), (.int p2), (.int p3), (.int p4), (.long p5)] h0 (Q_law Z p1 p2 p3 p4 p5 cP rd wr cm va ok ct ab h0) := by
  refine Met1W.of_body (Ls := #[.val (.int p1), .val (.int p2), .val (.int p3), .val (.int p4), .val (.long p5), .second, .unset, .unset, .unset, .unset, .unset, .unset, .unset, .unset, .unset, .unset]) pf_0 (fun m => by first | (simp [entryFrame, mkF, argsToLocals, Value.category, maxLocals]; done) | rfl) ?_
  intro p e s m below meth c T0 C X0 e0
  have N0 : Fr Z.heap.size [] := Fr.nil _
  have Si0 : Sin s s h0 := Sin.start s h0
  refine Go.iloadN (pc' := 1) C X0 at_0 rfl rfl ?_
  refine Go.iconst (z := (3 : Int32)) (pc' := 2) C X0 at_1 rfl rfl ?_
  refine Go.iand (pc' := 3) C X0 at_2 rfl ?_
  refine Go.istore (Ls' := #[.val (.int p1), .val (.int p2), .val (.int p3), .val (.int p4), .val (.long p5), .second, .val (.int (p2 &&& (3 : Int32))), .unset, .unset, .unset, .unset, .unset, .unset, .unset, .unset, .unset]) (pc' := 5) C X0 at_3 rfl rfl ?_
  rcases own_c4 p2 with hl | hl | hl | hl
  · rw [hl]
    refine Go.iloadN (pc' := 6) C X0 at_5 rfl rfl ?_
    refine Go.iconst (z := (2 : Int32)) (pc' := 7) C X0 at_6 rfl rfl ?_
    refine Go.iushr (pc' := 8) C X0 at_7 rfl ?_
    refine Go.sipush (z := (255 : Int32)) (pc' := 11) C X0 at_8 rfl rfl ?_
    refine Go.iand (pc' := 12) C X0 at_11 rfl ?_
    refine Go.iconst (z := (3 : Int32)) (pc' := 13) C X0 at_12 rfl rfl ?_
    refine Go.irem (pc' := 14) C X0 at_13 (by decide) rfl ?_
    refine Go.istore (Ls' := #[.val (.int p1), .val (.int p2), .val (.int p3), .val (.int p4), .val (.long p5), .second, .val (.int (0 : Int32)), .val (.int ((((p2.toUInt32 >>> ((2 : Int32) &&& 31).toUInt32).toInt32) &&& (255 : Int32)) % (3 : Int32))), .unset, .unset, .unset, .unset, .unset, .unset, .unset, .unset]) (pc' := 16) C X0 at_14 rfl rfl ?_
    refine Go.iloadN (pc' := 17) C X0 at_16 rfl rfl ?_
    refine Go.bipush (z := (10 : Int32)) (pc' := 19) C X0 at_17 rfl rfl ?_
    refine Go.iushr (pc' := 20) C X0 at_19 rfl ?_
    refine Go.iconst (z := (3 : Int32)) (pc' := 21) C X0 at_20 rfl rfl ?_
    refine Go.iand (pc' := 22) C X0 at_21 rfl ?_
    refine Go.istore (Ls' := #[.val (.int p1), .val (.int p2), .val (.int p3), .val (.int p4), .val (.long p5), .second, .val (.int (0 : Int32)), .val (.int ((((p2.toUInt32 >>> ((2 : Int32) &&& 31).toUInt32).toInt32) &&& (255 : Int32)) % (3 : Int32))), .val (.int (((p2.toUInt32 >>> ((10 : Int32) &&& 31).toUInt32).toInt32) &&& (3 : Int32))), .unset, .unset, .unset, .unset, .unset, .unset, .unset]) (pc' := 24) C X0 at_22 rfl rfl ?_
    refine Go.iconst (z := (1 : Int32)) (pc' := 25) C X0 at_24 rfl rfl ?_
    refine Go.newP (aty := .char) (cap := 1) (vs := [(.int (0 : Int32))]) (ad := "[C") (pc' := 27) C X0 (by decide) (tw hw 0 rfl) e0 (by decide) (by decide) (by decide) (by decide) (by decide) rfl at_25 rfl ?_
    intro T101 h101 b101 k101 X101 e101 g101 E101 A101 Ea101
    have n_b101 : Z.heap.size ≤ b101 := Nat.le_trans O0.1 (Nat.le_of_eq g101.symm)
    have z_b101 : h0.size ≤ b101 := Nat.le_trans (Nat.le_refl _) (Nat.le_of_eq g101.symm)
    have A101 : AL Z h101 b101 k101 .char [(.int (0 : Int32))] := A101
    refine Go.astore (Ls' := #[.val (.int p1), .val (.int p2), .val (.int p3), .val (.int p4), .val (.long p5), .second, .val (.int (0 : Int32)), .val (.int ((((p2.toUInt32 >>> ((2 : Int32) &&& 31).toUInt32).toInt32) &&& (255 : Int32)) % (3 : Int32))), .val (.int (((p2.toUInt32 >>> ((10 : Int32) &&& 31).toUInt32).toInt32) &&& (3 : Int32))), .val (.ref b101), .unset, .unset, .unset, .unset, .unset, .unset]) (pc' := 29) C X101 at_27 rfl rfl rfl ?_
    refine Go.aload (pc' := 31) C X101 at_29 rfl rfl rfl ?_
    refine Go.iconst (z := (0 : Int32)) (pc' := 32) C X101 at_31 rfl rfl ?_
    refine Go.iloadN (pc' := 33) C X101 at_32 rfl rfl ?_
    refine Go.sipush (z := (255 : Int32)) (pc' := 36) C X101 at_33 rfl rfl ?_
    refine Go.iand (pc' := 37) C X101 at_36 rfl ?_
    refine Go.i2c (pc' := 38) C X101 at_37 rfl ?_
    refine Go.stC (i := 0) (x' := (p3 &&& (255 : Int32))) (vs' := [(.int (p3 &&& (255 : Int32)))]) (pc' := 39) C X101 e101 A101 (by decide) (by decide) (by simp) (own_nar255 _) rfl at_38 rfl ?_
    intro T102 h102 X102 e102 W102 A102
    have N102 := Fr.snoc X102 N0 n_b101
    have O104 : Ext Z.heap h102 := (Ext.wr (Ext.trans O0 E101) W102 n_b101)
    refine Go.newO (pc' := 42) C X102 (tw hw 1 rfl) (tw hw 2 rfl) (tw hw 3 rfl) e102 (by decide) (by decide) at_39 rfl ?_
    intro T103 h103 b103 X103 e103 g103 E103 A103 D103
    have n_b103 : Z.heap.size ≤ b103 := Nat.le_trans O104.1 (Nat.le_of_eq g103.symm)
    have z_b103 : h0.size ≤ b103 := Nat.le_trans (Nat.le_trans (Nat.le_trans (Nat.le_refl _) E101.1) (Nat.le_of_eq W102.size.symm)) (Nat.le_of_eq g103.symm)
    have F103_coder : Fld Z h103 b103 "java/lang/String" "coder" "B" (.int (0 : Int32)) := D103 (Or.inr (tw hw 27 rfl)) (ty := .byte) (by decide)
    have F103_value : Fld Z h103 b103 "java/lang/String" "value" "[B" .null := D103 (Or.inr (tw hw 29 rfl)) (ty := (.array .byte)) (by decide)
    refine Go.dup (pc' := 43) C X103 at_42 rfl rfl ?_
    refine Go.aload (pc' := 45) C X103 at_43 rfl rfl rfl ?_
    have c106 : AL Z h103 b101 k101 .char [(.int (p3 &&& (255 : Int32)))] := (AL.ext E103 A102)
    have O107 : Ext Z.heap h103 := (Ext.trans O104 E103)
    refine Go.callI (y := (⟨"java/lang/String", "<init>", "([C)V"⟩ : MethodName)) (a := b103) (pc' := 48) C X103 rfl (tw hw 4 rfl) (tw hw 5 rfl) (by decide) (rm_sI1 l Z a0 hw b103 b101 k101 ([(p3 &&& (255 : Int32))]) cP h103 O107 A103 F103_value F103_coder (show AL Z h103 b101 k101 .char (ch16 [(p3 &&& (255 : Int32))]) from c106) SC (by intro y hy; simp only [List.mem_cons, List.not_mem_nil, or_false] at hy; rcases hy with rfl; exact own_255 p3) (show (1 : Nat) < 2 ^ 31 from by decide) (show (1 : Nat) ≤ 1 from by decide) (show ¬ (1 : Nat).toInt32 = (0 : Int32) from by decide) hP n_b103) (tw hw 6 rfl) (tw hw 3 rfl) e103 (argsL := [(.ref b101)]) (rest := [(.ref b103)]) (W := 1) rfl rfl pd_16 rfl (Nat.le_of_eq rfl) rfl (by decide) (by decide) (by decide) (by decide) rfl at_45 rfl ?_
    intro T105 v105 L105 X105 q105
    obtain ⟨v_105, kv_105, rfl, N105q, K105, B105_0, P105_0, P105_1, P105_2⟩ := q105
    have N105 := Fr.app N102 N105q
    have n_v_105 : Z.heap.size ≤ v_105 := Nat.le_trans O107.1 B105_0
    have z_v_105 : h0.size ≤ v_105 := Nat.le_trans (Nat.le_trans (Nat.le_trans (Nat.le_trans (Nat.le_refl _) E101.1) (Nat.le_of_eq W102.size.symm)) E103.1) B105_0
    refine Go.astore (Ls' := #[.val (.int p1), .val (.int p2), .val (.int p3), .val (.int p4), .val (.long p5), .second, .val (.int (0 : Int32)), .val (.int ((((p2.toUInt32 >>> ((2 : Int32) &&& 31).toUInt32).toInt32) &&& (255 : Int32)) % (3 : Int32))), .val (.int (((p2.toUInt32 >>> ((10 : Int32) &&& 31).toUInt32).toInt32) &&& (3 : Int32))), .val (.ref b101), .val (.ref b103), .unset, .unset, .unset, .unset, .unset]) (pc' := 50) C X105 at_48 rfl rfl rfl ?_
    refine Go.iloadN (pc' := 51) C X105 at_50 rfl rfl ?_
    refine Go.sipush (z := (255 : Int32)) (pc' := 54) C X105 at_51 rfl rfl ?_
    refine Go.iand (pc' := 55) C X105 at_54 rfl ?_
    refine Go.i2c (pc' := 56) C X105 at_55 rfl ?_
    have O109 : Ext Z.heap T105.heap := (Ext.keep O107 K105 (allS n_b103 all0))
    refine Go.callS (y := (⟨"java/lang/String", "valueOf", "(C)Ljava/lang/String;"⟩ : MethodName)) (pc' := 59) C X105 (tw hw 30 rfl) (tw hw 31 rfl) (by decide) (rm_vc l Z a0 hw (((p4 &&& (255 : Int32)).toUInt32.toUInt16.toUInt32.toInt32)) cP T105.heap O109 SC (own_c255 p4) hP) (tw hw 32 rfl) (tw hw 3 rfl) rfl (argsL := [(.int ((p4 &&& (255 : Int32)).toUInt32.toUInt16.toUInt32.toInt32))]) (rest := []) (W := 0) rfl rfl pd_17 rfl (Nat.le_of_eq rfl) rfl (by decide) (by decide) (by decide) (by decide) at_56 rfl ?_
    intro T108 v108 L108 X108 q108
    obtain ⟨r_108, rfl, N108q, K108, B108_0, P108_0⟩ := q108
    have N108 := Fr.app N105 N108q
    have n_r_108 : Z.heap.size ≤ r_108 := Nat.le_trans O109.1 B108_0
    have z_r_108 : h0.size ≤ r_108 := Nat.le_trans (Nat.le_trans (Nat.le_trans (Nat.le_trans (Nat.le_trans (Nat.le_refl _) E101.1) (Nat.le_of_eq W102.size.symm)) E103.1) K105.1) B108_0
    refine Go.astore (Ls' := #[.val (.int p1), .val (.int p2), .val (.int p3), .val (.int p4), .val (.long p5), .second, .val (.int (0 : Int32)), .val (.int ((((p2.toUInt32 >>> ((2 : Int32) &&& 31).toUInt32).toInt32) &&& (255 : Int32)) % (3 : Int32))), .val (.int (((p2.toUInt32 >>> ((10 : Int32) &&& 31).toUInt32).toInt32) &&& (3 : Int32))), .val (.ref b101), .val (.ref b103), .val (.ref r_108), .unset, .unset, .unset, .unset]) (pc' := 61) C X108 at_59 rfl rfl rfl ?_
    refine Go.aconstNull (pc' := 62) C X108 at_61 rfl ?_
    refine Go.astore (Ls' := #[.val (.int p1), .val (.int p2), .val (.int p3), .val (.int p4), .val (.long p5), .second, .val (.int (0 : Int32)), .val (.int ((((p2.toUInt32 >>> ((2 : Int32) &&& 31).toUInt32).toInt32) &&& (255 : Int32)) % (3 : Int32))), .val (.int (((p2.toUInt32 >>> ((10 : Int32) &&& 31).toUInt32).toInt32) &&& (3 : Int32))), .val (.ref b101), .val (.ref b103), .val (.ref r_108), .val .null, .unset, .unset, .unset]) (pc' := 64) C X108 at_62 rfl rfl rfl ?_
    refine Go.iload (pc' := 66) C X108 at_64 rfl rfl ?_
    refine Go.iconst (z := (1 : Int32)) (pc' := 67) C X108 at_66 rfl rfl ?_
    refine Go.iand (pc' := 68) C X108 at_67 rfl ?_
    rw [show ((0 : Int32) &&& (1 : Int32)) = (0 : Int32) from by decide]
    refine Go.ifYes (pc' := 82) C X108 at_68 ((if0 _ _).trans (teq (x := (0 : Int32)) (y := (0 : Int32)) (by decide)).1) (by decide) (by decide) ?_
    refine Go.aconstNull (pc' := 83) C X108 at_82 rfl ?_
    refine Go.astore (Ls' := #[.val (.int p1), .val (.int p2), .val (.int p3), .val (.int p4), .val (.long p5), .second, .val (.int (0 : Int32)), .val (.int ((((p2.toUInt32 >>> ((2 : Int32) &&& 31).toUInt32).toInt32) &&& (255 : Int32)) % (3 : Int32))), .val (.int (((p2.toUInt32 >>> ((10 : Int32) &&& 31).toUInt32).toInt32) &&& (3 : Int32))), .val (.ref b101), .val (.ref b103), .val (.ref r_108), .val .null, .val .null, .unset, .unset]) (pc' := 85) C X108 at_83 rfl rfl rfl ?_
    refine Go.iload (pc' := 87) C X108 at_85 rfl rfl ?_
    refine Go.iconst (z := (2 : Int32)) (pc' := 88) C X108 at_87 rfl rfl ?_
    refine Go.iand (pc' := 89) C X108 at_88 rfl ?_
    rw [show ((0 : Int32) &&& (2 : Int32)) = (0 : Int32) from by decide]
    refine Go.ifYes (pc' := 101) C X108 at_89 ((if0 _ _).trans (teq (x := (0 : Int32)) (y := (0 : Int32)) (by decide)).1) (by decide) (by decide) ?_
    have O113 : Ext Z.heap T108.heap := (Ext.keep O109 K108 all0)
    refine Go.newO (pc' := 104) C X108 (tw hw 103 rfl) (tw hw 104 rfl) (tw hw 105 rfl) rfl (by decide) (by decide) at_101 rfl ?_
    intro T112 h112 b112 X112 e112 g112 E112 A112 D112
    have n_b112 : Z.heap.size ≤ b112 := Nat.le_trans O113.1 (Nat.le_of_eq g112.symm)
    have z_b112 : h0.size ≤ b112 := Nat.le_trans (Nat.le_trans (Nat.le_trans (Nat.le_trans (Nat.le_trans (Nat.le_trans (Nat.le_refl _) E101.1) (Nat.le_of_eq W102.size.symm)) E103.1) K105.1) K108.1) (Nat.le_of_eq g112.symm)
    have F112_line : Fld Z h112 b112 "com/example/opacheck/opacheck/Event" "line" "I" (.int (0 : Int32)) := D112 (Or.inr (tw hw 118 rfl)) (ty := .int) (by decide)
    have F112_transaction : Fld Z h112 b112 "com/example/opacheck/opacheck/Event" "transaction" "Ljava/lang/String;" .null := D112 (Or.inr (tw hw 120 rfl)) (ty := (.object "java/lang/String")) (by decide)
    have F112_invocation : Fld Z h112 b112 "com/example/opacheck/opacheck/Event" "invocation" "Lcom/example/opacheck/opacheck/Operation;" .null := D112 (Or.inr (tw hw 122 rfl)) (ty := (.object "com/example/opacheck/opacheck/Operation")) (by decide)
    have F112_response : Fld Z h112 b112 "com/example/opacheck/opacheck/Event" "response" "Lcom/example/opacheck/opacheck/Response;" .null := D112 (Or.inr (tw hw 124 rfl)) (ty := (.object "com/example/opacheck/opacheck/Response")) (by decide)
    refine Go.dup (pc' := 105) C X112 at_104 rfl rfl ?_
    refine Go.iconst (z := (1 : Int32)) (pc' := 106) C X112 at_105 rfl rfl ?_
    refine Go.iloadN (pc' := 107) C X112 at_106 rfl rfl ?_
    refine Go.ldcI (pc' := 109) C X112 at_107 (tw hw 106 rfl) rfl ?_
    refine Go.iand (pc' := 110) C X112 at_109 rfl ?_
    have O115 : Ext Z.heap h112 := (Ext.trans O113 E112)
    refine Go.callS (y := (⟨"java/lang/Math", "max", "(II)I"⟩ : MethodName)) (pc' := 113) C X112 (tw hw 107 rfl) (tw hw 108 rfl) (by decide) (rm_mx l Z a0 hw ((p1 &&& (2147483647 : Int32))) h112 O115 ) (tw hw 110 rfl) (tw hw 109 rfl) e112 (argsL := [(.int (1 : Int32)), (.int (p1 &&& (2147483647 : Int32)))]) (rest := [(.ref b112), (.ref b112)]) (W := 2) rfl rfl pd_18 rfl (Nat.le_of_eq rfl) rfl (by decide) (by decide) (by decide) (by decide) at_110 rfl ?_
    intro T114 v114 L114 X114 q114
    obtain ⟨r_114, rfl, rfl, e114, p114_0⟩ := q114
    have N114 := Fr.app N108 (Fr.nil _)
    refine Go.aload (pc' := 115) C X114 at_113 rfl rfl rfl ?_
    refine Go.aload (pc' := 117) C X114 at_115 rfl rfl rfl ?_
    refine Go.aload (pc' := 119) C X114 at_117 rfl rfl rfl ?_
    have Si117 : Sin s s h112 := Sin.mono Si0 (Nat.le_trans (Nat.le_trans (Nat.le_trans (Nat.le_trans (Nat.le_trans (Nat.le_trans (Nat.le_refl _) E101.1) (Nat.le_of_eq W102.size.symm)) E103.1) K105.1) K108.1) E112.1)
    refine Go.callIW (y := (⟨"com/example/opacheck/opacheck/Event", "<init>", "(ILjava/lang/String;Lcom/example/opacheck/opacheck/Operation;Lcom/example/opacheck/opacheck/Response;)V"⟩ : MethodName)) (a := b112) (pc' := 122) C X114 Si117 rfl (tw hw 111 rfl) (tw hw 112 rfl) (by decide) (rm_ev0 l Z a0 hw b112 r_114 b103 h112 O115 A112 F112_line F112_transaction F112_invocation F112_response n_b112 p114_0) (tw hw 113 rfl) (tw hw 105 rfl) e114 (argsL := [(.int r_114), (.ref b103), .null, .null]) (rest := [(.ref b112)]) (W := 1) rfl rfl pd_19 rfl (Nat.le_of_eq rfl) rfl (by decide) (by decide) (by decide) (by decide) rfl at_119 rfl ?_
    intro T116 v116 L116 sC116 C116 X116 Si116 q116
    obtain ⟨rfl, N116q, K116, P116_0, P116_1⟩ := q116
    have N116 := Fr.app N114 N116q
    refine Go.astore (Ls' := #[.val (.int p1), .val (.int p2), .val (.int p3), .val (.int p4), .val (.long p5), .second, .val (.int (0 : Int32)), .val (.int ((((p2.toUInt32 >>> ((2 : Int32) &&& 31).toUInt32).toInt32) &&& (255 : Int32)) % (3 : Int32))), .val (.int (((p2.toUInt32 >>> ((10 : Int32) &&& 31).toUInt32).toInt32) &&& (3 : Int32))), .val (.ref b101), .val (.ref b103), .val (.ref r_108), .val .null, .val .null, .val (.ref b112), .unset]) (pc' := 124) C116 X116 at_122 rfl rfl rfl ?_
    refine Go.iload (pc' := 126) C116 X116 at_124 rfl rfl ?_
    refine Go.ifNo (pc' := 129) C116 X116 at_126 ((if0 _ _).trans (teq (x := (0 : Int32)) (y := (0 : Int32)) (by decide)).2) rfl ?_
    refine Go.iconst (z := (1 : Int32)) (pc' := 130) C116 X116 at_129 rfl rfl ?_
    refine Go.istore (Ls' := #[.val (.int p1), .val (.int p2), .val (.int p3), .val (.int p4), .val (.long p5), .second, .val (.int (0 : Int32)), .val (.int ((((p2.toUInt32 >>> ((2 : Int32) &&& 31).toUInt32).toInt32) &&& (255 : Int32)) % (3 : Int32))), .val (.int (((p2.toUInt32 >>> ((10 : Int32) &&& 31).toUInt32).toInt32) &&& (3 : Int32))), .val (.ref b101), .val (.ref b103), .val (.ref r_108), .val .null, .val .null, .val (.ref b112), .val (.int (1 : Int32))]) (pc' := 132) C116 X116 at_130 rfl rfl ?_
    refine Go.goto (pc' := 162) C116 X116 at_132 (by decide) (by decide) ?_
    refine Go.aload (pc' := 164) C116 X116 at_162 rfl rfl rfl ?_
    have O120 : Ext Z.heap T116.heap := (Ext.keep O115 K116 (allS n_b112 all0))
    have c121 : Exa Z T116.heap b112 "com/example/opacheck/opacheck/Event" := (Exa.keep A112 K116)
    refine Go.callV (y := (⟨"com/example/opacheck/opacheck/Event", "isBegin", "()Z"⟩ : MethodName)) (z := (⟨"com/example/opacheck/opacheck/Event", "isBegin", "()Z"⟩ : MethodName)) (a := b112) (pc' := 167) C116 X116 (tw hw 125 rfl) (tw hw 126 rfl) (notFace_at C116.2.1 (tw hw 128 rfl)) (tw hw 128 rfl) (tw hw 127 rfl) c121 (by decide) (rm_ib0 l Z a0 hw b112 T116.heap O120 P116_0 P116_1) (tw hw 129 rfl) (tw hw 105 rfl) rfl (argsL := []) (rest := []) (W := 0) rfl rfl pd_20 rfl (Nat.le_of_eq rfl) rfl (by decide) (by decide) (by decide) (by decide) at_164 rfl ?_
    intro T119 v119 L119 X119 q119
    obtain ⟨rfl, rfl, e119⟩ := q119
    have N119 := Fr.app N116 (Fr.nil _)
    refine Go.iload (pc' := 169) C116 X119 at_167 rfl rfl ?_
    refine Go.icmpNo (pc' := 172) C116 X119 at_169 (teq (x := (1 : Int32)) (y := (1 : Int32)) (by decide)).2 rfl ?_
    refine Go.iconst (z := (1 : Int32)) (pc' := 173) C116 X119 at_172 rfl rfl ?_
    refine Go.goto (pc' := 177) C116 X119 at_173 (by decide) (by decide) ?_
    have K123 : Keep h0 T116.heap [] := ((((((((Keep.refl h0 []).ext E101).wr W102 (Or.inr z_b101)).ext E103).trans K105 (allS (Or.inr z_b103) all0)).trans K108 all0).ext E112).trans K116 (allS (Or.inr z_b112) all0))
    exact Go.retNW C116 X119 (by rw [e119]; exact Si116) rfl at_177 (by simp) (by rw [e119]; exact ⟨rfl, N119, K123⟩) (by decide) (by decide)
  · rw [hl]
    refine Go.iloadN (pc' := 6) C X0 at_5 rfl rfl ?_
    refine Go.iconst (z := (2 : Int32)) (pc' := 7) C X0 at_6 rfl rfl ?_
    refine Go.iushr (pc' := 8) C X0 at_7 rfl ?_
    refine Go.sipush (z := (255 : Int32)) (pc' := 11) C X0 at_8 rfl rfl ?_
    refine Go.iand (pc' := 12) C X0 at_11 rfl ?_
    refine Go.iconst (z := (3 : Int32)) (pc' := 13) C X0 at_12 rfl rfl ?_
    refine Go.irem (pc' := 14) C X0 at_13 (by decide) rfl ?_
    refine Go.istore (Ls' := #[.val (.int p1), .val (.int p2), .val (.int p3), .val (.int p4), .val (.long p5), .second, .val (.int (1 : Int32)), .val (.int ((((p2.toUInt32 >>> ((2 : Int32) &&& 31).toUInt32).toInt32) &&& (255 : Int32)) % (3 : Int32))), .unset, .unset, .unset, .unset, .unset, .unset, .unset, .unset]) (pc' := 16) C X0 at_14 rfl rfl ?_
    refine Go.iloadN (pc' := 17) C X0 at_16 rfl rfl ?_
    refine Go.bipush (z := (10 : Int32)) (pc' := 19) C X0 at_17 rfl rfl ?_
    refine Go.iushr (pc' := 20) C X0 at_19 rfl ?_
    refine Go.iconst (z := (3 : Int32)) (pc' := 21) C X0 at_20 rfl rfl ?_
    refine Go.iand (pc' := 22) C X0 at_21 rfl ?_
    refine Go.istore (Ls' := #[.val (.int p1), .val (.int p2), .val (.int p3), .val (.int p4), .val (.long p5), .second, .val (.int (1 : Int32)), .val (.int ((((p2.toUInt32 >>> ((2 : Int32) &&& 31).toUInt32).toInt32) &&& (255 : Int32)) % (3 : Int32))), .val (.int (((p2.toUInt32 >>> ((10 : Int32) &&& 31).toUInt32).toInt32) &&& (3 : Int32))), .unset, .unset, .unset, .unset, .unset, .unset, .unset]) (pc' := 24) C X0 at_22 rfl rfl ?_
    refine Go.iconst (z := (1 : Int32)) (pc' := 25) C X0 at_24 rfl rfl ?_
    refine Go.newP (aty := .char) (cap := 1) (vs := [(.int (0 : Int32))]) (ad := "[C") (pc' := 27) C X0 (by decide) (tw hw 0 rfl) e0 (by decide) (by decide) (by decide) (by decide) (by decide) rfl at_25 rfl ?_
    intro T124 h124 b124 k124 X124 e124 g124 E124 A124 Ea124
    have n_b124 : Z.heap.size ≤ b124 := Nat.le_trans O0.1 (Nat.le_of_eq g124.symm)
    have z_b124 : h0.size ≤ b124 := Nat.le_trans (Nat.le_refl _) (Nat.le_of_eq g124.symm)
    have A124 : AL Z h124 b124 k124 .char [(.int (0 : Int32))] := A124
    refine Go.astore (Ls' := #[.val (.int p1), .val (.int p2), .val (.int p3), .val (.int p4), .val (.long p5), .second, .val (.int (1 : Int32)), .val (.int ((((p2.toUInt32 >>> ((2 : Int32) &&& 31).toUInt32).toInt32) &&& (255 : Int32)) % (3 : Int32))), .val (.int (((p2.toUInt32 >>> ((10 : Int32) &&& 31).toUInt32).toInt32) &&& (3 : Int32))), .val (.ref b124), .unset, .unset, .unset, .unset, .unset, .unset]) (pc' := 29) C X124 at_27 rfl rfl rfl ?_
    refine Go.aload (pc' := 31) C X124 at_29 rfl rfl rfl ?_
    refine Go.iconst (z := (0 : Int32)) (pc' := 32) C X124 at_31 rfl rfl ?_
    refine Go.iloadN (pc' := 33) C X124 at_32 rfl rfl ?_
    refine Go.sipush (z := (255 : Int32)) (pc' := 36) C X124 at_33 rfl rfl ?_
    refine Go.iand (pc' := 37) C X124 at_36 rfl ?_
    refine Go.i2c (pc' := 38) C X124 at_37 rfl ?_
    refine Go.stC (i := 0) (x' := (p3 &&& (255 : Int32))) (vs' := [(.int (p3 &&& (255 : Int32)))]) (pc' := 39) C X124 e124 A124 (by decide) (by decide) (by simp) (own_nar255 _) rfl at_38 rfl ?_
    intro T125 h125 X125 e125 W125 A125
    have N125 := Fr.snoc X125 N0 n_b124
    have O127 : Ext Z.heap h125 := (Ext.wr (Ext.trans O0 E124) W125 n_b124)
    refine Go.newO (pc' := 42) C X125 (tw hw 1 rfl) (tw hw 2 rfl) (tw hw 3 rfl) e125 (by decide) (by decide) at_39 rfl ?_
    intro T126 h126 b126 X126 e126 g126 E126 A126 D126
    have n_b126 : Z.heap.size ≤ b126 := Nat.le_trans O127.1 (Nat.le_of_eq g126.symm)
    have z_b126 : h0.size ≤ b126 := Nat.le_trans (Nat.le_trans (Nat.le_trans (Nat.le_refl _) E124.1) (Nat.le_of_eq W125.size.symm)) (Nat.le_of_eq g126.symm)
    have F126_coder : Fld Z h126 b126 "java/lang/String" "coder" "B" (.int (0 : Int32)) := D126 (Or.inr (tw hw 27 rfl)) (ty := .byte) (by decide)
    have F126_value : Fld Z h126 b126 "java/lang/String" "value" "[B" .null := D126 (Or.inr (tw hw 29 rfl)) (ty := (.array .byte)) (by decide)
    refine Go.dup (pc' := 43) C X126 at_42 rfl rfl ?_
    refine Go.aload (pc' := 45) C X126 at_43 rfl rfl rfl ?_
    have c129 : AL Z h126 b124 k124 .char [(.int (p3 &&& (255 : Int32)))] := (AL.ext E126 A125)
    have O130 : Ext Z.heap h126 := (Ext.trans O127 E126)
    refine Go.callI (y := (⟨"java/lang/String", "<init>", "([C)V"⟩ : MethodName)) (a := b126) (pc' := 48) C X126 rfl (tw hw 4 rfl) (tw hw 5 rfl) (by decide) (rm_sI1 l Z a0 hw b126 b124 k124 ([(p3 &&& (255 : Int32))]) cP h126 O130 A126 F126_value F126_coder (show AL Z h126 b124 k124 .char (ch16 [(p3 &&& (255 : Int32))]) from c129) SC (by intro y hy; simp only [List.mem_cons, List.not_mem_nil, or_false] at hy; rcases hy with rfl; exact own_255 p3) (show (1 : Nat) < 2 ^ 31 from by decide) (show (1 : Nat) ≤ 1 from by decide) (show ¬ (1 : Nat).toInt32 = (0 : Int32) from by decide) hP n_b126) (tw hw 6 rfl) (tw hw 3 rfl) e126 (argsL := [(.ref b124)]) (rest := [(.ref b126)]) (W := 1) rfl rfl pd_16 rfl (Nat.le_of_eq rfl) rfl (by decide) (by decide) (by decide) (by decide) rfl at_45 rfl ?_
    intro T128 v128 L128 X128 q128
    obtain ⟨v_128, kv_128, rfl, N128q, K128, B128_0, P128_0, P128_1, P128_2⟩ := q128
    have N128 := Fr.app N125 N128q
    have n_v_128 : Z.heap.size ≤ v_128 := Nat.le_trans O130.1 B128_0
    have z_v_128 : h0.size ≤ v_128 := Nat.le_trans (Nat.le_trans (Nat.le_trans (Nat.le_trans (Nat.le_refl _) E124.1) (Nat.le_of_eq W125.size.symm)) E126.1) B128_0
    refine Go.astore (Ls' := #[.val (.int p1), .val (.int p2), .val (.int p3), .val (.int p4), .val (.long p5), .second, .val (.int (1 : Int32)), .val (.int ((((p2.toUInt32 >>> ((2 : Int32) &&& 31).toUInt32).toInt32) &&& (255 : Int32)) % (3 : Int32))), .val (.int (((p2.toUInt32 >>> ((10 : Int32) &&& 31).toUInt32).toInt32) &&& (3 : Int32))), .val (.ref b124), .val (.ref b126), .unset, .unset, .unset, .unset, .unset]) (pc' := 50) C X128 at_48 rfl rfl rfl ?_
    refine Go.iloadN (pc' := 51) C X128 at_50 rfl rfl ?_
    refine Go.sipush (z := (255 : Int32)) (pc' := 54) C X128 at_51 rfl rfl ?_
    refine Go.iand (pc' := 55) C X128 at_54 rfl ?_
    refine Go.i2c (pc' := 56) C X128 at_55 rfl ?_
    have O132 : Ext Z.heap T128.heap := (Ext.keep O130 K128 (allS n_b126 all0))
    refine Go.callS (y := (⟨"java/lang/String", "valueOf", "(C)Ljava/lang/String;"⟩ : MethodName)) (pc' := 59) C X128 (tw hw 30 rfl) (tw hw 31 rfl) (by decide) (rm_vc l Z a0 hw (((p4 &&& (255 : Int32)).toUInt32.toUInt16.toUInt32.toInt32)) cP T128.heap O132 SC (own_c255 p4) hP) (tw hw 32 rfl) (tw hw 3 rfl) rfl (argsL := [(.int ((p4 &&& (255 : Int32)).toUInt32.toUInt16.toUInt32.toInt32))]) (rest := []) (W := 0) rfl rfl pd_17 rfl (Nat.le_of_eq rfl) rfl (by decide) (by decide) (by decide) (by decide) at_56 rfl ?_
    intro T131 v131 L131 X131 q131
    obtain ⟨r_131, rfl, N131q, K131, B131_0, P131_0⟩ := q131
    have N131 := Fr.app N128 N131q
    have n_r_131 : Z.heap.size ≤ r_131 := Nat.le_trans O132.1 B131_0
    have z_r_131 : h0.size ≤ r_131 := Nat.le_trans (Nat.le_trans (Nat.le_trans (Nat.le_trans (Nat.le_trans (Nat.le_refl _) E124.1) (Nat.le_of_eq W125.size.symm)) E126.1) K128.1) B131_0
    refine Go.astore (Ls' := #[.val (.int p1), .val (.int p2), .val (.int p3), .val (.int p4), .val (.long p5), .second, .val (.int (1 : Int32)), .val (.int ((((p2.toUInt32 >>> ((2 : Int32) &&& 31).toUInt32).toInt32) &&& (255 : Int32)) % (3 : Int32))), .val (.int (((p2.toUInt32 >>> ((10 : Int32) &&& 31).toUInt32).toInt32) &&& (3 : Int32))), .val (.ref b124), .val (.ref b126), .val (.ref r_131), .unset, .unset, .unset, .unset]) (pc' := 61) C X131 at_59 rfl rfl rfl ?_
    refine Go.aconstNull (pc' := 62) C X131 at_61 rfl ?_
    refine Go.astore (Ls' := #[.val (.int p1), .val (.int p2), .val (.int p3), .val (.int p4), .val (.long p5), .second, .val (.int (1 : Int32)), .val (.int ((((p2.toUInt32 >>> ((2 : Int32) &&& 31).toUInt32).toInt32) &&& (255 : Int32)) % (3 : Int32))), .val (.int (((p2.toUInt32 >>> ((10 : Int32) &&& 31).toUInt32).toInt32) &&& (3 : Int32))), .val (.ref b124), .val (.ref b126), .val (.ref r_131), .val .null, .unset, .unset, .unset]) (pc' := 64) C X131 at_62 rfl rfl rfl ?_
    refine Go.iload (pc' := 66) C X131 at_64 rfl rfl ?_
    refine Go.iconst (z := (1 : Int32)) (pc' := 67) C X131 at_66 rfl rfl ?_
    refine Go.iand (pc' := 68) C X131 at_67 rfl ?_
    rw [show ((1 : Int32) &&& (1 : Int32)) = (1 : Int32) from by decide]
    refine Go.ifNo (pc' := 71) C X131 at_68 ((if0 _ _).trans (feq (x := (1 : Int32)) (y := (0 : Int32)) (by decide)).1) rfl ?_
    refine Go.iload (pc' := 73) C X131 at_71 rfl rfl ?_
    refine Go.aload (pc' := 75) C X131 at_73 rfl rfl rfl ?_
    refine Go.lload (pc' := 77) C X131 at_75 rfl rfl ?_
    have O135 : Ext Z.heap T131.heap := (Ext.keep O132 K131 all0)
    have Si136 : Sin s s T131.heap := Sin.mono Si0 (Nat.le_trans (Nat.le_trans (Nat.le_trans (Nat.le_trans (Nat.le_trans (Nat.le_refl _) E124.1) (Nat.le_of_eq W125.size.symm)) E126.1) K128.1) K131.1)
    refine Go.callSW (y := (⟨"com/example/opacheck/opacheck/EventIsBeginPinLaw", "makeOperation", "(ILjava/lang/String;J)Lcom/example/opacheck/opacheck/Operation;"⟩ : MethodName)) (pc' := 80) C X131 Si136 (tw hw 44 rfl) (tw hw 45 rfl) (by decide) (rm_mo l Z a0 hw (((((p2.toUInt32 >>> ((2 : Int32) &&& 31).toUInt32).toInt32) &&& (255 : Int32)) % (3 : Int32))) r_131 p5 rd wr cm T131.heap O135 SR SW SM hrc hwc) (tw hw 47 rfl) (tw hw 46 rfl) rfl (argsL := [(.int ((((p2.toUInt32 >>> ((2 : Int32) &&& 31).toUInt32).toInt32) &&& (255 : Int32)) % (3 : Int32))), (.ref r_131), (.long p5)]) (rest := []) (W := 0) rfl rfl pd_21 rfl (Nat.le_of_eq rfl) rfl (by decide) (by decide) (by decide) (by decide) at_77 rfl ?_
    intro T134 v134 L134 sC134 C134 X134 Si134 q134
    obtain ⟨o_134, rfl, N134q, K134, B134_0⟩ := q134
    have N134 := Fr.app N131 N134q
    have n_o_134 : Z.heap.size ≤ o_134 := Nat.le_trans O135.1 B134_0
    have z_o_134 : h0.size ≤ o_134 := Nat.le_trans (Nat.le_trans (Nat.le_trans (Nat.le_trans (Nat.le_trans (Nat.le_trans (Nat.le_refl _) E124.1) (Nat.le_of_eq W125.size.symm)) E126.1) K128.1) K131.1) B134_0
    refine Go.astore (Ls' := #[.val (.int p1), .val (.int p2), .val (.int p3), .val (.int p4), .val (.long p5), .second, .val (.int (1 : Int32)), .val (.int ((((p2.toUInt32 >>> ((2 : Int32) &&& 31).toUInt32).toInt32) &&& (255 : Int32)) % (3 : Int32))), .val (.int (((p2.toUInt32 >>> ((10 : Int32) &&& 31).toUInt32).toInt32) &&& (3 : Int32))), .val (.ref b124), .val (.ref b126), .val (.ref r_131), .val (.ref o_134), .unset, .unset, .unset]) (pc' := 82) C134 X134 at_80 rfl rfl rfl ?_
    refine Go.aconstNull (pc' := 83) C134 X134 at_82 rfl ?_
    refine Go.astore (Ls' := #[.val (.int p1), .val (.int p2), .val (.int p3), .val (.int p4), .val (.long p5), .second, .val (.int (1 : Int32)), .val (.int ((((p2.toUInt32 >>> ((2 : Int32) &&& 31).toUInt32).toInt32) &&& (255 : Int32)) % (3 : Int32))), .val (.int (((p2.toUInt32 >>> ((10 : Int32) &&& 31).toUInt32).toInt32) &&& (3 : Int32))), .val (.ref b124), .val (.ref b126), .val (.ref r_131), .val (.ref o_134), .val .null, .unset, .unset]) (pc' := 85) C134 X134 at_83 rfl rfl rfl ?_
    refine Go.iload (pc' := 87) C134 X134 at_85 rfl rfl ?_
    refine Go.iconst (z := (2 : Int32)) (pc' := 88) C134 X134 at_87 rfl rfl ?_
    refine Go.iand (pc' := 89) C134 X134 at_88 rfl ?_
    rw [show ((1 : Int32) &&& (2 : Int32)) = (0 : Int32) from by decide]
    refine Go.ifYes (pc' := 101) C134 X134 at_89 ((if0 _ _).trans (teq (x := (0 : Int32)) (y := (0 : Int32)) (by decide)).1) (by decide) (by decide) ?_
    have O139 : Ext Z.heap T134.heap := (Ext.keep O135 K134 all0)
    refine Go.newO (pc' := 104) C134 X134 (tw hw 103 rfl) (tw hw 104 rfl) (tw hw 105 rfl) rfl (by decide) (by decide) at_101 rfl ?_
    intro T138 h138 b138 X138 e138 g138 E138 A138 D138
    have n_b138 : Z.heap.size ≤ b138 := Nat.le_trans O139.1 (Nat.le_of_eq g138.symm)
    have z_b138 : h0.size ≤ b138 := Nat.le_trans (Nat.le_trans (Nat.le_trans (Nat.le_trans (Nat.le_trans (Nat.le_trans (Nat.le_trans (Nat.le_refl _) E124.1) (Nat.le_of_eq W125.size.symm)) E126.1) K128.1) K131.1) K134.1) (Nat.le_of_eq g138.symm)
    have F138_line : Fld Z h138 b138 "com/example/opacheck/opacheck/Event" "line" "I" (.int (0 : Int32)) := D138 (Or.inr (tw hw 118 rfl)) (ty := .int) (by decide)
    have F138_transaction : Fld Z h138 b138 "com/example/opacheck/opacheck/Event" "transaction" "Ljava/lang/String;" .null := D138 (Or.inr (tw hw 120 rfl)) (ty := (.object "java/lang/String")) (by decide)
    have F138_invocation : Fld Z h138 b138 "com/example/opacheck/opacheck/Event" "invocation" "Lcom/example/opacheck/opacheck/Operation;" .null := D138 (Or.inr (tw hw 122 rfl)) (ty := (.object "com/example/opacheck/opacheck/Operation")) (by decide)
    have F138_response : Fld Z h138 b138 "com/example/opacheck/opacheck/Event" "response" "Lcom/example/opacheck/opacheck/Response;" .null := D138 (Or.inr (tw hw 124 rfl)) (ty := (.object "com/example/opacheck/opacheck/Response")) (by decide)
    refine Go.dup (pc' := 105) C134 X138 at_104 rfl rfl ?_
    refine Go.iconst (z := (1 : Int32)) (pc' := 106) C134 X138 at_105 rfl rfl ?_
    refine Go.iloadN (pc' := 107) C134 X138 at_106 rfl rfl ?_
    refine Go.ldcI (pc' := 109) C134 X138 at_107 (tw hw 106 rfl) rfl ?_
    refine Go.iand (pc' := 110) C134 X138 at_109 rfl ?_
    have O141 : Ext Z.heap h138 := (Ext.trans O139 E138)
    refine Go.callS (y := (⟨"java/lang/Math", "max", "(II)I"⟩ : MethodName)) (pc' := 113) C134 X138 (tw hw 107 rfl) (tw hw 108 rfl) (by decide) (rm_mx l Z a0 hw ((p1 &&& (2147483647 : Int32))) h138 O141 ) (tw hw 110 rfl) (tw hw 109 rfl) e138 (argsL := [(.int (1 : Int32)), (.int (p1 &&& (2147483647 : Int32)))]) (rest := [(.ref b138), (.ref b138)]) (W := 2) rfl rfl pd_18 rfl (Nat.le_of_eq rfl) rfl (by decide) (by decide) (by decide) (by decide) at_110 rfl ?_
    intro T140 v140 L140 X140 q140
    obtain ⟨r_140, rfl, rfl, e140, p140_0⟩ := q140
    have N140 := Fr.app N134 (Fr.nil _)
    refine Go.aload (pc' := 115) C134 X140 at_113 rfl rfl rfl ?_
    refine Go.aload (pc' := 117) C134 X140 at_115 rfl rfl rfl ?_
    refine Go.aload (pc' := 119) C134 X140 at_117 rfl rfl rfl ?_
    have Si143 : Sin s sC134 h138 := Sin.mono Si134 (Nat.le_trans (Nat.le_refl _) E138.1)
    refine Go.callIW (y := (⟨"com/example/opacheck/opacheck/Event", "<init>", "(ILjava/lang/String;Lcom/example/opacheck/opacheck/Operation;Lcom/example/opacheck/opacheck/Response;)V"⟩ : MethodName)) (a := b138) (pc' := 122) C134 X140 Si143 rfl (tw hw 111 rfl) (tw hw 112 rfl) (by decide) (rm_ev1 l Z a0 hw b138 r_140 b126 o_134 h138 O141 A138 F138_line F138_transaction F138_invocation F138_response n_b138 p140_0) (tw hw 113 rfl) (tw hw 105 rfl) e140 (argsL := [(.int r_140), (.ref b126), (.ref o_134), .null]) (rest := [(.ref b138)]) (W := 1) rfl rfl pd_19 rfl (Nat.le_of_eq rfl) rfl (by decide) (by decide) (by decide) (by decide) rfl at_119 rfl ?_
    intro T142 v142 L142 sC142 C142 X142 Si142 q142
    obtain ⟨rfl, N142q, K142, P142_0, P142_1⟩ := q142
    have N142 := Fr.app N140 N142q
    refine Go.astore (Ls' := #[.val (.int p1), .val (.int p2), .val (.int p3), .val (.int p4), .val (.long p5), .second, .val (.int (1 : Int32)), .val (.int ((((p2.toUInt32 >>> ((2 : Int32) &&& 31).toUInt32).toInt32) &&& (255 : Int32)) % (3 : Int32))), .val (.int (((p2.toUInt32 >>> ((10 : Int32) &&& 31).toUInt32).toInt32) &&& (3 : Int32))), .val (.ref b124), .val (.ref b126), .val (.ref r_131), .val (.ref o_134), .val .null, .val (.ref b138), .unset]) (pc' := 124) C142 X142 at_122 rfl rfl rfl ?_
    refine Go.iload (pc' := 126) C142 X142 at_124 rfl rfl ?_
    refine Go.ifYes (pc' := 135) C142 X142 at_126 ((if0 _ _).trans (feq (x := (1 : Int32)) (y := (0 : Int32)) (by decide)).2) (by decide) (by decide) ?_
    refine Go.iload (pc' := 137) C142 X142 at_135 rfl rfl ?_
    refine Go.iconst (z := (1 : Int32)) (pc' := 138) C142 X142 at_137 rfl rfl ?_
    refine Go.icmpNo (pc' := 141) C142 X142 at_138 (teq (x := (1 : Int32)) (y := (1 : Int32)) (by decide)).2 rfl ?_
    refine Go.iconst (z := (0 : Int32)) (pc' := 142) C142 X142 at_141 rfl rfl ?_
    refine Go.istore (Ls' := #[.val (.int p1), .val (.int p2), .val (.int p3), .val (.int p4), .val (.long p5), .second, .val (.int (1 : Int32)), .val (.int ((((p2.toUInt32 >>> ((2 : Int32) &&& 31).toUInt32).toInt32) &&& (255 : Int32)) % (3 : Int32))), .val (.int (((p2.toUInt32 >>> ((10 : Int32) &&& 31).toUInt32).toInt32) &&& (3 : Int32))), .val (.ref b124), .val (.ref b126), .val (.ref r_131), .val (.ref o_134), .val .null, .val (.ref b138), .val (.int (0 : Int32))]) (pc' := 144) C142 X142 at_142 rfl rfl ?_
    refine Go.goto (pc' := 162) C142 X142 at_144 (by decide) (by decide) ?_
    refine Go.aload (pc' := 164) C142 X142 at_162 rfl rfl rfl ?_
    have O147 : Ext Z.heap T142.heap := (Ext.keep O141 K142 (allS n_b138 all0))
    have c148 : Exa Z T142.heap b138 "com/example/opacheck/opacheck/Event" := (Exa.keep A138 K142)
    refine Go.callV (y := (⟨"com/example/opacheck/opacheck/Event", "isBegin", "()Z"⟩ : MethodName)) (z := (⟨"com/example/opacheck/opacheck/Event", "isBegin", "()Z"⟩ : MethodName)) (a := b138) (pc' := 167) C142 X142 (tw hw 125 rfl) (tw hw 126 rfl) (notFace_at C142.2.1 (tw hw 128 rfl)) (tw hw 128 rfl) (tw hw 127 rfl) c148 (by decide) (rm_ib1 l Z a0 hw b138 o_134 T142.heap O147 P142_0 P142_1) (tw hw 129 rfl) (tw hw 105 rfl) rfl (argsL := []) (rest := []) (W := 0) rfl rfl pd_20 rfl (Nat.le_of_eq rfl) rfl (by decide) (by decide) (by decide) (by decide) at_164 rfl ?_
    intro T146 v146 L146 X146 q146
    obtain ⟨rfl, rfl, e146⟩ := q146
    have N146 := Fr.app N142 (Fr.nil _)
    refine Go.iload (pc' := 169) C142 X146 at_167 rfl rfl ?_
    refine Go.icmpNo (pc' := 172) C142 X146 at_169 (teq (x := (0 : Int32)) (y := (0 : Int32)) (by decide)).2 rfl ?_
    refine Go.iconst (z := (1 : Int32)) (pc' := 173) C142 X146 at_172 rfl rfl ?_
    refine Go.goto (pc' := 177) C142 X146 at_173 (by decide) (by decide) ?_
    have K150 : Keep h0 T142.heap [] := (((((((((Keep.refl h0 []).ext E124).wr W125 (Or.inr z_b124)).ext E126).trans K128 (allS (Or.inr z_b126) all0)).trans K131 all0).trans K134 all0).ext E138).trans K142 (allS (Or.inr z_b138) all0))
    exact Go.retNW C142 X146 (by rw [e146]; exact Si142) rfl at_177 (by simp) (by rw [e146]; exact ⟨rfl, N146, K150⟩) (by decide) (by decide)
  · rw [hl]
    refine Go.iloadN (pc' := 6) C X0 at_5 rfl rfl ?_
    refine Go.iconst (z := (2 : Int32)) (pc' := 7) C X0 at_6 rfl rfl ?_
    refine Go.iushr (pc' := 8) C X0 at_7 rfl ?_
    refine Go.sipush (z := (255 : Int32)) (pc' := 11) C X0 at_8 rfl rfl ?_
    refine Go.iand (pc' := 12) C X0 at_11 rfl ?_
    refine Go.iconst (z := (3 : Int32)) (pc' := 13) C X0 at_12 rfl rfl ?_
    refine Go.irem (pc' := 14) C X0 at_13 (by decide) rfl ?_
    refine Go.istore (Ls' := #[.val (.int p1), .val (.int p2), .val (.int p3), .val (.int p4), .val (.long p5), .second, .val (.int (2 : Int32)), .val (.int ((((p2.toUInt32 >>> ((2 : Int32) &&& 31).toUInt32).toInt32) &&& (255 : Int32)) % (3 : Int32))), .unset, .unset, .unset, .unset, .unset, .unset, .unset, .unset]) (pc' := 16) C X0 at_14 rfl rfl ?_
    refine Go.iloadN (pc' := 17) C X0 at_16 rfl rfl ?_
    refine Go.bipush (z := (10 : Int32)) (pc' := 19) C X0 at_17 rfl rfl ?_
    refine Go.iushr (pc' := 20) C X0 at_19 rfl ?_
    refine Go.iconst (z := (3 : Int32)) (pc' := 21) C X0 at_20 rfl rfl ?_
    refine Go.iand (pc' := 22) C X0 at_21 rfl ?_
    refine Go.istore (Ls' := #[.val (.int p1), .val (.int p2), .val (.int p3), .val (.int p4), .val (.long p5), .second, .val (.int (2 : Int32)), .val (.int ((((p2.toUInt32 >>> ((2 : Int32) &&& 31).toUInt32).toInt32) &&& (255 : Int32)) % (3 : Int32))), .val (.int (((p2.toUInt32 >>> ((10 : Int32) &&& 31).toUInt32).toInt32) &&& (3 : Int32))), .unset, .unset, .unset, .unset, .unset, .unset, .unset]) (pc' := 24) C X0 at_22 rfl rfl ?_
    refine Go.iconst (z := (1 : Int32)) (pc' := 25) C X0 at_24 rfl rfl ?_
    refine Go.newP (aty := .char) (cap := 1) (vs := [(.int (0 : Int32))]) (ad := "[C") (pc' := 27) C X0 (by decide) (tw hw 0 rfl) e0 (by decide) (by decide) (by decide) (by decide) (by decide) rfl at_25 rfl ?_
    intro T151 h151 b151 k151 X151 e151 g151 E151 A151 Ea151
    have n_b151 : Z.heap.size ≤ b151 := Nat.le_trans O0.1 (Nat.le_of_eq g151.symm)
    have z_b151 : h0.size ≤ b151 := Nat.le_trans (Nat.le_refl _) (Nat.le_of_eq g151.symm)
    have A151 : AL Z h151 b151 k151 .char [(.int (0 : Int32))] := A151
    refine Go.astore (Ls' := #[.val (.int p1), .val (.int p2), .val (.int p3), .val (.int p4), .val (.long p5), .second, .val (.int (2 : Int32)), .val (.int ((((p2.toUInt32 >>> ((2 : Int32) &&& 31).toUInt32).toInt32) &&& (255 : Int32)) % (3 : Int32))), .val (.int (((p2.toUInt32 >>> ((10 : Int32) &&& 31).toUInt32).toInt32) &&& (3 : Int32))), .val (.ref b151), .unset, .unset, .unset, .unset, .unset, .unset]) (pc' := 29) C X151 at_27 rfl rfl rfl ?_
    refine Go.aload (pc' := 31) C X151 at_29 rfl rfl rfl ?_
    refine Go.iconst (z := (0 : Int32)) (pc' := 32) C X151 at_31 rfl rfl ?_
    refine Go.iloadN (pc' := 33) C X151 at_32 rfl rfl ?_
    refine Go.sipush (z := (255 : Int32)) (pc' := 36) C X151 at_33 rfl rfl ?_
    refine Go.iand (pc' := 37) C X151 at_36 rfl ?_
    refine Go.i2c (pc' := 38) C X151 at_37 rfl ?_
    refine Go.stC (i := 0) (x' := (p3 &&& (255 : Int32))) (vs' := [(.int (p3 &&& (255 : Int32)))]) (pc' := 39) C X151 e151 A151 (by decide) (by decide) (by simp) (own_nar255 _) rfl at_38 rfl ?_
    intro T152 h152 X152 e152 W152 A152
    have N152 := Fr.snoc X152 N0 n_b151
    have O154 : Ext Z.heap h152 := (Ext.wr (Ext.trans O0 E151) W152 n_b151)
    refine Go.newO (pc' := 42) C X152 (tw hw 1 rfl) (tw hw 2 rfl) (tw hw 3 rfl) e152 (by decide) (by decide) at_39 rfl ?_
    intro T153 h153 b153 X153 e153 g153 E153 A153 D153
    have n_b153 : Z.heap.size ≤ b153 := Nat.le_trans O154.1 (Nat.le_of_eq g153.symm)
    have z_b153 : h0.size ≤ b153 := Nat.le_trans (Nat.le_trans (Nat.le_trans (Nat.le_refl _) E151.1) (Nat.le_of_eq W152.size.symm)) (Nat.le_of_eq g153.symm)
    have F153_coder : Fld Z h153 b153 "java/lang/String" "coder" "B" (.int (0 : Int32)) := D153 (Or.inr (tw hw 27 rfl)) (ty := .byte) (by decide)
    have F153_value : Fld Z h153 b153 "java/lang/String" "value" "[B" .null := D153 (Or.inr (tw hw 29 rfl)) (ty := (.array .byte)) (by decide)
    refine Go.dup (pc' := 43) C X153 at_42 rfl rfl ?_
    refine Go.aload (pc' := 45) C X153 at_43 rfl rfl rfl ?_
    have c156 : AL Z h153 b151 k151 .char [(.int (p3 &&& (255 : Int32)))] := (AL.ext E153 A152)
    have O157 : Ext Z.heap h153 := (Ext.trans O154 E153)
    refine Go.callI (y := (⟨"java/lang/String", "<init>", "([C)V"⟩ : MethodName)) (a := b153) (pc' := 48) C X153 rfl (tw hw 4 rfl) (tw hw 5 rfl) (by decide) (rm_sI1 l Z a0 hw b153 b151 k151 ([(p3 &&& (255 : Int32))]) cP h153 O157 A153 F153_value F153_coder (show AL Z h153 b151 k151 .char (ch16 [(p3 &&& (255 : Int32))]) from c156) SC (by intro y hy; simp only [List.mem_cons, List.not_mem_nil, or_false] at hy; rcases hy with rfl; exact own_255 p3) (show (1 : Nat) < 2 ^ 31 from by decide) (show (1 : Nat) ≤ 1 from by decide) (show ¬ (1 : Nat).toInt32 = (0 : Int32) from by decide) hP n_b153) (tw hw 6 rfl) (tw hw 3 rfl) e153 (argsL := [(.ref b151)]) (rest := [(.ref b153)]) (W := 1) rfl rfl pd_16 rfl (Nat.le_of_eq rfl) rfl (by decide) (by decide) (by decide) (by decide) rfl at_45 rfl ?_
    intro T155 v155 L155 X155 q155
    obtain ⟨v_155, kv_155, rfl, N155q, K155, B155_0, P155_0, P155_1, P155_2⟩ := q155
    have N155 := Fr.app N152 N155q
    have n_v_155 : Z.heap.size ≤ v_155 := Nat.le_trans O157.1 B155_0
    have z_v_155 : h0.size ≤ v_155 := Nat.le_trans (Nat.le_trans (Nat.le_trans (Nat.le_trans (Nat.le_refl _) E151.1) (Nat.le_of_eq W152.size.symm)) E153.1) B155_0
    refine Go.astore (Ls' := #[.val (.int p1), .val (.int p2), .val (.int p3), .val (.int p4), .val (.long p5), .second, .val (.int (2 : Int32)), .val (.int ((((p2.toUInt32 >>> ((2 : Int32) &&& 31).toUInt32).toInt32) &&& (255 : Int32)) % (3 : Int32))), .val (.int (((p2.toUInt32 >>> ((10 : Int32) &&& 31).toUInt32).toInt32) &&& (3 : Int32))), .val (.ref b151), .val (.ref b153), .unset, .unset, .unset, .unset, .unset]) (pc' := 50) C X155 at_48 rfl rfl rfl ?_
    refine Go.iloadN (pc' := 51) C X155 at_50 rfl rfl ?_
    refine Go.sipush (z := (255 : Int32)) (pc' := 54) C X155 at_51 rfl rfl ?_
    refine Go.iand (pc' := 55) C X155 at_54 rfl ?_
    refine Go.i2c (pc' := 56) C X155 at_55 rfl ?_
    have O159 : Ext Z.heap T155.heap := (Ext.keep O157 K155 (allS n_b153 all0))
    refine Go.callS (y := (⟨"java/lang/String", "valueOf", "(C)Ljava/lang/String;"⟩ : MethodName)) (pc' := 59) C X155 (tw hw 30 rfl) (tw hw 31 rfl) (by decide) (rm_vc l Z a0 hw (((p4 &&& (255 : Int32)).toUInt32.toUInt16.toUInt32.toInt32)) cP T155.heap O159 SC (own_c255 p4) hP) (tw hw 32 rfl) (tw hw 3 rfl) rfl (argsL := [(.int ((p4 &&& (255 : Int32)).toUInt32.toUInt16.toUInt32.toInt32))]) (rest := []) (W := 0) rfl rfl pd_17 rfl (Nat.le_of_eq rfl) rfl (by decide) (by decide) (by decide) (by decide) at_56 rfl ?_
    intro T158 v158 L158 X158 q158
    obtain ⟨r_158, rfl, N158q, K158, B158_0, P158_0⟩ := q158
    have N158 := Fr.app N155 N158q
    have n_r_158 : Z.heap.size ≤ r_158 := Nat.le_trans O159.1 B158_0
    have z_r_158 : h0.size ≤ r_158 := Nat.le_trans (Nat.le_trans (Nat.le_trans (Nat.le_trans (Nat.le_trans (Nat.le_refl _) E151.1) (Nat.le_of_eq W152.size.symm)) E153.1) K155.1) B158_0
    refine Go.astore (Ls' := #[.val (.int p1), .val (.int p2), .val (.int p3), .val (.int p4), .val (.long p5), .second, .val (.int (2 : Int32)), .val (.int ((((p2.toUInt32 >>> ((2 : Int32) &&& 31).toUInt32).toInt32) &&& (255 : Int32)) % (3 : Int32))), .val (.int (((p2.toUInt32 >>> ((10 : Int32) &&& 31).toUInt32).toInt32) &&& (3 : Int32))), .val (.ref b151), .val (.ref b153), .val (.ref r_158), .unset, .unset, .unset, .unset]) (pc' := 61) C X158 at_59 rfl rfl rfl ?_
    refine Go.aconstNull (pc' := 62) C X158 at_61 rfl ?_
    refine Go.astore (Ls' := #[.val (.int p1), .val (.int p2), .val (.int p3), .val (.int p4), .val (.long p5), .second, .val (.int (2 : Int32)), .val (.int ((((p2.toUInt32 >>> ((2 : Int32) &&& 31).toUInt32).toInt32) &&& (255 : Int32)) % (3 : Int32))), .val (.int (((p2.toUInt32 >>> ((10 : Int32) &&& 31).toUInt32).toInt32) &&& (3 : Int32))), .val (.ref b151), .val (.ref b153), .val (.ref r_158), .val .null, .unset, .unset, .unset]) (pc' := 64) C X158 at_62 rfl rfl rfl ?_
    refine Go.iload (pc' := 66) C X158 at_64 rfl rfl ?_
    refine Go.iconst (z := (1 : Int32)) (pc' := 67) C X158 at_66 rfl rfl ?_
    refine Go.iand (pc' := 68) C X158 at_67 rfl ?_
    rw [show ((2 : Int32) &&& (1 : Int32)) = (0 : Int32) from by decide]
    refine Go.ifYes (pc' := 82) C X158 at_68 ((if0 _ _).trans (teq (x := (0 : Int32)) (y := (0 : Int32)) (by decide)).1) (by decide) (by decide) ?_
    refine Go.aconstNull (pc' := 83) C X158 at_82 rfl ?_
    refine Go.astore (Ls' := #[.val (.int p1), .val (.int p2), .val (.int p3), .val (.int p4), .val (.long p5), .second, .val (.int (2 : Int32)), .val (.int ((((p2.toUInt32 >>> ((2 : Int32) &&& 31).toUInt32).toInt32) &&& (255 : Int32)) % (3 : Int32))), .val (.int (((p2.toUInt32 >>> ((10 : Int32) &&& 31).toUInt32).toInt32) &&& (3 : Int32))), .val (.ref b151), .val (.ref b153), .val (.ref r_158), .val .null, .val .null, .unset, .unset]) (pc' := 85) C X158 at_83 rfl rfl rfl ?_
    refine Go.iload (pc' := 87) C X158 at_85 rfl rfl ?_
    refine Go.iconst (z := (2 : Int32)) (pc' := 88) C X158 at_87 rfl rfl ?_
    refine Go.iand (pc' := 89) C X158 at_88 rfl ?_
    rw [show ((2 : Int32) &&& (2 : Int32)) = (2 : Int32) from by decide]
    refine Go.ifNo (pc' := 92) C X158 at_89 ((if0 _ _).trans (feq (x := (2 : Int32)) (y := (0 : Int32)) (by decide)).1) rfl ?_
    refine Go.iload (pc' := 94) C X158 at_92 rfl rfl ?_
    refine Go.lload (pc' := 96) C X158 at_94 rfl rfl ?_
    have O163 : Ext Z.heap T158.heap := (Ext.keep O159 K158 all0)
    have Si164 : Sin s s T158.heap := Sin.mono Si0 (Nat.le_trans (Nat.le_trans (Nat.le_trans (Nat.le_trans (Nat.le_trans (Nat.le_refl _) E151.1) (Nat.le_of_eq W152.size.symm)) E153.1) K155.1) K158.1)
    refine Go.callSW (y := (⟨"com/example/opacheck/opacheck/EventIsBeginPinLaw", "makeResponse", "(IJ)Lcom/example/opacheck/opacheck/Response;"⟩ : MethodName)) (pc' := 99) C X158 Si164 (tw hw 81 rfl) (tw hw 82 rfl) (by decide) (rm_mr l Z a0 hw ((((p2.toUInt32 >>> ((10 : Int32) &&& 31).toUInt32).toInt32) &&& (3 : Int32))) p5 va ok ct ab T158.heap O163 S0 S1 S2 S3) (tw hw 83 rfl) (tw hw 46 rfl) rfl (argsL := [(.int (((p2.toUInt32 >>> ((10 : Int32) &&& 31).toUInt32).toInt32) &&& (3 : Int32))), (.long p5)]) (rest := []) (W := 0) rfl rfl pd_22 rfl (Nat.le_of_eq rfl) rfl (by decide) (by decide) (by decide) (by decide) at_96 rfl ?_
    intro T162 v162 L162 sC162 C162 X162 Si162 q162
    obtain ⟨o_162, rfl, N162q, K162, B162_0⟩ := q162
    have N162 := Fr.app N158 N162q
    have n_o_162 : Z.heap.size ≤ o_162 := Nat.le_trans O163.1 B162_0
    have z_o_162 : h0.size ≤ o_162 := Nat.le_trans (Nat.le_trans (Nat.le_trans (Nat.le_trans (Nat.le_trans (Nat.le_trans (Nat.le_refl _) E151.1) (Nat.le_of_eq W152.size.symm)) E153.1) K155.1) K158.1) B162_0
    refine Go.astore (Ls' := #[.val (.int p1), .val (.int p2), .val (.int p3), .val (.int p4), .val (.long p5), .second, .val (.int (2 : Int32)), .val (.int ((((p2.toUInt32 >>> ((2 : Int32) &&& 31).toUInt32).toInt32) &&& (255 : Int32)) % (3 : Int32))), .val (.int (((p2.toUInt32 >>> ((10 : Int32) &&& 31).toUInt32).toInt32) &&& (3 : Int32))), .val (.ref b151), .val (.ref b153), .val (.ref r_158), .val .null, .val (.ref o_162), .unset, .unset]) (pc' := 101) C162 X162 at_99 rfl rfl rfl ?_
    have O166 : Ext Z.heap T162.heap := (Ext.keep O163 K162 all0)
    refine Go.newO (pc' := 104) C162 X162 (tw hw 103 rfl) (tw hw 104 rfl) (tw hw 105 rfl) rfl (by decide) (by decide) at_101 rfl ?_
    intro T165 h165 b165 X165 e165 g165 E165 A165 D165
    have n_b165 : Z.heap.size ≤ b165 := Nat.le_trans O166.1 (Nat.le_of_eq g165.symm)
    have z_b165 : h0.size ≤ b165 := Nat.le_trans (Nat.le_trans (Nat.le_trans (Nat.le_trans (Nat.le_trans (Nat.le_trans (Nat.le_trans (Nat.le_refl _) E151.1) (Nat.le_of_eq W152.size.symm)) E153.1) K155.1) K158.1) K162.1) (Nat.le_of_eq g165.symm)
    have F165_line : Fld Z h165 b165 "com/example/opacheck/opacheck/Event" "line" "I" (.int (0 : Int32)) := D165 (Or.inr (tw hw 118 rfl)) (ty := .int) (by decide)
    have F165_transaction : Fld Z h165 b165 "com/example/opacheck/opacheck/Event" "transaction" "Ljava/lang/String;" .null := D165 (Or.inr (tw hw 120 rfl)) (ty := (.object "java/lang/String")) (by decide)
    have F165_invocation : Fld Z h165 b165 "com/example/opacheck/opacheck/Event" "invocation" "Lcom/example/opacheck/opacheck/Operation;" .null := D165 (Or.inr (tw hw 122 rfl)) (ty := (.object "com/example/opacheck/opacheck/Operation")) (by decide)
    have F165_response : Fld Z h165 b165 "com/example/opacheck/opacheck/Event" "response" "Lcom/example/opacheck/opacheck/Response;" .null := D165 (Or.inr (tw hw 124 rfl)) (ty := (.object "com/example/opacheck/opacheck/Response")) (by decide)
    refine Go.dup (pc' := 105) C162 X165 at_104 rfl rfl ?_
    refine Go.iconst (z := (1 : Int32)) (pc' := 106) C162 X165 at_105 rfl rfl ?_
    refine Go.iloadN (pc' := 107) C162 X165 at_106 rfl rfl ?_
    refine Go.ldcI (pc' := 109) C162 X165 at_107 (tw hw 106 rfl) rfl ?_
    refine Go.iand (pc' := 110) C162 X165 at_109 rfl ?_
    have O168 : Ext Z.heap h165 := (Ext.trans O166 E165)
    refine Go.callS (y := (⟨"java/lang/Math", "max", "(II)I"⟩ : MethodName)) (pc' := 113) C162 X165 (tw hw 107 rfl) (tw hw 108 rfl) (by decide) (rm_mx l Z a0 hw ((p1 &&& (2147483647 : Int32))) h165 O168 ) (tw hw 110 rfl) (tw hw 109 rfl) e165 (argsL := [(.int (1 : Int32)), (.int (p1 &&& (2147483647 : Int32)))]) (rest := [(.ref b165), (.ref b165)]) (W := 2) rfl rfl pd_18 rfl (Nat.le_of_eq rfl) rfl (by decide) (by decide) (by decide) (by decide) at_110 rfl ?_
    intro T167 v167 L167 X167 q167
    obtain ⟨r_167, rfl, rfl, e167, p167_0⟩ := q167
    have N167 := Fr.app N162 (Fr.nil _)
    refine Go.aload (pc' := 115) C162 X167 at_113 rfl rfl rfl ?_
    refine Go.aload (pc' := 117) C162 X167 at_115 rfl rfl rfl ?_
    refine Go.aload (pc' := 119) C162 X167 at_117 rfl rfl rfl ?_
    have Si170 : Sin s sC162 h165 := Sin.mono Si162 (Nat.le_trans (Nat.le_refl _) E165.1)
    refine Go.callIW (y := (⟨"com/example/opacheck/opacheck/Event", "<init>", "(ILjava/lang/String;Lcom/example/opacheck/opacheck/Operation;Lcom/example/opacheck/opacheck/Response;)V"⟩ : MethodName)) (a := b165) (pc' := 122) C162 X167 Si170 rfl (tw hw 111 rfl) (tw hw 112 rfl) (by decide) (rm_ev2 l Z a0 hw b165 r_167 b153 o_162 h165 O168 A165 F165_line F165_transaction F165_invocation F165_response n_b165 p167_0) (tw hw 113 rfl) (tw hw 105 rfl) e167 (argsL := [(.int r_167), (.ref b153), .null, (.ref o_162)]) (rest := [(.ref b165)]) (W := 1) rfl rfl pd_19 rfl (Nat.le_of_eq rfl) rfl (by decide) (by decide) (by decide) (by decide) rfl at_119 rfl ?_
    intro T169 v169 L169 sC169 C169 X169 Si169 q169
    obtain ⟨rfl, N169q, K169, P169_0, P169_1⟩ := q169
    have N169 := Fr.app N167 N169q
    refine Go.astore (Ls' := #[.val (.int p1), .val (.int p2), .val (.int p3), .val (.int p4), .val (.long p5), .second, .val (.int (2 : Int32)), .val (.int ((((p2.toUInt32 >>> ((2 : Int32) &&& 31).toUInt32).toInt32) &&& (255 : Int32)) % (3 : Int32))), .val (.int (((p2.toUInt32 >>> ((10 : Int32) &&& 31).toUInt32).toInt32) &&& (3 : Int32))), .val (.ref b151), .val (.ref b153), .val (.ref r_158), .val .null, .val (.ref o_162), .val (.ref b165), .unset]) (pc' := 124) C169 X169 at_122 rfl rfl rfl ?_
    refine Go.iload (pc' := 126) C169 X169 at_124 rfl rfl ?_
    refine Go.ifYes (pc' := 135) C169 X169 at_126 ((if0 _ _).trans (feq (x := (2 : Int32)) (y := (0 : Int32)) (by decide)).2) (by decide) (by decide) ?_
    refine Go.iload (pc' := 137) C169 X169 at_135 rfl rfl ?_
    refine Go.iconst (z := (1 : Int32)) (pc' := 138) C169 X169 at_137 rfl rfl ?_
    refine Go.icmpYes (pc' := 147) C169 X169 at_138 (feq (x := (2 : Int32)) (y := (1 : Int32)) (by decide)).2 (by decide) (by decide) ?_
    refine Go.iload (pc' := 149) C169 X169 at_147 rfl rfl ?_
    refine Go.iconst (z := (2 : Int32)) (pc' := 150) C169 X169 at_149 rfl rfl ?_
    refine Go.icmpNo (pc' := 153) C169 X169 at_150 (teq (x := (2 : Int32)) (y := (2 : Int32)) (by decide)).2 rfl ?_
    refine Go.iconst (z := (0 : Int32)) (pc' := 154) C169 X169 at_153 rfl rfl ?_
    refine Go.istore (Ls' := #[.val (.int p1), .val (.int p2), .val (.int p3), .val (.int p4), .val (.long p5), .second, .val (.int (2 : Int32)), .val (.int ((((p2.toUInt32 >>> ((2 : Int32) &&& 31).toUInt32).toInt32) &&& (255 : Int32)) % (3 : Int32))), .val (.int (((p2.toUInt32 >>> ((10 : Int32) &&& 31).toUInt32).toInt32) &&& (3 : Int32))), .val (.ref b151), .val (.ref b153), .val (.ref r_158), .val .null, .val (.ref o_162), .val (.ref b165), .val (.int (0 : Int32))]) (pc' := 156) C169 X169 at_154 rfl rfl ?_
    refine Go.goto (pc' := 162) C169 X169 at_156 (by decide) (by decide) ?_
    refine Go.aload (pc' := 164) C169 X169 at_162 rfl rfl rfl ?_
    have O175 : Ext Z.heap T169.heap := (Ext.keep O168 K169 (allS n_b165 all0))
    have c176 : Exa Z T169.heap b165 "com/example/opacheck/opacheck/Event" := (Exa.keep A165 K169)
    refine Go.callV (y := (⟨"com/example/opacheck/opacheck/Event", "isBegin", "()Z"⟩ : MethodName)) (z := (⟨"com/example/opacheck/opacheck/Event", "isBegin", "()Z"⟩ : MethodName)) (a := b165) (pc' := 167) C169 X169 (tw hw 125 rfl) (tw hw 126 rfl) (notFace_at C169.2.1 (tw hw 128 rfl)) (tw hw 128 rfl) (tw hw 127 rfl) c176 (by decide) (rm_ib2 l Z a0 hw b165 o_162 T169.heap O175 P169_0 P169_1) (tw hw 129 rfl) (tw hw 105 rfl) rfl (argsL := []) (rest := []) (W := 0) rfl rfl pd_20 rfl (Nat.le_of_eq rfl) rfl (by decide) (by decide) (by decide) (by decide) at_164 rfl ?_
    intro T174 v174 L174 X174 q174
    obtain ⟨rfl, rfl, e174⟩ := q174
    have N174 := Fr.app N169 (Fr.nil _)
    refine Go.iload (pc' := 169) C169 X174 at_167 rfl rfl ?_
    refine Go.icmpNo (pc' := 172) C169 X174 at_169 (teq (x := (0 : Int32)) (y := (0 : Int32)) (by decide)).2 rfl ?_
    refine Go.iconst (z := (1 : Int32)) (pc' := 173) C169 X174 at_172 rfl rfl ?_
    refine Go.goto (pc' := 177) C169 X174 at_173 (by decide) (by decide) ?_
    have K178 : Keep h0 T169.heap [] := (((((((((Keep.refl h0 []).ext E151).wr W152 (Or.inr z_b151)).ext E153).trans K155 (allS (Or.inr z_b153) all0)).trans K158 all0).trans K162 all0).ext E165).trans K169 (allS (Or.inr z_b165) all0))
    exact Go.retNW C169 X174 (by rw [e174]; exact Si169) rfl at_177 (by simp) (by rw [e174]; exact ⟨rfl, N174, K178⟩) (by decide) (by decide)
  · rw [hl]
    refine Go.iloadN (pc' := 6) C X0 at_5 rfl rfl ?_
    refine Go.iconst (z := (2 : Int32)) (pc' := 7) C X0 at_6 rfl rfl ?_
    refine Go.iushr (pc' := 8) C X0 at_7 rfl ?_
    refine Go.sipush (z := (255 : Int32)) (pc' := 11) C X0 at_8 rfl rfl ?_
    refine Go.iand (pc' := 12) C X0 at_11 rfl ?_
    refine Go.iconst (z := (3 : Int32)) (pc' := 13) C X0 at_12 rfl rfl ?_
    refine Go.irem (pc' := 14) C X0 at_13 (by decide) rfl ?_
    refine Go.istore (Ls' := #[.val (.int p1), .val (.int p2), .val (.int p3), .val (.int p4), .val (.long p5), .second, .val (.int (3 : Int32)), .val (.int ((((p2.toUInt32 >>> ((2 : Int32) &&& 31).toUInt32).toInt32) &&& (255 : Int32)) % (3 : Int32))), .unset, .unset, .unset, .unset, .unset, .unset, .unset, .unset]) (pc' := 16) C X0 at_14 rfl rfl ?_
    refine Go.iloadN (pc' := 17) C X0 at_16 rfl rfl ?_
    refine Go.bipush (z := (10 : Int32)) (pc' := 19) C X0 at_17 rfl rfl ?_
    refine Go.iushr (pc' := 20) C X0 at_19 rfl ?_
    refine Go.iconst (z := (3 : Int32)) (pc' := 21) C X0 at_20 rfl rfl ?_
    refine Go.iand (pc' := 22) C X0 at_21 rfl ?_
    refine Go.istore (Ls' := #[.val (.int p1), .val (.int p2), .val (.int p3), .val (.int p4), .val (.long p5), .second, .val (.int (3 : Int32)), .val (.int ((((p2.toUInt32 >>> ((2 : Int32) &&& 31).toUInt32).toInt32) &&& (255 : Int32)) % (3 : Int32))), .val (.int (((p2.toUInt32 >>> ((10 : Int32) &&& 31).toUInt32).toInt32) &&& (3 : Int32))), .unset, .unset, .unset, .unset, .unset, .unset, .unset]) (pc' := 24) C X0 at_22 rfl rfl ?_
    refine Go.iconst (z := (1 : Int32)) (pc' := 25) C X0 at_24 rfl rfl ?_
    refine Go.newP (aty := .char) (cap := 1) (vs := [(.int (0 : Int32))]) (ad := "[C") (pc' := 27) C X0 (by decide) (tw hw 0 rfl) e0 (by decide) (by decide) (by decide) (by decide) (by decide) rfl at_25 rfl ?_
    intro T179 h179 b179 k179 X179 e179 g179 E179 A179 Ea179
    have n_b179 : Z.heap.size ≤ b179 := Nat.le_trans O0.1 (Nat.le_of_eq g179.symm)
    have z_b179 : h0.size ≤ b179 := Nat.le_trans (Nat.le_refl _) (Nat.le_of_eq g179.symm)
    have A179 : AL Z h179 b179 k179 .char [(.int (0 : Int32))] := A179
    refine Go.astore (Ls' := #[.val (.int p1), .val (.int p2), .val (.int p3), .val (.int p4), .val (.long p5), .second, .val (.int (3 : Int32)), .val (.int ((((p2.toUInt32 >>> ((2 : Int32) &&& 31).toUInt32).toInt32) &&& (255 : Int32)) % (3 : Int32))), .val (.int (((p2.toUInt32 >>> ((10 : Int32) &&& 31).toUInt32).toInt32) &&& (3 : Int32))), .val (.ref b179), .unset, .unset, .unset, .unset, .unset, .unset]) (pc' := 29) C X179 at_27 rfl rfl rfl ?_
    refine Go.aload (pc' := 31) C X179 at_29 rfl rfl rfl ?_
    refine Go.iconst (z := (0 : Int32)) (pc' := 32) C X179 at_31 rfl rfl ?_
    refine Go.iloadN (pc' := 33) C X179 at_32 rfl rfl ?_
    refine Go.sipush (z := (255 : Int32)) (pc' := 36) C X179 at_33 rfl rfl ?_
    refine Go.iand (pc' := 37) C X179 at_36 rfl ?_
    refine Go.i2c (pc' := 38) C X179 at_37 rfl ?_
    refine Go.stC (i := 0) (x' := (p3 &&& (255 : Int32))) (vs' := [(.int (p3 &&& (255 : Int32)))]) (pc' := 39) C X179 e179 A179 (by decide) (by decide) (by simp) (own_nar255 _) rfl at_38 rfl ?_
    intro T180 h180 X180 e180 W180 A180
    have N180 := Fr.snoc X180 N0 n_b179
    have O182 : Ext Z.heap h180 := (Ext.wr (Ext.trans O0 E179) W180 n_b179)
    refine Go.newO (pc' := 42) C X180 (tw hw 1 rfl) (tw hw 2 rfl) (tw hw 3 rfl) e180 (by decide) (by decide) at_39 rfl ?_
    intro T181 h181 b181 X181 e181 g181 E181 A181 D181
    have n_b181 : Z.heap.size ≤ b181 := Nat.le_trans O182.1 (Nat.le_of_eq g181.symm)
    have z_b181 : h0.size ≤ b181 := Nat.le_trans (Nat.le_trans (Nat.le_trans (Nat.le_refl _) E179.1) (Nat.le_of_eq W180.size.symm)) (Nat.le_of_eq g181.symm)
    have F181_coder : Fld Z h181 b181 "java/lang/String" "coder" "B" (.int (0 : Int32)) := D181 (Or.inr (tw hw 27 rfl)) (ty := .byte) (by decide)
    have F181_value : Fld Z h181 b181 "java/lang/String" "value" "[B" .null := D181 (Or.inr (tw hw 29 rfl)) (ty := (.array .byte)) (by decide)
    refine Go.dup (pc' := 43) C X181 at_42 rfl rfl ?_
    refine Go.aload (pc' := 45) C X181 at_43 rfl rfl rfl ?_
    have c184 : AL Z h181 b179 k179 .char [(.int (p3 &&& (255 : Int32)))] := (AL.ext E181 A180)
    have O185 : Ext Z.heap h181 := (Ext.trans O182 E181)
    refine Go.callI (y := (⟨"java/lang/String", "<init>", "([C)V"⟩ : MethodName)) (a := b181) (pc' := 48) C X181 rfl (tw hw 4 rfl) (tw hw 5 rfl) (by decide) (rm_sI1 l Z a0 hw b181 b179 k179 ([(p3 &&& (255 : Int32))]) cP h181 O185 A181 F181_value F181_coder (show AL Z h181 b179 k179 .char (ch16 [(p3 &&& (255 : Int32))]) from c184) SC (by intro y hy; simp only [List.mem_cons, List.not_mem_nil, or_false] at hy; rcases hy with rfl; exact own_255 p3) (show (1 : Nat) < 2 ^ 31 from by decide) (show (1 : Nat) ≤ 1 from by decide) (show ¬ (1 : Nat).toInt32 = (0 : Int32) from by decide) hP n_b181) (tw hw 6 rfl) (tw hw 3 rfl) e181 (argsL := [(.ref b179)]) (rest := [(.ref b181)]) (W := 1) rfl rfl pd_16 rfl (Nat.le_of_eq rfl) rfl (by decide) (by decide) (by decide) (by decide) rfl at_45 rfl ?_
    intro T183 v183 L183 X183 q183
    obtain ⟨v_183, kv_183, rfl, N183q, K183, B183_0, P183_0, P183_1, P183_2⟩ := q183
    have N183 := Fr.app N180 N183q
    have n_v_183 : Z.heap.size ≤ v_183 := Nat.le_trans O185.1 B183_0
    have z_v_183 : h0.size ≤ v_183 := Nat.le_trans (Nat.le_trans (Nat.le_trans (Nat.le_trans (Nat.le_refl _) E179.1) (Nat.le_of_eq W180.size.symm)) E181.1) B183_0
    refine Go.astore (Ls' := #[.val (.int p1), .val (.int p2), .val (.int p3), .val (.int p4), .val (.long p5), .second, .val (.int (3 : Int32)), .val (.int ((((p2.toUInt32 >>> ((2 : Int32) &&& 31).toUInt32).toInt32) &&& (255 : Int32)) % (3 : Int32))), .val (.int (((p2.toUInt32 >>> ((10 : Int32) &&& 31).toUInt32).toInt32) &&& (3 : Int32))), .val (.ref b179), .val (.ref b181), .unset, .unset, .unset, .unset, .unset]) (pc' := 50) C X183 at_48 rfl rfl rfl ?_
    refine Go.iloadN (pc' := 51) C X183 at_50 rfl rfl ?_
    refine Go.sipush (z := (255 : Int32)) (pc' := 54) C X183 at_51 rfl rfl ?_
    refine Go.iand (pc' := 55) C X183 at_54 rfl ?_
    refine Go.i2c (pc' := 56) C X183 at_55 rfl ?_
    have O187 : Ext Z.heap T183.heap := (Ext.keep O185 K183 (allS n_b181 all0))
    refine Go.callS (y := (⟨"java/lang/String", "valueOf", "(C)Ljava/lang/String;"⟩ : MethodName)) (pc' := 59) C X183 (tw hw 30 rfl) (tw hw 31 rfl) (by decide) (rm_vc l Z a0 hw (((p4 &&& (255 : Int32)).toUInt32.toUInt16.toUInt32.toInt32)) cP T183.heap O187 SC (own_c255 p4) hP) (tw hw 32 rfl) (tw hw 3 rfl) rfl (argsL := [(.int ((p4 &&& (255 : Int32)).toUInt32.toUInt16.toUInt32.toInt32))]) (rest := []) (W := 0) rfl rfl pd_17 rfl (Nat.le_of_eq rfl) rfl (by decide) (by decide) (by decide) (by decide) at_56 rfl ?_
    intro T186 v186 L186 X186 q186
    obtain ⟨r_186, rfl, N186q, K186, B186_0, P186_0⟩ := q186
    have N186 := Fr.app N183 N186q
    have n_r_186 : Z.heap.size ≤ r_186 := Nat.le_trans O187.1 B186_0
    have z_r_186 : h0.size ≤ r_186 := Nat.le_trans (Nat.le_trans (Nat.le_trans (Nat.le_trans (Nat.le_trans (Nat.le_refl _) E179.1) (Nat.le_of_eq W180.size.symm)) E181.1) K183.1) B186_0
    refine Go.astore (Ls' := #[.val (.int p1), .val (.int p2), .val (.int p3), .val (.int p4), .val (.long p5), .second, .val (.int (3 : Int32)), .val (.int ((((p2.toUInt32 >>> ((2 : Int32) &&& 31).toUInt32).toInt32) &&& (255 : Int32)) % (3 : Int32))), .val (.int (((p2.toUInt32 >>> ((10 : Int32) &&& 31).toUInt32).toInt32) &&& (3 : Int32))), .val (.ref b179), .val (.ref b181), .val (.ref r_186), .unset, .unset, .unset, .unset]) (pc' := 61) C X186 at_59 rfl rfl rfl ?_
    refine Go.aconstNull (pc' := 62) C X186 at_61 rfl ?_
    refine Go.astore (Ls' := #[.val (.int p1), .val (.int p2), .val (.int p3), .val (.int p4), .val (.long p5), .second, .val (.int (3 : Int32)), .val (.int ((((p2.toUInt32 >>> ((2 : Int32) &&& 31).toUInt32).toInt32) &&& (255 : Int32)) % (3 : Int32))), .val (.int (((p2.toUInt32 >>> ((10 : Int32) &&& 31).toUInt32).toInt32) &&& (3 : Int32))), .val (.ref b179), .val (.ref b181), .val (.ref r_186), .val .null, .unset, .unset, .unset]) (pc' := 64) C X186 at_62 rfl rfl rfl ?_
    refine Go.iload (pc' := 66) C X186 at_64 rfl rfl ?_
    refine Go.iconst (z := (1 : Int32)) (pc' := 67) C X186 at_66 rfl rfl ?_
    refine Go.iand (pc' := 68) C X186 at_67 rfl ?_
    rw [show ((3 : Int32) &&& (1 : Int32)) = (1 : Int32) from by decide]
    refine Go.ifNo (pc' := 71) C X186 at_68 ((if0 _ _).trans (feq (x := (1 : Int32)) (y := (0 : Int32)) (by decide)).1) rfl ?_
    refine Go.iload (pc' := 73) C X186 at_71 rfl rfl ?_
    refine Go.aload (pc' := 75) C X186 at_73 rfl rfl rfl ?_
    refine Go.lload (pc' := 77) C X186 at_75 rfl rfl ?_
    have O190 : Ext Z.heap T186.heap := (Ext.keep O187 K186 all0)
    have Si191 : Sin s s T186.heap := Sin.mono Si0 (Nat.le_trans (Nat.le_trans (Nat.le_trans (Nat.le_trans (Nat.le_trans (Nat.le_refl _) E179.1) (Nat.le_of_eq W180.size.symm)) E181.1) K183.1) K186.1)
    refine Go.callSW (y := (⟨"com/example/opacheck/opacheck/EventIsBeginPinLaw", "makeOperation", "(ILjava/lang/String;J)Lcom/example/opacheck/opacheck/Operation;"⟩ : MethodName)) (pc' := 80) C X186 Si191 (tw hw 44 rfl) (tw hw 45 rfl) (by decide) (rm_mo l Z a0 hw (((((p2.toUInt32 >>> ((2 : Int32) &&& 31).toUInt32).toInt32) &&& (255 : Int32)) % (3 : Int32))) r_186 p5 rd wr cm T186.heap O190 SR SW SM hrc hwc) (tw hw 47 rfl) (tw hw 46 rfl) rfl (argsL := [(.int ((((p2.toUInt32 >>> ((2 : Int32) &&& 31).toUInt32).toInt32) &&& (255 : Int32)) % (3 : Int32))), (.ref r_186), (.long p5)]) (rest := []) (W := 0) rfl rfl pd_21 rfl (Nat.le_of_eq rfl) rfl (by decide) (by decide) (by decide) (by decide) at_77 rfl ?_
    intro T189 v189 L189 sC189 C189 X189 Si189 q189
    obtain ⟨o_189, rfl, N189q, K189, B189_0⟩ := q189
    have N189 := Fr.app N186 N189q
    have n_o_189 : Z.heap.size ≤ o_189 := Nat.le_trans O190.1 B189_0
    have z_o_189 : h0.size ≤ o_189 := Nat.le_trans (Nat.le_trans (Nat.le_trans (Nat.le_trans (Nat.le_trans (Nat.le_trans (Nat.le_refl _) E179.1) (Nat.le_of_eq W180.size.symm)) E181.1) K183.1) K186.1) B189_0
    refine Go.astore (Ls' := #[.val (.int p1), .val (.int p2), .val (.int p3), .val (.int p4), .val (.long p5), .second, .val (.int (3 : Int32)), .val (.int ((((p2.toUInt32 >>> ((2 : Int32) &&& 31).toUInt32).toInt32) &&& (255 : Int32)) % (3 : Int32))), .val (.int (((p2.toUInt32 >>> ((10 : Int32) &&& 31).toUInt32).toInt32) &&& (3 : Int32))), .val (.ref b179), .val (.ref b181), .val (.ref r_186), .val (.ref o_189), .unset, .unset, .unset]) (pc' := 82) C189 X189 at_80 rfl rfl rfl ?_
    refine Go.aconstNull (pc' := 83) C189 X189 at_82 rfl ?_
    refine Go.astore (Ls' := #[.val (.int p1), .val (.int p2), .val (.int p3), .val (.int p4), .val (.long p5), .second, .val (.int (3 : Int32)), .val (.int ((((p2.toUInt32 >>> ((2 : Int32) &&& 31).toUInt32).toInt32) &&& (255 : Int32)) % (3 : Int32))), .val (.int (((p2.toUInt32 >>> ((10 : Int32) &&& 31).toUInt32).toInt32) &&& (3 : Int32))), .val (.ref b179), .val (.ref b181), .val (.ref r_186), .val (.ref o_189), .val .null, .unset, .unset]) (pc' := 85) C189 X189 at_83 rfl rfl rfl ?_
    refine Go.iload (pc' := 87) C189 X189 at_85 rfl rfl ?_
    refine Go.iconst (z := (2 : Int32)) (pc' := 88) C189 X189 at_87 rfl rfl ?_
    refine Go.iand (pc' := 89) C189 X189 at_88 rfl ?_
    rw [show ((3 : Int32) &&& (2 : Int32)) = (2 : Int32) from by decide]
    refine Go.ifNo (pc' := 92) C189 X189 at_89 ((if0 _ _).trans (feq (x := (2 : Int32)) (y := (0 : Int32)) (by decide)).1) rfl ?_
    refine Go.iload (pc' := 94) C189 X189 at_92 rfl rfl ?_
    refine Go.lload (pc' := 96) C189 X189 at_94 rfl rfl ?_
    have O194 : Ext Z.heap T189.heap := (Ext.keep O190 K189 all0)
    refine Go.callSW (y := (⟨"com/example/opacheck/opacheck/EventIsBeginPinLaw", "makeResponse", "(IJ)Lcom/example/opacheck/opacheck/Response;"⟩ : MethodName)) (pc' := 99) C189 X189 Si189 (tw hw 81 rfl) (tw hw 82 rfl) (by decide) (rm_mr l Z a0 hw ((((p2.toUInt32 >>> ((10 : Int32) &&& 31).toUInt32).toInt32) &&& (3 : Int32))) p5 va ok ct ab T189.heap O194 S0 S1 S2 S3) (tw hw 83 rfl) (tw hw 46 rfl) rfl (argsL := [(.int (((p2.toUInt32 >>> ((10 : Int32) &&& 31).toUInt32).toInt32) &&& (3 : Int32))), (.long p5)]) (rest := []) (W := 0) rfl rfl pd_22 rfl (Nat.le_of_eq rfl) rfl (by decide) (by decide) (by decide) (by decide) at_96 rfl ?_
    intro T193 v193 L193 sC193 C193 X193 Si193 q193
    obtain ⟨o_193, rfl, N193q, K193, B193_0⟩ := q193
    have N193 := Fr.app N189 N193q
    have n_o_193 : Z.heap.size ≤ o_193 := Nat.le_trans O194.1 B193_0
    have z_o_193 : h0.size ≤ o_193 := Nat.le_trans (Nat.le_trans (Nat.le_trans (Nat.le_trans (Nat.le_trans (Nat.le_trans (Nat.le_trans (Nat.le_refl _) E179.1) (Nat.le_of_eq W180.size.symm)) E181.1) K183.1) K186.1) K189.1) B193_0
    refine Go.astore (Ls' := #[.val (.int p1), .val (.int p2), .val (.int p3), .val (.int p4), .val (.long p5), .second, .val (.int (3 : Int32)), .val (.int ((((p2.toUInt32 >>> ((2 : Int32) &&& 31).toUInt32).toInt32) &&& (255 : Int32)) % (3 : Int32))), .val (.int (((p2.toUInt32 >>> ((10 : Int32) &&& 31).toUInt32).toInt32) &&& (3 : Int32))), .val (.ref b179), .val (.ref b181), .val (.ref r_186), .val (.ref o_189), .val (.ref o_193), .unset, .unset]) (pc' := 101) C193 X193 at_99 rfl rfl rfl ?_
    have O196 : Ext Z.heap T193.heap := (Ext.keep O194 K193 all0)
    refine Go.newO (pc' := 104) C193 X193 (tw hw 103 rfl) (tw hw 104 rfl) (tw hw 105 rfl) rfl (by decide) (by decide) at_101 rfl ?_
    intro T195 h195 b195 X195 e195 g195 E195 A195 D195
    have n_b195 : Z.heap.size ≤ b195 := Nat.le_trans O196.1 (Nat.le_of_eq g195.symm)
    have z_b195 : h0.size ≤ b195 := Nat.le_trans (Nat.le_trans (Nat.le_trans (Nat.le_trans (Nat.le_trans (Nat.le_trans (Nat.le_trans (Nat.le_trans (Nat.le_refl _) E179.1) (Nat.le_of_eq W180.size.symm)) E181.1) K183.1) K186.1) K189.1) K193.1) (Nat.le_of_eq g195.symm)
    have F195_line : Fld Z h195 b195 "com/example/opacheck/opacheck/Event" "line" "I" (.int (0 : Int32)) := D195 (Or.inr (tw hw 118 rfl)) (ty := .int) (by decide)
    have F195_transaction : Fld Z h195 b195 "com/example/opacheck/opacheck/Event" "transaction" "Ljava/lang/String;" .null := D195 (Or.inr (tw hw 120 rfl)) (ty := (.object "java/lang/String")) (by decide)
    have F195_invocation : Fld Z h195 b195 "com/example/opacheck/opacheck/Event" "invocation" "Lcom/example/opacheck/opacheck/Operation;" .null := D195 (Or.inr (tw hw 122 rfl)) (ty := (.object "com/example/opacheck/opacheck/Operation")) (by decide)
    have F195_response : Fld Z h195 b195 "com/example/opacheck/opacheck/Event" "response" "Lcom/example/opacheck/opacheck/Response;" .null := D195 (Or.inr (tw hw 124 rfl)) (ty := (.object "com/example/opacheck/opacheck/Response")) (by decide)
    refine Go.dup (pc' := 105) C193 X195 at_104 rfl rfl ?_
    refine Go.iconst (z := (1 : Int32)) (pc' := 106) C193 X195 at_105 rfl rfl ?_
    refine Go.iloadN (pc' := 107) C193 X195 at_106 rfl rfl ?_
    refine Go.ldcI (pc' := 109) C193 X195 at_107 (tw hw 106 rfl) rfl ?_
    refine Go.iand (pc' := 110) C193 X195 at_109 rfl ?_
    have O198 : Ext Z.heap h195 := (Ext.trans O196 E195)
    refine Go.callS (y := (⟨"java/lang/Math", "max", "(II)I"⟩ : MethodName)) (pc' := 113) C193 X195 (tw hw 107 rfl) (tw hw 108 rfl) (by decide) (rm_mx l Z a0 hw ((p1 &&& (2147483647 : Int32))) h195 O198 ) (tw hw 110 rfl) (tw hw 109 rfl) e195 (argsL := [(.int (1 : Int32)), (.int (p1 &&& (2147483647 : Int32)))]) (rest := [(.ref b195), (.ref b195)]) (W := 2) rfl rfl pd_18 rfl (Nat.le_of_eq rfl) rfl (by decide) (by decide) (by decide) (by decide) at_110 rfl ?_
    intro T197 v197 L197 X197 q197
    obtain ⟨r_197, rfl, rfl, e197, p197_0⟩ := q197
    have N197 := Fr.app N193 (Fr.nil _)
    refine Go.aload (pc' := 115) C193 X197 at_113 rfl rfl rfl ?_
    refine Go.aload (pc' := 117) C193 X197 at_115 rfl rfl rfl ?_
    refine Go.aload (pc' := 119) C193 X197 at_117 rfl rfl rfl ?_
    have Si200 : Sin s sC193 h195 := Sin.mono Si193 (Nat.le_trans (Nat.le_refl _) E195.1)
    refine Go.callIW (y := (⟨"com/example/opacheck/opacheck/Event", "<init>", "(ILjava/lang/String;Lcom/example/opacheck/opacheck/Operation;Lcom/example/opacheck/opacheck/Response;)V"⟩ : MethodName)) (a := b195) (pc' := 122) C193 X197 Si200 rfl (tw hw 111 rfl) (tw hw 112 rfl) (by decide) (rm_ev3 l Z a0 hw b195 r_197 b181 o_189 o_193 h195 O198 A195 F195_line F195_transaction F195_invocation F195_response n_b195 p197_0) (tw hw 113 rfl) (tw hw 105 rfl) e197 (argsL := [(.int r_197), (.ref b181), (.ref o_189), (.ref o_193)]) (rest := [(.ref b195)]) (W := 1) rfl rfl pd_19 rfl (Nat.le_of_eq rfl) rfl (by decide) (by decide) (by decide) (by decide) rfl at_119 rfl ?_
    intro T199 v199 L199 sC199 C199 X199 Si199 q199
    obtain ⟨rfl, N199q, K199, P199_0, P199_1⟩ := q199
    have N199 := Fr.app N197 N199q
    refine Go.astore (Ls' := #[.val (.int p1), .val (.int p2), .val (.int p3), .val (.int p4), .val (.long p5), .second, .val (.int (3 : Int32)), .val (.int ((((p2.toUInt32 >>> ((2 : Int32) &&& 31).toUInt32).toInt32) &&& (255 : Int32)) % (3 : Int32))), .val (.int (((p2.toUInt32 >>> ((10 : Int32) &&& 31).toUInt32).toInt32) &&& (3 : Int32))), .val (.ref b179), .val (.ref b181), .val (.ref r_186), .val (.ref o_189), .val (.ref o_193), .val (.ref b195), .unset]) (pc' := 124) C199 X199 at_122 rfl rfl rfl ?_
    refine Go.iload (pc' := 126) C199 X199 at_124 rfl rfl ?_
    refine Go.ifYes (pc' := 135) C199 X199 at_126 ((if0 _ _).trans (feq (x := (3 : Int32)) (y := (0 : Int32)) (by decide)).2) (by decide) (by decide) ?_
    refine Go.iload (pc' := 137) C199 X199 at_135 rfl rfl ?_
    refine Go.iconst (z := (1 : Int32)) (pc' := 138) C199 X199 at_137 rfl rfl ?_
    refine Go.icmpYes (pc' := 147) C199 X199 at_138 (feq (x := (3 : Int32)) (y := (1 : Int32)) (by decide)).2 (by decide) (by decide) ?_
    refine Go.iload (pc' := 149) C199 X199 at_147 rfl rfl ?_
    refine Go.iconst (z := (2 : Int32)) (pc' := 150) C199 X199 at_149 rfl rfl ?_
    refine Go.icmpYes (pc' := 159) C199 X199 at_150 (feq (x := (3 : Int32)) (y := (2 : Int32)) (by decide)).2 (by decide) (by decide) ?_
    refine Go.iconst (z := (0 : Int32)) (pc' := 160) C199 X199 at_159 rfl rfl ?_
    refine Go.istore (Ls' := #[.val (.int p1), .val (.int p2), .val (.int p3), .val (.int p4), .val (.long p5), .second, .val (.int (3 : Int32)), .val (.int ((((p2.toUInt32 >>> ((2 : Int32) &&& 31).toUInt32).toInt32) &&& (255 : Int32)) % (3 : Int32))), .val (.int (((p2.toUInt32 >>> ((10 : Int32) &&& 31).toUInt32).toInt32) &&& (3 : Int32))), .val (.ref b179), .val (.ref b181), .val (.ref r_186), .val (.ref o_189), .val (.ref o_193), .val (.ref b195), .val (.int (0 : Int32))]) (pc' := 162) C199 X199 at_160 rfl rfl ?_
    refine Go.aload (pc' := 164) C199 X199 at_162 rfl rfl rfl ?_
    have O205 : Ext Z.heap T199.heap := (Ext.keep O198 K199 (allS n_b195 all0))
    have c206 : Exa Z T199.heap b195 "com/example/opacheck/opacheck/Event" := (Exa.keep A195 K199)
    refine Go.callV (y := (⟨"com/example/opacheck/opacheck/Event", "isBegin", "()Z"⟩ : MethodName)) (z := (⟨"com/example/opacheck/opacheck/Event", "isBegin", "()Z"⟩ : MethodName)) (a := b195) (pc' := 167) C199 X199 (tw hw 125 rfl) (tw hw 126 rfl) (notFace_at C199.2.1 (tw hw 128 rfl)) (tw hw 128 rfl) (tw hw 127 rfl) c206 (by decide) (rm_ib3 l Z a0 hw b195 o_189 o_193 T199.heap O205 P199_0 P199_1) (tw hw 129 rfl) (tw hw 105 rfl) rfl (argsL := []) (rest := []) (W := 0) rfl rfl pd_20 rfl (Nat.le_of_eq rfl) rfl (by decide) (by decide) (by decide) (by decide) at_164 rfl ?_
    intro T204 v204 L204 X204 q204
    obtain ⟨rfl, rfl, e204⟩ := q204
    have N204 := Fr.app N199 (Fr.nil _)
    refine Go.iload (pc' := 169) C199 X204 at_167 rfl rfl ?_
    refine Go.icmpNo (pc' := 172) C199 X204 at_169 (teq (x := (0 : Int32)) (y := (0 : Int32)) (by decide)).2 rfl ?_
    refine Go.iconst (z := (1 : Int32)) (pc' := 173) C199 X204 at_172 rfl rfl ?_
    refine Go.goto (pc' := 177) C199 X204 at_173 (by decide) (by decide) ?_
    have K208 : Keep h0 T199.heap [] := ((((((((((Keep.refl h0 []).ext E179).wr W180 (Or.inr z_b179)).ext E181).trans K183 (allS (Or.inr z_b181) all0)).trans K186 all0).trans K189 all0).trans K193 all0).ext E195).trans K199 (allS (Or.inr z_b195) all0))
    exact Go.retNW C199 X204 (by rw [e204]; exact Si199) rfl at_177 (by simp) (by rw [e204]; exact ⟨rfl, N204, K208⟩) (by decide) (by decide)
theorem eqI_v {args : Array Value} {Z : State} {t : Term} {x n : Int32} (h : t.eval args Z none [] Z = some (.int x)) : (Jvm.Cond.eq t (.int n)).value args Z none Z [] = some (decide (x = n)) := by simp [Cond.value, Term.eval, h]
theorem own_eqI {args : Array Value} {Z : State} {t : Term} {n : Int32} (h : (Jvm.Cond.eq t (.int n)).value args Z none Z [] = some true) : t.eval args Z none [] Z = some (.int n) := by
  simp only [Cond.value, Term.eval] at h
  cases ht : t.eval args Z none [] Z with
  | none => simp [ht] at h
  | some x => cases x <;> simp [ht] at h ⊢; exact h
theorem own_ne {Z : State} {a b : Addr} {i j : Int32} (hi : Z.fieldOf? a "java/lang/Enum" "ordinal" "I" = some (.int i)) (hj : Z.fieldOf? b "java/lang/Enum" "ordinal" "I" = some (.int j)) (hn : i ≠ j) : a ≠ b := fun e => by
  subst e; rw [hi] at hj; exact hn (Value.int.inj (Option.some.inj hj))
set_option maxRecDepth 65536 in
set_option maxHeartbeats 40000000 in
theorem comes_1 {Post : Tables → Env → Array Value → State → Outcome → State → Prop} (hpost : ∀ tb e args s v u, (limb_1_1.after args s (.returned v) u = true ∧ limb_1_2.after args s (.returned v) u = true ∧ True) → ReturnedEndW s (.returned v) u (Jvm.fieldLocs frame_1_writes args s ++ Jvm.arrayLocs frame_1_arrays args s ++ Jvm.staticLocs frame_1_statics s) 32 3200 → Post tb e args s (.returned v) u) :
    ArmFor flags0 classFile x code maxLocals ret World_1 tables_1 room_1 Calls_1 rest_1 Pre_1 Post := by
  intro l hfl _ _ p e ha hc hk s m args below hf hA hF happ hP
  obtain ⟨hcalls, hrest, hpre⟩ := hP
  obtain ⟨-, -, -, hnamed, -, -, -, hat⟩ := (Spec.applies_iff hf).mp happ
  obtain ⟨hg, hn⟩ := and_e (Cond.before_iff.mp (show (Jvm.Cond.and given_1 narrow_1).before args s = true from hpre))
  obtain ⟨g1, g2⟩ := and_e hg
  obtain ⟨g3, g4⟩ := and_e g2
  obtain ⟨g5, g6⟩ := and_e g4
  obtain ⟨g7, g8⟩ := and_e g6
  obtain ⟨g9, g10⟩ := and_e g8
  obtain ⟨g11, g12⟩ := and_e hn
  obtain ⟨g13, g14⟩ := and_e g12
  obtain ⟨g15, g16⟩ := and_e g14
  obtain ⟨g17, g18⟩ := and_e g16
  obtain ⟨g19, g20⟩ := and_e g18
  obtain ⟨g21, g22⟩ := and_e g20
  obtain ⟨g23, g24⟩ := and_e g22
  obtain ⟨g25, g26⟩ := and_e g24
  obtain ⟨g27, g28⟩ := and_e g26
  obtain ⟨w0, w1, w2, w3, w4, rfl⟩ : ∃ w0 w1 w2 w3 w4 : Value, args = #[w0, w1, w2, w3, w4] := by
    have hs : args.size = 5 := by simpa [Cond.value, given_1] using g1
    obtain ⟨L⟩ := args
    match L, hs with
    | [w0, w1, w2, w3, w4], _ => exact ⟨w0, w1, w2, w3, w4, rfl⟩
  have hw := fun d (hd : d ∈ tables_1) => atoms_spec (ws := Jvm.Cond.code x code maxLocals ret :: tables_1) hat d (List.mem_cons_of_mem _ hd)
  have hfit : Fit s := fun {y c} hc i hi => by
    obtain ⟨ha, rfl⟩ := Array.getElem?_eq_some_iff.mp hc
    have q := List.all_eq_true.mp ((Array.all_eq_true_iff_forall_mem.mp hF) _ (Array.getElem_mem ha)) i (List.mem_range.mpr hi)
    simpa [Array.getElem?_eq_getElem hi] using q
  obtain ⟨hsets, hown0⟩ := atoms_of _ (rest_1_c_eq ▸ (show rest_1_c.before _ s = true from hrest))
  obtain ⟨i0, ei0⟩ := is_v g3
  obtain rfl : w0 = (.int i0) := Option.some.inj ei0
  obtain ⟨i1, ei1⟩ := is_v g5
  obtain rfl : w1 = (.int i1) := Option.some.inj ei1
  obtain ⟨i2, ei2⟩ := is_v g7
  obtain rfl : w2 = (.int i2) := Option.some.inj ei2
  obtain ⟨i3, ei3⟩ := is_v g9
  obtain rfl : w3 = (.int i3) := Option.some.inj ei3
  obtain ⟨i4, ei4⟩ := isL_v g10
  obtain rfl : w4 = (.long i4) := Option.some.inj ei4
  obtain ⟨cP, vP⟩ := is_v (Cond.before_iff.mp (hsets _ (List.mem_of_getElem? (i := 1) rfl)))
  have SP := Sta.start vP (Or.inl (hsets _ (List.mem_of_getElem? (i := 0) rfl)))
  have hP : ¬ cP = (0 : Int32) := gotF (eqI_v vP) (not_v (Cond.before_iff.mp (hsets _ (List.mem_of_getElem? (i := 2) rfl))))
  obtain ⟨ag29, vg29⟩ := exa_v g11
  have Sg29 := Sta.start vg29 (Or.inr ⟨(tw hw 55 rfl), (tw hw 56 rfl)⟩)
  have Eg29 := Exa.start vg29 g11
  have oREAD := own_eqI g15
  rw [fld_at vg29] at oREAD
  obtain ⟨ag30, vg30⟩ := exa_v g23
  have Sg30 := Sta.start vg30 (Or.inr ⟨(tw hw 55 rfl), (tw hw 142 rfl)⟩)
  have Eg30 := Exa.start vg30 g23
  have oWRITE := own_eqI g25
  rw [fld_at vg30] at oWRITE
  obtain ⟨ag31, vg31⟩ := exa_v g13
  have Sg31 := Sta.start vg31 (Or.inr ⟨(tw hw 55 rfl), (tw hw 74 rfl)⟩)
  have Eg31 := Exa.start vg31 g13
  have oCOMMIT := own_eqI g17
  rw [fld_at vg31] at oCOMMIT
  obtain ⟨ag32, vg32⟩ := exa_v g19
  have Sg32 := Sta.start vg32 (Or.inr ⟨(tw hw 91 rfl), (tw hw 92 rfl)⟩)
  have Eg32 := Exa.start vg32 g19
  obtain ⟨ag33, vg33⟩ := exa_v g21
  have Sg33 := Sta.start vg33 (Or.inr ⟨(tw hw 91 rfl), (tw hw 134 rfl)⟩)
  have Eg33 := Exa.start vg33 g21
  obtain ⟨ag34, vg34⟩ := exa_v g28
  have Sg34 := Sta.start vg34 (Or.inr ⟨(tw hw 91 rfl), (tw hw 152 rfl)⟩)
  have Eg34 := Exa.start vg34 g28
  obtain ⟨ag35, vg35⟩ := exa_v g27
  have Sg35 := Sta.start vg35 (Or.inr ⟨(tw hw 91 rfl), (tw hw 147 rfl)⟩)
  have Eg35 := Exa.start vg35 g27
  obtain ⟨n, o, h1, h2, h3, _, L, rfl, ⟨rfl, N, -⟩, hq⟩ := rm_law l s _ hw i0 i1 i2 i3 i4 cP ag29 ag30 ag31 ag32 ag33 ag34 ag35 s.heap (Ext.refl _) SP Sg29 Sg30 Sg31 Sg32 Sg33 Sg34 Sg35 hP (own_ne oREAD oCOMMIT (by decide)) (own_ne oWRITE oCOMMIT (by decide)) tables_1 p e ha hc hk s m _ below hf ((Spec.applies_iff_loose hf).mp happ).1 ⟨rfl, State.Warmed39.refl s, rfl⟩ trivial
  refine ⟨n, _, h1, h2, h3, hpost _ _ _ _ _ _ ⟨Cond.after_iff.mpr rfl, Cond.after_iff.mpr (eq_i res_at (Term.int_eval (1)) rfl), trivial⟩ ⟨hq.1, hq.2.1, hq.2.2.1, (hq.2.2.2.sift fun y hy => Or.inr (N y hy)).mono (by decide) (by decide)⟩⟩
theorem main_1_1 : Claimed_1_1 := comes_1 fun _ _ _ _ _ _ h hF => ⟨h.1, hF⟩
theorem main_1_2 : Claimed_1_2 := comes_1 fun _ _ _ _ _ _ h hF => ⟨h.2.1, hF⟩
end Jvm.Pilot.@@N@@
namespace Jvm.Pilot.@@N@@
open Jvm Jvm.ClassFile Sem Op Lib Jvm.Free Jvm.Stand Jvm.Pilot.@@N@@.Jvm.D
/-! MADE BY PROGRAM (witnessworld.py) out of the Statement's table words and the real class files: 28 classes; the members and pool entries that the words name. The judged class is class 1, her method 3. -/
namespace start1
open Jvm.ClassFile
def u (s : String) : CpInfo := .utf8 (stringToUtf16 s)
/-- a pool by its gaps: so many unusable entries, then the entry; so many at the end -/
def gap : Nat → List CpInfo → List CpInfo
  | 0, r => r
  | n + 1, r => .unusable :: gap n r
def poolList (es : List (Nat × CpInfo)) (last : Nat) : List CpInfo := es.foldr (fun e r => gap e.1 (e.2 :: r)) (gap last [])
def pool (es : List (Nat × CpInfo)) (last : Nat) : Array CpInfo := ⟨poolList es last⟩
def fileOf (pool : Array CpInfo) (this : Nat) (attrs : Array Attribute := #[]) (ms : Array MethodInfo := #[]) (fl : Nat := 33) (sup : Nat := 0) (ifs : Array Nat := #[]) (fds : Array FieldInfo := #[]) : ClassFile where
  minorVersion := 0
  majorVersion := 65
  constantPool := pool
  accessFlags := fl
  thisClass := this
  superClass := sup
  interfaces := ifs
  fields := fds
  methods := ms
  attributes := attrs
def plain (name : String) (sup : Option ClassId) : Class where
  name := name
  kind := .ordinary
  loader := none
  accessFlags := 33
  super := sup
  interfaces := #[]
  cf := none
  fields := #[]
  methods := #[]
  instanceTypes := #[]
  staticTypes := #[]
  resolved := #[]
  callSites := []
  init := .initialized
  statics := none
  mirror := none

def pool0 : Array CpInfo := pool [(5, u "<init>"), (0, u "()V"), (1, .class_ 10), (1, u "java/lang/Object")] 113

def k0c0 : Code := { maxStack := 0, maxLocals := 1, code := object_method_1_code, exceptionTable := #[], attributes := #[] }
def k0m0 : Method := { name := "<init>", desc := "()V", sig := { parameters := [], returnType := none }, accessFlags := 1, code := some k0c0 }
/-- java/lang/Object -/
def k0 : Class := { plain "java/lang/Object" none with
  accessFlags := 33
  interfaces := #[]
  cf := some (fileOf pool0 8 #[] #[{ accessFlags := 1, nameIndex := 5, descriptorIndex := 6, attributes := #[] }] 33 0 #[] #[])
  fields := #[]
  methods := #[k0m0]
  instanceTypes := #[]
  staticTypes := #[]
  resolved := Array.replicate 124 none
  statics := none }

def pool1 : Array CpInfo := pool [(2, .class_ 4), (1, u "java/lang/Object"), (0, u "<init>"), (0, u "()V"), (0, .methodref 8 9), (0, .class_ 10), (0, .nameAndType 11 12), (0, u "com/example/opacheck/opacheck/Operation"), (0, u "read"), (0, u "(Ljava/lang/String;)Lcom/example/opacheck/opacheck/Operation;"), (0, .methodref 8 14), (0, .nameAndType 15 16), (0, u "write"), (0, u "(Ljava/lang/String;J)Lcom/example/opacheck/opacheck/Operation;"), (0, .methodref 8 18), (0, .nameAndType 19 20), (0, u "commit"), (0, u "()Lcom/example/opacheck/opacheck/Operation;"), (0, .methodref 22 23), (0, .class_ 24), (0, .nameAndType 25 26), (0, u "com/example/opacheck/opacheck/Response"), (0, u "value"), (0, u "(J)Lcom/example/opacheck/opacheck/Response;"), (0, .methodref 22 28), (0, .nameAndType 29 30), (0, u "ok"), (0, u "()Lcom/example/opacheck/opacheck/Response;"), (0, .methodref 22 32), (0, .nameAndType 33 30), (0, u "committed"), (0, .methodref 22 35), (0, .nameAndType 36 30), (0, u "aborted"), (0, .class_ 38), (0, u "java/lang/String"), (0, .methodref 37 40), (0, .nameAndType 5 41), (0, u "([C)V"), (0, .methodref 37 43), (0, .nameAndType 44 45), (0, u "valueOf"), (0, u "(C)Ljava/lang/String;"), (0, .methodref 47 48), (0, .class_ 49), (0, .nameAndType 50 51), (0, u "com/example/opacheck/opacheck/EventIsBeginPinLaw"), (0, u "makeOperation"), (0, u "(ILjava/lang/String;J)Lcom/example/opacheck/opacheck/Operation;"), (0, .methodref 47 53), (0, .nameAndType 54 55), (0, u "makeResponse"), (0, u "(IJ)Lcom/example/opacheck/opacheck/Response;"), (0, .class_ 57), (0, u "com/example/opacheck/opacheck/Event"), (0, .integer 2147483647), (0, .methodref 60 61), (0, .class_ 62), (0, .nameAndType 63 64), (0, u "java/lang/Math"), (0, u "max"), (0, u "(II)I"), (0, .methodref 56 66), (0, .nameAndType 5 67), (0, u "(ILjava/lang/String;Lcom/example/opacheck/opacheck/Operation;Lcom/example/opacheck/opacheck/Response;)V"), (0, .methodref 56 69), (0, .nameAndType 70 71), (0, u "isBegin"), (0, u "()Z"), (3, u "law"), (0, u "(IIIIJ)Z")] 4

def k1m0 : Method := { name := "<init>", desc := "()V", sig := { parameters := [], returnType := none }, accessFlags := 1, code := none }
def k1c1 : Code := { maxStack := 3, maxLocals := 4, code := method_2_code, exceptionTable := #[], attributes := #[] }
def k1m1 : Method := { name := "makeOperation", desc := "(ILjava/lang/String;J)Lcom/example/opacheck/opacheck/Operation;", sig := { parameters := [.int, (.object "java/lang/String"), .long], returnType := some (.object "com/example/opacheck/opacheck/Operation") }, accessFlags := 10, code := some k1c1 }
def k1c2 : Code := { maxStack := 2, maxLocals := 3, code := method_3_code, exceptionTable := #[], attributes := #[] }
def k1m2 : Method := { name := "makeResponse", desc := "(IJ)Lcom/example/opacheck/opacheck/Response;", sig := { parameters := [.int, .long], returnType := some (.object "com/example/opacheck/opacheck/Response") }, accessFlags := 10, code := some k1c2 }
def k1c3 : Code := { maxStack := 6, maxLocals := 16, code := code, exceptionTable := #[], attributes := #[] }
def k1m3 : Method := { name := "law", desc := "(IIIIJ)Z", sig := { parameters := [.int, .int, .int, .int, .long], returnType := some .boolean }, accessFlags := 9, code := some k1c3 }
/-- com/example/opacheck/opacheck/EventIsBeginPinLaw -/
def k1 : Class := { plain "com/example/opacheck/opacheck/EventIsBeginPinLaw" (some 0) with
  accessFlags := 49
  interfaces := #[]
  cf := some (fileOf pool1 47 #[] #[{ accessFlags := 1, nameIndex := 5, descriptorIndex := 6, attributes := #[] }, { accessFlags := 10, nameIndex := 50, descriptorIndex := 51, attributes := #[] }, { accessFlags := 10, nameIndex := 54, descriptorIndex := 55, attributes := #[] }, { accessFlags := 9, nameIndex := 75, descriptorIndex := 76, attributes := #[] }] 49 2 #[] #[])
  fields := #[]
  methods := #[k1m0, k1m1, k1m2, k1m3]
  instanceTypes := #[]
  staticTypes := #[]
  resolved := Array.replicate 81 none
  statics := none }

def pool2 : Array CpInfo := pool [(1, .class_ 2), (0, u "java/io/Serializable"), (0, .class_ 4), (0, u "java/lang/Object")] 2

/-- java/io/Serializable -/
def k2 : Class := { plain "java/io/Serializable" (some 0) with
  accessFlags := 1537
  interfaces := #[]
  cf := some (fileOf pool2 1 #[] #[] 1537 3 #[] #[])
  fields := #[]
  methods := #[]
  instanceTypes := #[]
  staticTypes := #[]
  resolved := Array.replicate 7 none
  statics := none }

def pool3 : Array CpInfo := pool [(1, .class_ 2), (0, u "java/lang/Comparable"), (0, .class_ 4), (0, u "java/lang/Object")] 7

/-- java/lang/Comparable -/
def k3 : Class := { plain "java/lang/Comparable" (some 0) with
  accessFlags := 1537
  interfaces := #[]
  cf := some (fileOf pool3 1 #[] #[] 1537 3 #[] #[])
  fields := #[]
  methods := #[]
  instanceTypes := #[]
  staticTypes := #[]
  resolved := Array.replicate 12 none
  statics := none }

def pool4 : Array CpInfo := pool [(2, .class_ 4), (1, u "java/lang/CharSequence"), (42, .class_ 48), (0, u "java/lang/CharSequence$1CodePointIterator"), (10, .class_ 60), (0, u "java/lang/CharSequence$1CharIterator"), (5, .class_ 67), (0, u "java/lang/Object")] 63

/-- java/lang/CharSequence -/
def k4 : Class := { plain "java/lang/CharSequence" (some 0) with
  accessFlags := 1537
  interfaces := #[]
  cf := some (fileOf pool4 2 #[.nestMembers #[47, 59]] #[] 1537 66 #[] #[])
  fields := #[]
  methods := #[]
  instanceTypes := #[]
  staticTypes := #[]
  resolved := Array.replicate 131 none
  statics := none }

def pool5 : Array CpInfo := pool [(1, .class_ 2), (0, u "java/lang/constant/Constable"), (0, .class_ 4), (0, u "java/lang/Object")] 6

/-- java/lang/constant/Constable -/
def k5 : Class := { plain "java/lang/constant/Constable" (some 0) with
  accessFlags := 1537
  interfaces := #[]
  cf := some (fileOf pool5 1 #[] #[] 1537 3 #[] #[])
  fields := #[]
  methods := #[]
  instanceTypes := #[]
  staticTypes := #[]
  resolved := Array.replicate 11 none
  statics := none }

def pool6 : Array CpInfo := pool [(1, .class_ 2), (0, u "java/lang/constant/ConstantDesc"), (0, .class_ 4), (0, u "java/lang/Object")] 32

/-- java/lang/constant/ConstantDesc -/
def k6 : Class := { plain "java/lang/constant/ConstantDesc" (some 0) with
  accessFlags := 1537
  interfaces := #[]
  cf := some (fileOf pool6 1 #[] #[] 1537 3 #[] #[])
  fields := #[]
  methods := #[]
  instanceTypes := #[]
  staticTypes := #[]
  resolved := Array.replicate 37 none
  statics := none }

def pool7 : Array CpInfo := pool [(1, .methodref 2 3), (0, .class_ 4), (0, .nameAndType 5 6), (0, u "java/lang/Object"), (0, u "<init>"), (0, u "()V"), (2, .fieldref 10 11), (0, .class_ 12), (0, .nameAndType 13 14), (0, u "java/lang/String"), (0, u "value"), (0, u "[B"), (0, .fieldref 10 16), (0, .nameAndType 17 18), (0, u "coder"), (0, u "B"), (2, u "hash"), (0, u "I"), (2, u "hashIsZero"), (0, u "Z"), (0, .methodref 10 28), (0, .nameAndType 5 29), (0, u "([CIILjava/lang/Void;)V"), (8, .fieldref 10 39), (0, .nameAndType 40 26), (0, u "COMPACT_STRINGS"), (1, .class_ 44), (1, u "java/lang/StringUTF16"), (0, u "compress"), (1, .methodref 42 48), (0, .nameAndType 49 50), (0, u "coderFromArrayLen"), (0, u "([BI)B"), (2, u "toBytes"), (53, .class_ 109), (1, u "java/lang/StringLatin1"), (67, .methodref 42 178), (0, .nameAndType 45 179), (0, u "([CII)[B"), (29, .methodref 10 210), (0, .nameAndType 5 211), (0, u "([BB)V"), (157, u "(C)Z"), (205, .class_ 576), (0, u "java/lang/CharSequence"), (22, u "CASE_INSENSITIVE_ORDER"), (0, u "Ljava/util/Comparator;"), (181, u "valueOf"), (0, u "(C)Ljava/lang/String;"), (226, u "([C)V"), (4, .methodref 107 1016), (0, .nameAndType 1017 369), (0, u "canEncode"), (0, .methodref 107 1019), (0, .nameAndType 53 1020), (0, u "(C)[B"), (80, u "serialPersistentFields"), (0, u "[Ljava/io/ObjectStreamField;"), (0, .class_ 1104), (0, u "java/lang/String$CaseInsensitiveComparator"), (1, .class_ 1107), (0, u "java/io/Serializable"), (0, .class_ 1109), (0, u "java/lang/Comparable"), (0, .class_ 1111), (0, u "java/lang/constant/Constable"), (0, .class_ 1113), (0, u "java/lang/constant/ConstantDesc"), (2, u "serialVersionUID"), (0, u "J"), (3, u "REPL"), (0, u "C"), (2, u "LATIN1"), (1, u "UTF16")] 323

def k7m0 : Method := { name := "<init>", desc := "()V", sig := { parameters := [], returnType := none }, accessFlags := 1, code := none }
def k7c1 : Code := { maxStack := 5, maxLocals := 2, code := jdk_42_method_3_code, exceptionTable := #[], attributes := #[] }
def k7m1 : Method := { name := "<init>", desc := "([C)V", sig := { parameters := [(.array .char)], returnType := none }, accessFlags := 1, code := some k7c1 }
def k7c2 : Code := { maxStack := 4, maxLocals := 1, code := jdk_42_method_139_code, exceptionTable := #[], attributes := #[] }
def k7m2 : Method := { name := "valueOf", desc := "(C)Ljava/lang/String;", sig := { parameters := [.char], returnType := some (.object "java/lang/String") }, accessFlags := 9, code := some k7c2 }
def k7c3 : Code := { maxStack := 4, maxLocals := 6, code := jdk_42_method_149_code, exceptionTable := #[], attributes := #[] }
def k7m3 : Method := { name := "<init>", desc := "([CIILjava/lang/Void;)V", sig := { parameters := [(.array .char), .int, .int, (.object "java/lang/Void")], returnType := none }, accessFlags := 2, code := some k7c3 }
def k7c4 : Code := { maxStack := 2, maxLocals := 3, code := jdk_42_method_151_code, exceptionTable := #[], attributes := #[] }
def k7m4 : Method := { name := "<init>", desc := "([BB)V", sig := { parameters := [(.array .byte), .byte], returnType := none }, accessFlags := 0, code := some k7c4 }
/-- java/lang/String -/
def k7 : Class := { plain "java/lang/String" (some 0) with
  accessFlags := 49
  interfaces := #[2, 3, 4, 5, 6]
  cf := some (fileOf pool7 10 #[.nestMembers #[1103]] #[{ accessFlags := 1, nameIndex := 5, descriptorIndex := 6, attributes := #[] }, { accessFlags := 1, nameIndex := 5, descriptorIndex := 1010, attributes := #[] }, { accessFlags := 9, nameIndex := 782, descriptorIndex := 783, attributes := #[] }, { accessFlags := 2, nameIndex := 5, descriptorIndex := 29, attributes := #[] }, { accessFlags := 0, nameIndex := 5, descriptorIndex := 211, attributes := #[] }] 49 2 #[1106, 1108, 575, 1110, 1112] #[{ accessFlags := 18, nameIndex := 13, descriptorIndex := 14, attributes := #[] }, { accessFlags := 18, nameIndex := 17, descriptorIndex := 18, attributes := #[] }, { accessFlags := 2, nameIndex := 21, descriptorIndex := 22, attributes := #[] }, { accessFlags := 2, nameIndex := 25, descriptorIndex := 26, attributes := #[] }, { accessFlags := 26, nameIndex := 1116, descriptorIndex := 1117, attributes := #[] }, { accessFlags := 24, nameIndex := 40, descriptorIndex := 26, attributes := #[] }, { accessFlags := 26, nameIndex := 1101, descriptorIndex := 1102, attributes := #[] }, { accessFlags := 26, nameIndex := 1121, descriptorIndex := 1122, attributes := #[] }, { accessFlags := 25, nameIndex := 599, descriptorIndex := 600, attributes := #[] }, { accessFlags := 24, nameIndex := 1125, descriptorIndex := 18, attributes := #[] }, { accessFlags := 24, nameIndex := 1127, descriptorIndex := 18, attributes := #[] }])
  fields := #[{ name := "value", type := (.array .byte), accessFlags := 18, slot := 0, constantValue := 0 }, { name := "coder", type := .byte, accessFlags := 18, slot := 1, constantValue := 0 }, { name := "hash", type := .int, accessFlags := 2, slot := 2, constantValue := 0 }, { name := "hashIsZero", type := .boolean, accessFlags := 2, slot := 3, constantValue := 0 }, { name := "serialVersionUID", type := .long, accessFlags := 26, slot := 0, constantValue := 0 }, { name := "COMPACT_STRINGS", type := .boolean, accessFlags := 24, slot := 1, constantValue := 0 }, { name := "serialPersistentFields", type := (.array (.object "java/io/ObjectStreamField")), accessFlags := 26, slot := 2, constantValue := 0 }, { name := "REPL", type := .char, accessFlags := 26, slot := 3, constantValue := 0 }, { name := "CASE_INSENSITIVE_ORDER", type := (.object "java/util/Comparator"), accessFlags := 25, slot := 4, constantValue := 0 }, { name := "LATIN1", type := .byte, accessFlags := 24, slot := 5, constantValue := 0 }, { name := "UTF16", type := .byte, accessFlags := 24, slot := 6, constantValue := 0 }]
  methods := #[k7m0, k7m1, k7m2, k7m3, k7m4]
  instanceTypes := #[(.array .byte), .byte, .int, .boolean]
  staticTypes := #[.long, .boolean, (.array (.object "java/io/ObjectStreamField")), .char, (.object "java/util/Comparator"), .byte, .byte]
  resolved := Array.replicate 1451 none
  statics := some 0 }

def pool8 : Array CpInfo := pool [(6, .class_ 8), (1, u "java/lang/Object"), (0, u "<init>"), (0, u "()V"), (1, .class_ 14), (1, u "java/lang/StringUTF16"), (31, u "$assertionsDisabled"), (0, u "Z"), (13, u "HI_BYTE_SHIFT"), (0, u "I"), (2, u "LO_BYTE_SHIFT"), (49, .methodref 12 116), (0, .nameAndType 117 118), (0, u "compress"), (0, u "([CI[BII)I"), (3, u "([CII)[B"), (138, u "coderFromArrayLen"), (0, u "([BI)B"), (106, .class_ 371), (1, u "java/lang/StringUTF16$LinesSpliterator"), (58, u "MAX_LENGTH"), (196, .class_ 628), (0, u "java/lang/StringUTF16$CodePointsSpliterator"), (0, .class_ 630), (0, u "java/lang/StringUTF16$CharsSpliterator")] 4

def k8m0 : Method := { name := "<init>", desc := "()V", sig := { parameters := [], returnType := none }, accessFlags := 0, code := none }
def k8c1 : Code := { maxStack := 2, maxLocals := 2, code := jdk_52_method_15_code, exceptionTable := #[], attributes := #[] }
def k8m1 : Method := { name := "coderFromArrayLen", desc := "([BI)B", sig := { parameters := [(.array .byte), .int], returnType := some .byte }, accessFlags := 8, code := some k8c1 }
def k8c2 : Code := { maxStack := 5, maxLocals := 6, code := jdk_52_method_16_code, exceptionTable := #[], attributes := #[] }
def k8m2 : Method := { name := "compress", desc := "([CII)[B", sig := { parameters := [(.array .char), .int, .int], returnType := some (.array .byte) }, accessFlags := 9, code := some k8c2 }
def k8c3 : Code := { maxStack := 3, maxLocals := 7, code := jdk_52_method_21_code, exceptionTable := #[], attributes := #[] }
def k8m3 : Method := { name := "compress", desc := "([CI[BII)I", sig := { parameters := [(.array .char), .int, (.array .byte), .int, .int], returnType := some .int }, accessFlags := 9, code := some k8c3 }
/-- java/lang/StringUTF16 -/
def k8 : Class := { plain "java/lang/StringUTF16" (some 0) with
  accessFlags := 48
  interfaces := #[]
  cf := some (fileOf pool8 12 #[.nestMembers #[627, 629, 369]] #[{ accessFlags := 0, nameIndex := 9, descriptorIndex := 10, attributes := #[] }, { accessFlags := 8, nameIndex := 261, descriptorIndex := 262, attributes := #[] }, { accessFlags := 9, nameIndex := 117, descriptorIndex := 122, attributes := #[] }, { accessFlags := 9, nameIndex := 117, descriptorIndex := 118, attributes := #[] }] 48 6 #[] #[{ accessFlags := 26, nameIndex := 61, descriptorIndex := 62, attributes := #[] }, { accessFlags := 26, nameIndex := 65, descriptorIndex := 62, attributes := #[] }, { accessFlags := 24, nameIndex := 430, descriptorIndex := 62, attributes := #[] }, { accessFlags := 4120, nameIndex := 46, descriptorIndex := 47, attributes := #[] }])
  fields := #[{ name := "HI_BYTE_SHIFT", type := .int, accessFlags := 26, slot := 0, constantValue := 0 }, { name := "LO_BYTE_SHIFT", type := .int, accessFlags := 26, slot := 1, constantValue := 0 }, { name := "MAX_LENGTH", type := .int, accessFlags := 24, slot := 2, constantValue := 0 }, { name := "$assertionsDisabled", type := .boolean, accessFlags := 4120, slot := 3, constantValue := 0 }]
  methods := #[k8m0, k8m1, k8m2, k8m3]
  instanceTypes := #[]
  staticTypes := #[.int, .int, .int, .boolean]
  resolved := Array.replicate 635 none
  statics := none }

def pool9 : Array CpInfo := pool [(4, .class_ 6), (1, u "java/lang/Object"), (0, u "<init>"), (0, u "()V"), (5, .class_ 16), (1, u "java/lang/StringLatin1"), (73, u "canEncode"), (14, u "(C)Z"), (15, u "$assertionsDisabled"), (0, u "Z"), (98, .class_ 223), (1, u "java/lang/StringLatin1$LinesSpliterator"), (156, u "toBytes"), (1, u "(C)[B"), (7, .class_ 391), (0, u "java/lang/StringLatin1$CharsSpliterator")] 3

def k9m0 : Method := { name := "<init>", desc := "()V", sig := { parameters := [], returnType := none }, accessFlags := 0, code := none }
def k9c1 : Code := { maxStack := 2, maxLocals := 1, code := jdk_43_method_3_code, exceptionTable := #[], attributes := #[] }
def k9m1 : Method := { name := "canEncode", desc := "(C)Z", sig := { parameters := [.char], returnType := some .boolean }, accessFlags := 9, code := some k9c1 }
def k9c2 : Code := { maxStack := 4, maxLocals := 1, code := jdk_43_method_46_code, exceptionTable := #[], attributes := #[] }
def k9m2 : Method := { name := "toBytes", desc := "(C)[B", sig := { parameters := [.char], returnType := some (.array .byte) }, accessFlags := 9, code := some k9c2 }
/-- java/lang/StringLatin1 -/
def k9 : Class := { plain "java/lang/StringLatin1" (some 0) with
  accessFlags := 48
  interfaces := #[]
  cf := some (fileOf pool9 14 #[.nestMembers #[390, 221]] #[{ accessFlags := 0, nameIndex := 7, descriptorIndex := 8, attributes := #[] }, { accessFlags := 9, nameIndex := 90, descriptorIndex := 105, attributes := #[] }, { accessFlags := 9, nameIndex := 380, descriptorIndex := 382, attributes := #[] }] 48 4 #[] #[{ accessFlags := 4120, nameIndex := 121, descriptorIndex := 122, attributes := #[] }])
  fields := #[{ name := "$assertionsDisabled", type := .boolean, accessFlags := 4120, slot := 0, constantValue := 0 }]
  methods := #[k9m0, k9m1, k9m2]
  instanceTypes := #[]
  staticTypes := #[.boolean]
  resolved := Array.replicate 395 none
  statics := none }

def pool10 : Array CpInfo := pool [(1, .methodref 2 3), (0, .class_ 4), (0, .nameAndType 5 6), (0, u "java/lang/Object"), (0, u "<init>"), (0, u "()V"), (0, .class_ 8), (0, u "java/lang/Record")] 13

def k10c0 : Code := { maxStack := 1, maxLocals := 1, code := jdk_30_method_1_code, exceptionTable := #[], attributes := #[] }
def k10m0 : Method := { name := "<init>", desc := "()V", sig := { parameters := [], returnType := none }, accessFlags := 4, code := some k10c0 }
/-- java/lang/Record -/
def k10 : Class := { plain "java/lang/Record" (some 0) with
  accessFlags := 1057
  interfaces := #[]
  cf := some (fileOf pool10 7 #[] #[{ accessFlags := 4, nameIndex := 5, descriptorIndex := 6, attributes := #[] }] 1057 2 #[] #[])
  fields := #[]
  methods := #[k10m0]
  instanceTypes := #[]
  staticTypes := #[]
  resolved := Array.replicate 22 none
  statics := none }

def pool11 : Array CpInfo := pool [(1, .methodref 2 3), (0, .class_ 4), (0, .nameAndType 5 6), (0, u "java/lang/Record"), (0, u "<init>"), (0, u "()V"), (0, .string 8), (0, u "kind"), (0, .methodref 10 11), (0, .class_ 12), (0, .nameAndType 13 14), (0, u "java/util/Objects"), (0, u "requireNonNull"), (0, u "(Ljava/lang/Object;Ljava/lang/String;)Ljava/lang/Object;"), (0, .fieldref 16 17), (0, .class_ 18), (0, .nameAndType 19 20), (0, u "com/example/opacheck/opacheck/Operation$Kind"), (0, u "COMMIT"), (0, u "Lcom/example/opacheck/opacheck/Operation$Kind;"), (15, .fieldref 37 38), (0, .class_ 39), (0, .nameAndType 8 20), (0, u "com/example/opacheck/opacheck/Operation"), (0, .fieldref 37 41), (0, .nameAndType 42 43), (0, u "variable"), (0, u "Ljava/lang/String;"), (0, .fieldref 37 45), (0, .nameAndType 46 47), (0, u "value"), (0, u "J"), (0, .fieldref 16 49), (0, .nameAndType 50 20), (0, u "READ"), (0, .methodref 37 52), (0, .nameAndType 5 53), (0, u "(Lcom/example/opacheck/opacheck/Operation$Kind;Ljava/lang/String;J)V"), (0, .fieldref 16 55), (0, .nameAndType 56 20), (0, u "WRITE"), (16, u "commit"), (16, u "read"), (0, u "(Ljava/lang/String;)Lcom/example/opacheck/opacheck/Operation;"), (0, u "write"), (0, u "(Ljava/lang/String;J)Lcom/example/opacheck/opacheck/Operation;"), (0, u "()Lcom/example/opacheck/opacheck/Operation;")] 41

def k11c0 : Code := { maxStack := 4, maxLocals := 5, code := prog_42_method_1_code, exceptionTable := #[], attributes := #[] }
def k11m0 : Method := { name := "<init>", desc := "(Lcom/example/opacheck/opacheck/Operation$Kind;Ljava/lang/String;J)V", sig := { parameters := [(.object "com/example/opacheck/opacheck/Operation$Kind"), (.object "java/lang/String"), .long], returnType := none }, accessFlags := 1, code := some k11c0 }
def k11c1 : Code := { maxStack := 6, maxLocals := 1, code := prog_42_method_2_code, exceptionTable := #[], attributes := #[] }
def k11m1 : Method := { name := "read", desc := "(Ljava/lang/String;)Lcom/example/opacheck/opacheck/Operation;", sig := { parameters := [(.object "java/lang/String")], returnType := some (.object "com/example/opacheck/opacheck/Operation") }, accessFlags := 9, code := some k11c1 }
def k11c2 : Code := { maxStack := 6, maxLocals := 3, code := prog_42_method_3_code, exceptionTable := #[], attributes := #[] }
def k11m2 : Method := { name := "write", desc := "(Ljava/lang/String;J)Lcom/example/opacheck/opacheck/Operation;", sig := { parameters := [(.object "java/lang/String"), .long], returnType := some (.object "com/example/opacheck/opacheck/Operation") }, accessFlags := 9, code := some k11c2 }
def k11c3 : Code := { maxStack := 6, maxLocals := 0, code := prog_42_method_4_code, exceptionTable := #[], attributes := #[] }
def k11m3 : Method := { name := "commit", desc := "()Lcom/example/opacheck/opacheck/Operation;", sig := { parameters := [], returnType := some (.object "com/example/opacheck/opacheck/Operation") }, accessFlags := 9, code := some k11c3 }
/-- com/example/opacheck/opacheck/Operation -/
def k11 : Class := { plain "com/example/opacheck/opacheck/Operation" (some 10) with
  accessFlags := 49
  interfaces := #[]
  cf := some (fileOf pool11 37 #[.nestMembers #[16]] #[{ accessFlags := 1, nameIndex := 5, descriptorIndex := 53, attributes := #[] }, { accessFlags := 9, nameIndex := 90, descriptorIndex := 91, attributes := #[] }, { accessFlags := 9, nameIndex := 92, descriptorIndex := 93, attributes := #[] }, { accessFlags := 9, nameIndex := 73, descriptorIndex := 94, attributes := #[] }] 49 2 #[] #[{ accessFlags := 18, nameIndex := 8, descriptorIndex := 20, attributes := #[] }, { accessFlags := 18, nameIndex := 42, descriptorIndex := 43, attributes := #[] }, { accessFlags := 18, nameIndex := 46, descriptorIndex := 47, attributes := #[] }])
  fields := #[{ name := "kind", type := (.object "com/example/opacheck/opacheck/Operation$Kind"), accessFlags := 18, slot := 0, constantValue := 0 }, { name := "variable", type := (.object "java/lang/String"), accessFlags := 18, slot := 1, constantValue := 0 }, { name := "value", type := .long, accessFlags := 18, slot := 2, constantValue := 0 }]
  methods := #[k11m0, k11m1, k11m2, k11m3]
  instanceTypes := #[(.object "com/example/opacheck/opacheck/Operation$Kind"), (.object "java/lang/String"), .long]
  staticTypes := #[]
  resolved := Array.replicate 136 none
  statics := none }

def pool12 : Array CpInfo := pool [(2, .class_ 4), (1, u "java/lang/Enum"), (0, u "name"), (0, u "Ljava/lang/String;"), (2, u "ordinal"), (0, u "I"), (1, .class_ 14), (1, u "java/lang/Object"), (4, u "hash"), (86, .class_ 108), (1, u "java/lang/Enum$EnumDesc"), (2, .class_ 112), (0, u "java/lang/constant/Constable"), (0, .class_ 114), (0, u "java/lang/Comparable"), (0, .class_ 116), (0, u "java/io/Serializable")] 87

/-- java/lang/Enum -/
def k12 : Class := { plain "java/lang/Enum" (some 0) with
  accessFlags := 1057
  interfaces := #[5, 3, 2]
  cf := some (fileOf pool12 2 #[.nestMembers #[106]] #[] 1057 12 #[111, 113, 115] #[{ accessFlags := 18, nameIndex := 5, descriptorIndex := 6, attributes := #[] }, { accessFlags := 18, nameIndex := 9, descriptorIndex := 10, attributes := #[] }, { accessFlags := 2, nameIndex := 19, descriptorIndex := 10, attributes := #[] }])
  fields := #[{ name := "name", type := (.object "java/lang/String"), accessFlags := 18, slot := 0, constantValue := 0 }, { name := "ordinal", type := .int, accessFlags := 18, slot := 1, constantValue := 0 }, { name := "hash", type := .int, accessFlags := 2, slot := 2, constantValue := 0 }]
  methods := #[]
  instanceTypes := #[(.object "java/lang/String"), .int, .int]
  staticTypes := #[]
  resolved := Array.replicate 204 none
  statics := none }

def pool13 : Array CpInfo := pool [(1, .class_ 2), (0, u "com/example/opacheck/opacheck/Operation$Kind"), (2, u "READ"), (0, u "Lcom/example/opacheck/opacheck/Operation$Kind;"), (2, u "WRITE"), (2, u "COMMIT"), (2, u "$VALUES"), (0, u "[Lcom/example/opacheck/opacheck/Operation$Kind;"), (6, .class_ 25), (1, u "java/lang/Enum"), (26, .class_ 53), (0, u "com/example/opacheck/opacheck/Operation")] 2

/-- com/example/opacheck/opacheck/Operation$Kind -/
def k13 : Class := { plain "com/example/opacheck/opacheck/Operation$Kind" (some 12) with
  accessFlags := 16433
  interfaces := #[]
  cf := some (fileOf pool13 1 #[.nestHost 52] #[] 16433 23 #[] #[{ accessFlags := 16409, nameIndex := 5, descriptorIndex := 6, attributes := #[] }, { accessFlags := 16409, nameIndex := 9, descriptorIndex := 6, attributes := #[] }, { accessFlags := 16409, nameIndex := 12, descriptorIndex := 6, attributes := #[] }, { accessFlags := 4122, nameIndex := 15, descriptorIndex := 16, attributes := #[] }])
  fields := #[{ name := "READ", type := (.object "com/example/opacheck/opacheck/Operation$Kind"), accessFlags := 16409, slot := 0, constantValue := 0 }, { name := "WRITE", type := (.object "com/example/opacheck/opacheck/Operation$Kind"), accessFlags := 16409, slot := 1, constantValue := 0 }, { name := "COMMIT", type := (.object "com/example/opacheck/opacheck/Operation$Kind"), accessFlags := 16409, slot := 2, constantValue := 0 }, { name := "$VALUES", type := (.array (.object "com/example/opacheck/opacheck/Operation$Kind")), accessFlags := 4122, slot := 3, constantValue := 0 }]
  methods := #[]
  instanceTypes := #[(.object "java/lang/String"), .int, .int]
  staticTypes := #[(.object "com/example/opacheck/opacheck/Operation$Kind"), (.object "com/example/opacheck/opacheck/Operation$Kind"), (.object "com/example/opacheck/opacheck/Operation$Kind"), (.array (.object "com/example/opacheck/opacheck/Operation$Kind"))]
  resolved := Array.replicate 56 none
  statics := some 1 }

def pool14 : Array CpInfo := pool [(2, .class_ 4), (1, u "java/lang/Object"), (0, u "<init>"), (0, u "()V"), (35, .class_ 44), (1, u "java/util/Objects"), (0, u "requireNonNull"), (48, u "(Ljava/lang/Object;Ljava/lang/String;)Ljava/lang/Object;")] 89

def k14m0 : Method := { name := "<init>", desc := "()V", sig := { parameters := [], returnType := none }, accessFlags := 2, code := none }
def k14c1 : Code := { maxStack := 3, maxLocals := 2, code := jdk_31_method_11_code, exceptionTable := #[], attributes := #[] }
def k14m1 : Method := { name := "requireNonNull", desc := "(Ljava/lang/Object;Ljava/lang/String;)Ljava/lang/Object;", sig := { parameters := [(.object "java/lang/Object"), (.object "java/lang/String")], returnType := some (.object "java/lang/Object") }, accessFlags := 9, code := some k14c1 }
/-- java/util/Objects -/
def k14 : Class := { plain "java/util/Objects" (some 0) with
  accessFlags := 49
  interfaces := #[]
  cf := some (fileOf pool14 42 #[] #[{ accessFlags := 2, nameIndex := 5, descriptorIndex := 6, attributes := #[] }, { accessFlags := 9, nameIndex := 45, descriptorIndex := 94, attributes := #[] }] 49 2 #[] #[])
  fields := #[]
  methods := #[k14m0, k14m1]
  instanceTypes := #[]
  staticTypes := #[]
  resolved := Array.replicate 184 none
  statics := none }

def pool15 : Array CpInfo := pool [(1, .methodref 2 3), (0, .class_ 4), (0, .nameAndType 5 6), (0, u "java/lang/Record"), (0, u "<init>"), (0, u "()V"), (0, .string 8), (0, u "kind"), (0, .methodref 10 11), (0, .class_ 12), (0, .nameAndType 13 14), (0, u "java/util/Objects"), (0, u "requireNonNull"), (0, u "(Ljava/lang/Object;Ljava/lang/String;)Ljava/lang/Object;"), (0, .fieldref 16 17), (0, .class_ 18), (0, .nameAndType 8 19), (0, u "com/example/opacheck/opacheck/Response"), (0, u "Lcom/example/opacheck/opacheck/Response$Kind;"), (0, .fieldref 16 21), (0, .nameAndType 22 23), (0, u "value"), (0, u "J"), (0, .fieldref 25 26), (0, .class_ 27), (0, .nameAndType 28 19), (0, u "com/example/opacheck/opacheck/Response$Kind"), (0, u "VALUE"), (0, .methodref 16 30), (0, .nameAndType 5 31), (0, u "(Lcom/example/opacheck/opacheck/Response$Kind;J)V"), (0, .fieldref 25 33), (0, .nameAndType 34 19), (0, u "OK"), (0, .fieldref 25 36), (0, .nameAndType 37 19), (0, u "COMMITTED"), (0, .fieldref 25 39), (0, .nameAndType 40 19), (0, u "ABORTED"), (61, u "(J)Lcom/example/opacheck/opacheck/Response;"), (0, u "ok"), (0, u "()Lcom/example/opacheck/opacheck/Response;"), (0, u "committed"), (0, u "aborted")] 38

def k15c0 : Code := { maxStack := 3, maxLocals := 4, code := prog_53_method_1_code, exceptionTable := #[], attributes := #[] }
def k15m0 : Method := { name := "<init>", desc := "(Lcom/example/opacheck/opacheck/Response$Kind;J)V", sig := { parameters := [(.object "com/example/opacheck/opacheck/Response$Kind"), .long], returnType := none }, accessFlags := 1, code := some k15c0 }
def k15c1 : Code := { maxStack := 5, maxLocals := 2, code := prog_53_method_2_code, exceptionTable := #[], attributes := #[] }
def k15m1 : Method := { name := "value", desc := "(J)Lcom/example/opacheck/opacheck/Response;", sig := { parameters := [.long], returnType := some (.object "com/example/opacheck/opacheck/Response") }, accessFlags := 9, code := some k15c1 }
def k15c2 : Code := { maxStack := 5, maxLocals := 0, code := prog_53_method_3_code, exceptionTable := #[], attributes := #[] }
def k15m2 : Method := { name := "ok", desc := "()Lcom/example/opacheck/opacheck/Response;", sig := { parameters := [], returnType := some (.object "com/example/opacheck/opacheck/Response") }, accessFlags := 9, code := some k15c2 }
def k15c3 : Code := { maxStack := 5, maxLocals := 0, code := prog_53_method_4_code, exceptionTable := #[], attributes := #[] }
def k15m3 : Method := { name := "committed", desc := "()Lcom/example/opacheck/opacheck/Response;", sig := { parameters := [], returnType := some (.object "com/example/opacheck/opacheck/Response") }, accessFlags := 9, code := some k15c3 }
def k15c4 : Code := { maxStack := 5, maxLocals := 0, code := prog_53_method_5_code, exceptionTable := #[], attributes := #[] }
def k15m4 : Method := { name := "aborted", desc := "()Lcom/example/opacheck/opacheck/Response;", sig := { parameters := [], returnType := some (.object "com/example/opacheck/opacheck/Response") }, accessFlags := 9, code := some k15c4 }
/-- com/example/opacheck/opacheck/Response -/
def k15 : Class := { plain "com/example/opacheck/opacheck/Response" (some 10) with
  accessFlags := 49
  interfaces := #[]
  cf := some (fileOf pool15 16 #[.nestMembers #[25]] #[{ accessFlags := 1, nameIndex := 5, descriptorIndex := 31, attributes := #[] }, { accessFlags := 9, nameIndex := 22, descriptorIndex := 102, attributes := #[] }, { accessFlags := 9, nameIndex := 103, descriptorIndex := 104, attributes := #[] }, { accessFlags := 9, nameIndex := 105, descriptorIndex := 104, attributes := #[] }, { accessFlags := 9, nameIndex := 106, descriptorIndex := 104, attributes := #[] }] 49 2 #[] #[{ accessFlags := 18, nameIndex := 8, descriptorIndex := 19, attributes := #[] }, { accessFlags := 18, nameIndex := 22, descriptorIndex := 23, attributes := #[] }])
  fields := #[{ name := "kind", type := (.object "com/example/opacheck/opacheck/Response$Kind"), accessFlags := 18, slot := 0, constantValue := 0 }, { name := "value", type := .long, accessFlags := 18, slot := 1, constantValue := 0 }]
  methods := #[k15m0, k15m1, k15m2, k15m3, k15m4]
  instanceTypes := #[(.object "com/example/opacheck/opacheck/Response$Kind"), .long]
  staticTypes := #[]
  resolved := Array.replicate 145 none
  statics := none }

def pool16 : Array CpInfo := pool [(1, .class_ 2), (0, u "com/example/opacheck/opacheck/Response$Kind"), (2, u "VALUE"), (0, u "Lcom/example/opacheck/opacheck/Response$Kind;"), (2, u "OK"), (2, u "COMMITTED"), (2, u "ABORTED"), (2, u "$VALUES"), (0, u "[Lcom/example/opacheck/opacheck/Response$Kind;"), (6, .class_ 28), (1, u "java/lang/Enum"), (27, .class_ 57), (0, u "com/example/opacheck/opacheck/Response")] 2

/-- com/example/opacheck/opacheck/Response$Kind -/
def k16 : Class := { plain "com/example/opacheck/opacheck/Response$Kind" (some 12) with
  accessFlags := 16433
  interfaces := #[]
  cf := some (fileOf pool16 1 #[.nestHost 56] #[] 16433 26 #[] #[{ accessFlags := 16409, nameIndex := 5, descriptorIndex := 6, attributes := #[] }, { accessFlags := 16409, nameIndex := 9, descriptorIndex := 6, attributes := #[] }, { accessFlags := 16409, nameIndex := 12, descriptorIndex := 6, attributes := #[] }, { accessFlags := 16409, nameIndex := 15, descriptorIndex := 6, attributes := #[] }, { accessFlags := 4122, nameIndex := 18, descriptorIndex := 19, attributes := #[] }])
  fields := #[{ name := "VALUE", type := (.object "com/example/opacheck/opacheck/Response$Kind"), accessFlags := 16409, slot := 0, constantValue := 0 }, { name := "OK", type := (.object "com/example/opacheck/opacheck/Response$Kind"), accessFlags := 16409, slot := 1, constantValue := 0 }, { name := "COMMITTED", type := (.object "com/example/opacheck/opacheck/Response$Kind"), accessFlags := 16409, slot := 2, constantValue := 0 }, { name := "ABORTED", type := (.object "com/example/opacheck/opacheck/Response$Kind"), accessFlags := 16409, slot := 3, constantValue := 0 }, { name := "$VALUES", type := (.array (.object "com/example/opacheck/opacheck/Response$Kind")), accessFlags := 4122, slot := 4, constantValue := 0 }]
  methods := #[]
  instanceTypes := #[(.object "java/lang/String"), .int, .int]
  staticTypes := #[(.object "com/example/opacheck/opacheck/Response$Kind"), (.object "com/example/opacheck/opacheck/Response$Kind"), (.object "com/example/opacheck/opacheck/Response$Kind"), (.object "com/example/opacheck/opacheck/Response$Kind"), (.array (.object "com/example/opacheck/opacheck/Response$Kind"))]
  resolved := Array.replicate 60 none
  statics := some 2 }

def pool17 : Array CpInfo := pool [(1, .methodref 2 3), (0, .class_ 4), (0, .nameAndType 5 6), (0, u "java/lang/Record"), (0, u "<init>"), (0, u "()V"), (0, .string 8), (0, u "transaction"), (0, .methodref 10 11), (0, .class_ 12), (0, .nameAndType 13 14), (0, u "java/util/Objects"), (0, u "requireNonNull"), (0, u "(Ljava/lang/Object;Ljava/lang/String;)Ljava/lang/Object;"), (9, .fieldref 25 26), (0, .class_ 27), (0, .nameAndType 28 29), (0, u "com/example/opacheck/opacheck/Event"), (0, u "line"), (0, u "I"), (0, .fieldref 25 31), (0, .nameAndType 8 32), (0, u "Ljava/lang/String;"), (0, .fieldref 25 34), (0, .nameAndType 35 36), (0, u "invocation"), (0, u "Lcom/example/opacheck/opacheck/Operation;"), (0, .fieldref 25 38), (0, .nameAndType 39 40), (0, u "response"), (0, u "Lcom/example/opacheck/opacheck/Response;"), (12, u "(ILjava/lang/String;Lcom/example/opacheck/opacheck/Operation;Lcom/example/opacheck/opacheck/Response;)V"), (10, u "isBegin"), (0, u "()Z")] 36

def k17c0 : Code := { maxStack := 3, maxLocals := 5, code := prog_11_method_1_code, exceptionTable := #[], attributes := #[] }
def k17m0 : Method := { name := "<init>", desc := "(ILjava/lang/String;Lcom/example/opacheck/opacheck/Operation;Lcom/example/opacheck/opacheck/Response;)V", sig := { parameters := [.int, (.object "java/lang/String"), (.object "com/example/opacheck/opacheck/Operation"), (.object "com/example/opacheck/opacheck/Response")], returnType := none }, accessFlags := 1, code := some k17c0 }
def k17c1 : Code := { maxStack := 1, maxLocals := 1, code := prog_11_method_2_code, exceptionTable := #[], attributes := #[] }
def k17m1 : Method := { name := "isBegin", desc := "()Z", sig := { parameters := [], returnType := some .boolean }, accessFlags := 1, code := some k17c1 }
/-- com/example/opacheck/opacheck/Event -/
def k17 : Class := { plain "com/example/opacheck/opacheck/Event" (some 10) with
  accessFlags := 49
  interfaces := #[]
  cf := some (fileOf pool17 25 #[] #[{ accessFlags := 1, nameIndex := 5, descriptorIndex := 53, attributes := #[] }, { accessFlags := 1, nameIndex := 64, descriptorIndex := 65, attributes := #[] }] 49 2 #[] #[{ accessFlags := 18, nameIndex := 28, descriptorIndex := 29, attributes := #[] }, { accessFlags := 18, nameIndex := 8, descriptorIndex := 32, attributes := #[] }, { accessFlags := 18, nameIndex := 35, descriptorIndex := 36, attributes := #[] }, { accessFlags := 18, nameIndex := 39, descriptorIndex := 40, attributes := #[] }])
  fields := #[{ name := "line", type := .int, accessFlags := 18, slot := 0, constantValue := 0 }, { name := "transaction", type := (.object "java/lang/String"), accessFlags := 18, slot := 1, constantValue := 0 }, { name := "invocation", type := (.object "com/example/opacheck/opacheck/Operation"), accessFlags := 18, slot := 2, constantValue := 0 }, { name := "response", type := (.object "com/example/opacheck/opacheck/Response"), accessFlags := 18, slot := 3, constantValue := 0 }]
  methods := #[k17m0, k17m1]
  instanceTypes := #[.int, (.object "java/lang/String"), (.object "com/example/opacheck/opacheck/Operation"), (.object "com/example/opacheck/opacheck/Response")]
  staticTypes := #[]
  resolved := Array.replicate 102 none
  statics := none }

def pool18 : Array CpInfo := pool [(1, .class_ 2), (0, u "java/lang/Math"), (1, .class_ 6), (1, u "java/lang/Object"), (0, u "<init>"), (0, u "()V"), (89, .class_ 100), (1, u "java/lang/Math$RandomNumberGeneratorHolder"), (71, u "negativeZeroFloatBits"), (0, u "J"), (2, u "negativeZeroDoubleBits"), (21, u "max"), (46, u "$assertionsDisabled"), (0, u "Z"), (88, u "(II)I"), (2, u "twoToTheDoubleScaleDown"), (0, u "D"), (4, u "twoToTheDoubleScaleUp"), (9, u "E"), (3, u "PI"), (2, u "TAU"), (2, u "DEGREES_TO_RADIANS"), (0, u "RADIANS_TO_DEGREES")] 94

def k18m0 : Method := { name := "<init>", desc := "()V", sig := { parameters := [], returnType := none }, accessFlags := 2, code := none }
def k18c1 : Code := { maxStack := 2, maxLocals := 2, code := jdk_29_method_65_code, exceptionTable := #[], attributes := #[] }
def k18m1 : Method := { name := "max", desc := "(II)I", sig := { parameters := [.int, .int], returnType := some .int }, accessFlags := 9, code := some k18c1 }
/-- java/lang/Math -/
def k18 : Class := { plain "java/lang/Math" (some 0) with
  accessFlags := 49
  interfaces := #[]
  cf := some (fileOf pool18 1 #[.nestMembers #[98]] #[{ accessFlags := 2, nameIndex := 7, descriptorIndex := 8, attributes := #[] }, { accessFlags := 9, nameIndex := 198, descriptorIndex := 335, attributes := #[] }] 49 4 #[] #[{ accessFlags := 25, nameIndex := 354, descriptorIndex := 339, attributes := #[] }, { accessFlags := 25, nameIndex := 358, descriptorIndex := 339, attributes := #[] }, { accessFlags := 25, nameIndex := 361, descriptorIndex := 339, attributes := #[] }, { accessFlags := 26, nameIndex := 364, descriptorIndex := 339, attributes := #[] }, { accessFlags := 26, nameIndex := 365, descriptorIndex := 339, attributes := #[] }, { accessFlags := 26, nameIndex := 172, descriptorIndex := 173, attributes := #[] }, { accessFlags := 26, nameIndex := 176, descriptorIndex := 173, attributes := #[] }, { accessFlags := 8, nameIndex := 344, descriptorIndex := 339, attributes := #[] }, { accessFlags := 8, nameIndex := 338, descriptorIndex := 339, attributes := #[] }, { accessFlags := 4120, nameIndex := 245, descriptorIndex := 246, attributes := #[] }])
  fields := #[{ name := "E", type := .double, accessFlags := 25, slot := 0, constantValue := 0 }, { name := "PI", type := .double, accessFlags := 25, slot := 1, constantValue := 0 }, { name := "TAU", type := .double, accessFlags := 25, slot := 2, constantValue := 0 }, { name := "DEGREES_TO_RADIANS", type := .double, accessFlags := 26, slot := 3, constantValue := 0 }, { name := "RADIANS_TO_DEGREES", type := .double, accessFlags := 26, slot := 4, constantValue := 0 }, { name := "negativeZeroFloatBits", type := .long, accessFlags := 26, slot := 5, constantValue := 0 }, { name := "negativeZeroDoubleBits", type := .long, accessFlags := 26, slot := 6, constantValue := 0 }, { name := "twoToTheDoubleScaleUp", type := .double, accessFlags := 8, slot := 7, constantValue := 0 }, { name := "twoToTheDoubleScaleDown", type := .double, accessFlags := 8, slot := 8, constantValue := 0 }, { name := "$assertionsDisabled", type := .boolean, accessFlags := 4120, slot := 9, constantValue := 0 }]
  methods := #[k18m0, k18m1]
  instanceTypes := #[]
  staticTypes := #[.double, .double, .double, .double, .double, .long, .long, .double, .double, .boolean]
  resolved := Array.replicate 460 none
  statics := none }

def pool19 : Array CpInfo := pool [(2, .class_ 4), (1, u "java/lang/Object"), (0, u "<init>"), (0, u "()V"), (17, .class_ 26), (1, u "jdk/internal/util/Preconditions"), (28, .class_ 56), (0, u "jdk/internal/util/Preconditions$4"), (57, .class_ 115), (0, u "jdk/internal/util/Preconditions$1"), (7, u "SIOOBE_FORMATTER"), (0, u "Ljava/util/function/BiFunction;"), (0, .class_ 126), (0, u "jdk/internal/util/Preconditions$2"), (3, u "AIOOBE_FORMATTER"), (0, .class_ 132), (0, u "jdk/internal/util/Preconditions$3"), (3, u "IOOBE_FORMATTER")] 57

def k19m0 : Method := { name := "<init>", desc := "()V", sig := { parameters := [], returnType := none }, accessFlags := 1, code := none }
/-- jdk/internal/util/Preconditions -/
def k19 : Class := { plain "jdk/internal/util/Preconditions" (some 0) with
  accessFlags := 33
  interfaces := #[]
  cf := some (fileOf pool19 24 #[.nestMembers #[55, 131, 125, 114]] #[{ accessFlags := 1, nameIndex := 5, descriptorIndex := 6, attributes := #[] }] 33 2 #[] #[{ accessFlags := 25, nameIndex := 123, descriptorIndex := 124, attributes := #[] }, { accessFlags := 25, nameIndex := 130, descriptorIndex := 124, attributes := #[] }, { accessFlags := 25, nameIndex := 136, descriptorIndex := 124, attributes := #[] }])
  fields := #[{ name := "SIOOBE_FORMATTER", type := (.object "java/util/function/BiFunction"), accessFlags := 25, slot := 0, constantValue := 0 }, { name := "AIOOBE_FORMATTER", type := (.object "java/util/function/BiFunction"), accessFlags := 25, slot := 1, constantValue := 0 }, { name := "IOOBE_FORMATTER", type := (.object "java/util/function/BiFunction"), accessFlags := 25, slot := 2, constantValue := 0 }]
  methods := #[k19m0]
  instanceTypes := #[]
  staticTypes := #[(.object "java/util/function/BiFunction"), (.object "java/util/function/BiFunction"), (.object "java/util/function/BiFunction")]
  resolved := Array.replicate 194 none
  statics := some 3 }

def pool20 : Array CpInfo := pool [(9, u "<init>"), (6, .class_ 18), (1, u "java/lang/Object"), (0, u "()V"), (1, .class_ 23), (1, u "jdk/internal/util/ArraysSupport"), (0, u "LOG2_ARRAY_LONG_INDEX_SCALE"), (0, u "I"), (2, u "U"), (0, u "Ljdk/internal/misc/Unsafe;"), (8, u "BIG_ENDIAN"), (0, u "Z"), (8, u "LOG2_BYTE_BIT_SIZE"), (4, u "LOG2_ARRAY_INT_INDEX_SCALE"), (54, u "JLA"), (0, u "Ljdk/internal/access/JavaLangAccess;"), (11, u "LOG2_ARRAY_BOOLEAN_INDEX_SCALE"), (9, u "LOG2_ARRAY_BYTE_INDEX_SCALE"), (5, u "LOG2_ARRAY_CHAR_INDEX_SCALE"), (5, u "LOG2_ARRAY_SHORT_INDEX_SCALE"), (18, u "LOG2_ARRAY_FLOAT_INDEX_SCALE"), (24, u "LOG2_ARRAY_DOUBLE_INDEX_SCALE"), (89, u "T_BOOLEAN"), (2, u "T_CHAR"), (1, u "T_FLOAT"), (1, u "T_DOUBLE"), (1, u "T_BYTE"), (1, u "T_SHORT"), (1, u "T_INT"), (1, u "T_LONG"), (1, u "SOFT_MAX_ARRAY_LENGTH")] 83

def k20m0 : Method := { name := "<init>", desc := "()V", sig := { parameters := [], returnType := none }, accessFlags := 2, code := none }
/-- jdk/internal/util/ArraysSupport -/
def k20 : Class := { plain "jdk/internal/util/ArraysSupport" (some 0) with
  accessFlags := 33
  interfaces := #[]
  cf := some (fileOf pool20 21 #[] #[{ accessFlags := 2, nameIndex := 9, descriptorIndex := 19, attributes := #[] }] 33 16 #[] #[{ accessFlags := 24, nameIndex := 28, descriptorIndex := 29, attributes := #[] }, { accessFlags := 26, nameIndex := 38, descriptorIndex := 39, attributes := #[] }, { accessFlags := 25, nameIndex := 121, descriptorIndex := 25, attributes := #[] }, { accessFlags := 25, nameIndex := 131, descriptorIndex := 25, attributes := #[] }, { accessFlags := 25, nameIndex := 137, descriptorIndex := 25, attributes := #[] }, { accessFlags := 25, nameIndex := 143, descriptorIndex := 25, attributes := #[] }, { accessFlags := 25, nameIndex := 53, descriptorIndex := 25, attributes := #[] }, { accessFlags := 25, nameIndex := 24, descriptorIndex := 25, attributes := #[] }, { accessFlags := 25, nameIndex := 162, descriptorIndex := 25, attributes := #[] }, { accessFlags := 25, nameIndex := 187, descriptorIndex := 25, attributes := #[] }, { accessFlags := 26, nameIndex := 48, descriptorIndex := 25, attributes := #[] }, { accessFlags := 25, nameIndex := 277, descriptorIndex := 25, attributes := #[] }, { accessFlags := 25, nameIndex := 280, descriptorIndex := 25, attributes := #[] }, { accessFlags := 25, nameIndex := 282, descriptorIndex := 25, attributes := #[] }, { accessFlags := 25, nameIndex := 284, descriptorIndex := 25, attributes := #[] }, { accessFlags := 25, nameIndex := 286, descriptorIndex := 25, attributes := #[] }, { accessFlags := 25, nameIndex := 288, descriptorIndex := 25, attributes := #[] }, { accessFlags := 25, nameIndex := 290, descriptorIndex := 25, attributes := #[] }, { accessFlags := 25, nameIndex := 292, descriptorIndex := 25, attributes := #[] }, { accessFlags := 26, nameIndex := 108, descriptorIndex := 109, attributes := #[] }, { accessFlags := 25, nameIndex := 294, descriptorIndex := 25, attributes := #[] }])
  fields := #[{ name := "U", type := (.object "jdk/internal/misc/Unsafe"), accessFlags := 24, slot := 0, constantValue := 0 }, { name := "BIG_ENDIAN", type := .boolean, accessFlags := 26, slot := 1, constantValue := 0 }, { name := "LOG2_ARRAY_BOOLEAN_INDEX_SCALE", type := .int, accessFlags := 25, slot := 2, constantValue := 0 }, { name := "LOG2_ARRAY_BYTE_INDEX_SCALE", type := .int, accessFlags := 25, slot := 3, constantValue := 0 }, { name := "LOG2_ARRAY_CHAR_INDEX_SCALE", type := .int, accessFlags := 25, slot := 4, constantValue := 0 }, { name := "LOG2_ARRAY_SHORT_INDEX_SCALE", type := .int, accessFlags := 25, slot := 5, constantValue := 0 }, { name := "LOG2_ARRAY_INT_INDEX_SCALE", type := .int, accessFlags := 25, slot := 6, constantValue := 0 }, { name := "LOG2_ARRAY_LONG_INDEX_SCALE", type := .int, accessFlags := 25, slot := 7, constantValue := 0 }, { name := "LOG2_ARRAY_FLOAT_INDEX_SCALE", type := .int, accessFlags := 25, slot := 8, constantValue := 0 }, { name := "LOG2_ARRAY_DOUBLE_INDEX_SCALE", type := .int, accessFlags := 25, slot := 9, constantValue := 0 }, { name := "LOG2_BYTE_BIT_SIZE", type := .int, accessFlags := 26, slot := 10, constantValue := 0 }, { name := "T_BOOLEAN", type := .int, accessFlags := 25, slot := 11, constantValue := 0 }, { name := "T_CHAR", type := .int, accessFlags := 25, slot := 12, constantValue := 0 }, { name := "T_FLOAT", type := .int, accessFlags := 25, slot := 13, constantValue := 0 }, { name := "T_DOUBLE", type := .int, accessFlags := 25, slot := 14, constantValue := 0 }, { name := "T_BYTE", type := .int, accessFlags := 25, slot := 15, constantValue := 0 }, { name := "T_SHORT", type := .int, accessFlags := 25, slot := 16, constantValue := 0 }, { name := "T_INT", type := .int, accessFlags := 25, slot := 17, constantValue := 0 }, { name := "T_LONG", type := .int, accessFlags := 25, slot := 18, constantValue := 0 }, { name := "JLA", type := (.object "jdk/internal/access/JavaLangAccess"), accessFlags := 26, slot := 19, constantValue := 0 }, { name := "SOFT_MAX_ARRAY_LENGTH", type := .int, accessFlags := 25, slot := 20, constantValue := 0 }]
  methods := #[k20m0]
  instanceTypes := #[]
  staticTypes := #[(.object "jdk/internal/misc/Unsafe"), .boolean, .int, .int, .int, .int, .int, .int, .int, .int, .int, .int, .int, .int, .int, .int, .int, .int, .int, (.object "jdk/internal/access/JavaLangAccess"), .int]
  resolved := Array.replicate 378 none
  statics := none }

def pool21 : Array CpInfo := pool [(1, u "java/lang/Cloneable"), (0, .class_ 1), (0, u "java/lang/Object"), (0, .class_ 3)] 3

/-- java/lang/Cloneable -/
def k21 : Class := { plain "java/lang/Cloneable" (some 0) with
  accessFlags := 1537
  interfaces := #[]
  cf := some (fileOf pool21 2 #[] #[] 1537 4 #[] #[])
  fields := #[]
  methods := #[]
  instanceTypes := #[]
  staticTypes := #[]
  resolved := Array.replicate 8 none
  statics := none }

/-- the primitive byte -/
def k22 : Class := { plain "byte" none with kind := .primitive 'B', accessFlags := 0x411 }
/-- [B -/
def k23 : Class := { plain "[B" (some 0) with kind := .array 22 .byte, interfaces := #[21, 2], accessFlags := 1041 }

/-- the primitive char -/
def k24 : Class := { plain "char" none with kind := .primitive 'C', accessFlags := 0x411 }
/-- [C -/
def k25 : Class := { plain "[C" (some 0) with kind := .array 24 .char, interfaces := #[21, 2], accessFlags := 1041 }

/-- the primitive int -/
def k26 : Class := { plain "int" none with kind := .primitive 'I', accessFlags := 0x411 }
/-- [I -/
def k27 : Class := { plain "[I" (some 0) with kind := .array 26 .int, interfaces := #[21, 2], accessFlags := 1041 }

def heap : Heap := #[{ cls := 7, slots := #[.long 0, .int 1, .null, .int 0, .null, .int 0, .int 0], vm := .statics 7 },
  { cls := 13, slots := #[.ref 4, .ref 5, .ref 6, .null], vm := .statics 13 },
  { cls := 16, slots := #[.ref 7, .ref 8, .ref 9, .ref 10, .null], vm := .statics 16 },
  { cls := 19, slots := #[.null, .null, .null], vm := .statics 19 },
  { cls := 13, slots := #[.null, .int 0, .int 0], vm := .none },
  { cls := 13, slots := #[.null, .int 1, .int 0], vm := .none },
  { cls := 13, slots := #[.null, .int 2, .int 0], vm := .none },
  { cls := 16, slots := #[.null, .int 0, .int 0], vm := .none },
  { cls := 16, slots := #[.null, .int 1, .int 0], vm := .none },
  { cls := 16, slots := #[.null, .int 2, .int 0], vm := .none },
  { cls := 16, slots := #[.null, .int 3, .int 0], vm := .none }]
def classes : Array Class := #[k0, k1, k2, k3, k4, k5, k6, k7, k8, k9, k10, k11, k12, k13, k14, k15, k16, k17, k18, k19, k20, k21, k22, k23, k24, k25, k26, k27]
def interned : List (Array UInt16 × Addr) := []
def slotsUsed : Nat := 40
def theMethod : MethodId := ⟨1, 3⟩
def args0 : Array Value := #[.int 5, .int 3, .int 65, .int 66, .long 7]
def aboutOver (below : List Frame) : State where
  vm := { classes := classes, interned := interned.toArray }
  heap := heap
  slotsUsed := slotsUsed
  threads := #[{ frames := .invoking theMethod args0 :: below }]
def below0 : List Frame := [.native { method := ⟨0, 0⟩, args := #[] }]
def about1 : State := aboutOver below0
def p0 : Program := .bare "" "" ""
def e0 : Env := launch0.env 0 0 0
theorem w_frames : about1.frames = Frame.invoking theMethod args0 :: below0 := rfl
set_option maxRecDepth 65536 in
theorem w_args : argsFit about1.vm theMethod args0 = true := by decide +kernel
set_option maxRecDepth 65536 in
theorem w_heap : heapFits about1 = true := by decide +kernel
set_option maxRecDepth 65536 in
theorem w_runnable : about1.curStatus? = some .runnable := by decide +kernel
set_option maxRecDepth 65536 in
theorem w_alone : about1.alone = true := by decide +kernel
set_option maxRecDepth 65536 in
theorem w_named : about1.methodNamed? x = some theMethod := by decide +kernel
set_option maxRecDepth 65536 in
theorem w_hears : about1.hears theMethod below0 = true := by decide +kernel
set_option maxRecDepth 65536 in
theorem w_ripe : about1.ripe theMethod args0 below0 = true := by decide +kernel
theorem w_running : about1.status = .running := rfl
set_option maxRecDepth 65536 in
theorem w_room : about1.hasRoom e0.platform room_1 = true :=
  launch0.hasRoom_least _ room_1 (by decide +kernel) (by decide +kernel) (by decide +kernel) (by decide +kernel) (by decide +kernel) (by decide +kernel)
theorem allAtoms_all (ts : List Jvm.Cond) (a : Array Jvm.Value) (st : Jvm.State) : (allAtoms ts).before a st = ts.all (fun c => c.before a st) := by
  induction ts with
  | nil => rfl
  | cons c t ih =>
    show (Jvm.Cond.and c (allAtoms t)).before a st = _
    rw [Jvm.Cond.before_and, ih, List.all_cons]
def words1 : List Jvm.Cond := Jvm.Cond.code x code maxLocals ret :: tables_1
/-- a 'code' word, met by the world's own term for the bytes: nothing is compared byte by byte -/
theorem code_word {y : MethodName} {bytes : ByteArray} {mx : Nat} {rt : Option FieldType} {a : Array Value} {s : State} {m : MethodId} {meth : Method} {c : Code} (h1 : s.methodNamed? y = some m) (h2 : s.vm.method? m = some meth) (h3 : meth.code = some c) (h4 : c.code = bytes)
    (h5 : (c.maxLocals == mx && c.exceptionTable.isEmpty && decide (c.maxStack ≤ mostOperands) && decide (meth.sig.returnType = rt) && !meth.locks && decide (parseMethodDescriptor y.desc = some meth.sig)) = true) : (Jvm.Cond.code y bytes mx rt).before a s = true := by
  simp only [Bool.and_eq_true, beq_iff_eq, Bool.not_eq_true', decide_eq_true_eq] at h5
  obtain ⟨⟨⟨⟨⟨g1, g2⟩, g3⟩, g4⟩, g5⟩, g6⟩ := h5
  simp [Cond.before, Cond.holds, Cond.value, h1, h2, h3, h4, g1, g2, g3, g4, g5, g6]
def isCode : Jvm.Cond → Bool
  | .code _ _ _ _ => true
  | _ => false
theorem all_split {L : List Jvm.Cond} {P : Jvm.Cond → Bool} (h1 : L.all (fun c => isCode c || P c) = true) (h2 : ∀ c ∈ L.filter isCode, P c = true) : L.all P = true := by
  refine List.all_eq_true.mpr fun c hc => ?_
  have h := List.all_eq_true.mp h1 c hc
  rcases Bool.eq_false_or_eq_true (isCode c) with hi | hi
  · exact h2 c (List.mem_filter.mpr ⟨hc, hi⟩)
  · simpa [hi] using h
set_option maxRecDepth 65536 in
theorem w_c0 : (Jvm.Cond.code x code maxLocals ret).before args0 about1 = true := code_word (m := ⟨1, 3⟩) (meth := k1m3) (c := k1c3) (by decide +kernel) rfl rfl rfl (by decide +kernel)
set_option maxRecDepth 65536 in
theorem w_c1 : (Jvm.Cond.code ({ cls := "java/lang/String", name := "<init>", desc := "([C)V" } : Jvm.MethodName) jdk_42_method_3_code (2 : Nat) (Option.none : Option Jvm.ClassFile.FieldType)).before args0 about1 = true := code_word (m := ⟨7, 1⟩) (meth := k7m1) (c := k7c1) (by decide +kernel) rfl rfl rfl (by decide +kernel)
set_option maxRecDepth 65536 in
theorem w_c2 : (Jvm.Cond.code ({ cls := "java/lang/String", name := "<init>", desc := "([CIILjava/lang/Void;)V" } : Jvm.MethodName) jdk_42_method_149_code (6 : Nat) (Option.none : Option Jvm.ClassFile.FieldType)).before args0 about1 = true := code_word (m := ⟨7, 3⟩) (meth := k7m3) (c := k7c3) (by decide +kernel) rfl rfl rfl (by decide +kernel)
set_option maxRecDepth 65536 in
theorem w_c3 : (Jvm.Cond.code ({ cls := "java/lang/Object", name := "<init>", desc := "()V" } : Jvm.MethodName) object_method_1_code (1 : Nat) (Option.none : Option Jvm.ClassFile.FieldType)).before args0 about1 = true := code_word (m := ⟨0, 0⟩) (meth := k0m0) (c := k0c0) (by decide +kernel) rfl rfl rfl (by decide +kernel)
set_option maxRecDepth 65536 in
theorem w_c4 : (Jvm.Cond.code ({ cls := "java/lang/StringUTF16", name := "compress", desc := "([CII)[B" } : Jvm.MethodName) jdk_52_method_16_code (6 : Nat) (Option.some (Jvm.ClassFile.FieldType.array Jvm.ClassFile.FieldType.byte))).before args0 about1 = true := code_word (m := ⟨8, 2⟩) (meth := k8m2) (c := k8c2) (by decide +kernel) rfl rfl rfl (by decide +kernel)
set_option maxRecDepth 65536 in
theorem w_c5 : (Jvm.Cond.code ({ cls := "java/lang/StringUTF16", name := "compress", desc := "([CI[BII)I" } : Jvm.MethodName) jdk_52_method_21_code (7 : Nat) (Option.some Jvm.ClassFile.FieldType.int)).before args0 about1 = true := code_word (m := ⟨8, 3⟩) (meth := k8m3) (c := k8c3) (by decide +kernel) rfl rfl rfl (by decide +kernel)
set_option maxRecDepth 65536 in
theorem w_c6 : (Jvm.Cond.code ({ cls := "java/lang/StringUTF16", name := "coderFromArrayLen", desc := "([BI)B" } : Jvm.MethodName) jdk_52_method_15_code (2 : Nat) (Option.some Jvm.ClassFile.FieldType.byte)).before args0 about1 = true := code_word (m := ⟨8, 1⟩) (meth := k8m1) (c := k8c1) (by decide +kernel) rfl rfl rfl (by decide +kernel)
set_option maxRecDepth 65536 in
theorem w_c7 : (Jvm.Cond.code ({ cls := "java/lang/String", name := "valueOf", desc := "(C)Ljava/lang/String;" } : Jvm.MethodName) jdk_42_method_139_code (1 : Nat) (Option.some (Jvm.ClassFile.FieldType.object "java/lang/String"))).before args0 about1 = true := code_word (m := ⟨7, 2⟩) (meth := k7m2) (c := k7c2) (by decide +kernel) rfl rfl rfl (by decide +kernel)
set_option maxRecDepth 65536 in
theorem w_c8 : (Jvm.Cond.code ({ cls := "java/lang/StringLatin1", name := "canEncode", desc := "(C)Z" } : Jvm.MethodName) jdk_43_method_3_code (1 : Nat) (Option.some Jvm.ClassFile.FieldType.boolean)).before args0 about1 = true := code_word (m := ⟨9, 1⟩) (meth := k9m1) (c := k9c1) (by decide +kernel) rfl rfl rfl (by decide +kernel)
set_option maxRecDepth 65536 in
theorem w_c9 : (Jvm.Cond.code ({ cls := "java/lang/StringLatin1", name := "toBytes", desc := "(C)[B" } : Jvm.MethodName) jdk_43_method_46_code (1 : Nat) (Option.some (Jvm.ClassFile.FieldType.array Jvm.ClassFile.FieldType.byte))).before args0 about1 = true := code_word (m := ⟨9, 2⟩) (meth := k9m2) (c := k9c2) (by decide +kernel) rfl rfl rfl (by decide +kernel)
set_option maxRecDepth 65536 in
theorem w_c10 : (Jvm.Cond.code ({ cls := "java/lang/String", name := "<init>", desc := "([BB)V" } : Jvm.MethodName) jdk_42_method_151_code (3 : Nat) (Option.none : Option Jvm.ClassFile.FieldType)).before args0 about1 = true := code_word (m := ⟨7, 4⟩) (meth := k7m4) (c := k7c4) (by decide +kernel) rfl rfl rfl (by decide +kernel)
set_option maxRecDepth 65536 in
theorem w_c11 : (Jvm.Cond.code ({ cls := "com/example/opacheck/opacheck/EventIsBeginPinLaw", name := "makeOperation", desc := "(ILjava/lang/String;J)Lcom/example/opacheck/opacheck/Operation;" } : Jvm.MethodName) method_2_code (4 : Nat) (Option.some (Jvm.ClassFile.FieldType.object "com/example/opacheck/opacheck/Operation"))).before args0 about1 = true := code_word (m := ⟨1, 1⟩) (meth := k1m1) (c := k1c1) (by decide +kernel) rfl rfl rfl (by decide +kernel)
set_option maxRecDepth 65536 in
theorem w_c12 : (Jvm.Cond.code ({ cls := "com/example/opacheck/opacheck/Operation", name := "read", desc := "(Ljava/lang/String;)Lcom/example/opacheck/opacheck/Operation;" } : Jvm.MethodName) prog_42_method_2_code (1 : Nat) (Option.some (Jvm.ClassFile.FieldType.object "com/example/opacheck/opacheck/Operation"))).before args0 about1 = true := code_word (m := ⟨11, 1⟩) (meth := k11m1) (c := k11c1) (by decide +kernel) rfl rfl rfl (by decide +kernel)
set_option maxRecDepth 65536 in
theorem w_c13 : (Jvm.Cond.code ({ cls := "com/example/opacheck/opacheck/Operation", name := "<init>", desc := "(Lcom/example/opacheck/opacheck/Operation$Kind;Ljava/lang/String;J)V" } : Jvm.MethodName) prog_42_method_1_code (5 : Nat) (Option.none : Option Jvm.ClassFile.FieldType)).before args0 about1 = true := code_word (m := ⟨11, 0⟩) (meth := k11m0) (c := k11c0) (by decide +kernel) rfl rfl rfl (by decide +kernel)
set_option maxRecDepth 65536 in
theorem w_c14 : (Jvm.Cond.code ({ cls := "java/lang/Record", name := "<init>", desc := "()V" } : Jvm.MethodName) jdk_30_method_1_code (1 : Nat) (Option.none : Option Jvm.ClassFile.FieldType)).before args0 about1 = true := code_word (m := ⟨10, 0⟩) (meth := k10m0) (c := k10c0) (by decide +kernel) rfl rfl rfl (by decide +kernel)
set_option maxRecDepth 65536 in
theorem w_c15 : (Jvm.Cond.code ({ cls := "java/util/Objects", name := "requireNonNull", desc := "(Ljava/lang/Object;Ljava/lang/String;)Ljava/lang/Object;" } : Jvm.MethodName) jdk_31_method_11_code (2 : Nat) (Option.some (Jvm.ClassFile.FieldType.object "java/lang/Object"))).before args0 about1 = true := code_word (m := ⟨14, 1⟩) (meth := k14m1) (c := k14c1) (by decide +kernel) rfl rfl rfl (by decide +kernel)
set_option maxRecDepth 65536 in
theorem w_c16 : (Jvm.Cond.code ({ cls := "com/example/opacheck/opacheck/EventIsBeginPinLaw", name := "makeResponse", desc := "(IJ)Lcom/example/opacheck/opacheck/Response;" } : Jvm.MethodName) method_3_code (3 : Nat) (Option.some (Jvm.ClassFile.FieldType.object "com/example/opacheck/opacheck/Response"))).before args0 about1 = true := code_word (m := ⟨1, 2⟩) (meth := k1m2) (c := k1c2) (by decide +kernel) rfl rfl rfl (by decide +kernel)
set_option maxRecDepth 65536 in
theorem w_c17 : (Jvm.Cond.code ({ cls := "com/example/opacheck/opacheck/Response", name := "value", desc := "(J)Lcom/example/opacheck/opacheck/Response;" } : Jvm.MethodName) prog_53_method_2_code (2 : Nat) (Option.some (Jvm.ClassFile.FieldType.object "com/example/opacheck/opacheck/Response"))).before args0 about1 = true := code_word (m := ⟨15, 1⟩) (meth := k15m1) (c := k15c1) (by decide +kernel) rfl rfl rfl (by decide +kernel)
set_option maxRecDepth 65536 in
theorem w_c18 : (Jvm.Cond.code ({ cls := "com/example/opacheck/opacheck/Response", name := "<init>", desc := "(Lcom/example/opacheck/opacheck/Response$Kind;J)V" } : Jvm.MethodName) prog_53_method_1_code (4 : Nat) (Option.none : Option Jvm.ClassFile.FieldType)).before args0 about1 = true := code_word (m := ⟨15, 0⟩) (meth := k15m0) (c := k15c0) (by decide +kernel) rfl rfl rfl (by decide +kernel)
set_option maxRecDepth 65536 in
theorem w_c19 : (Jvm.Cond.code ({ cls := "java/lang/Math", name := "max", desc := "(II)I" } : Jvm.MethodName) jdk_29_method_65_code (2 : Nat) (Option.some Jvm.ClassFile.FieldType.int)).before args0 about1 = true := code_word (m := ⟨18, 1⟩) (meth := k18m1) (c := k18c1) (by decide +kernel) rfl rfl rfl (by decide +kernel)
set_option maxRecDepth 65536 in
theorem w_c20 : (Jvm.Cond.code ({ cls := "com/example/opacheck/opacheck/Event", name := "<init>", desc := "(ILjava/lang/String;Lcom/example/opacheck/opacheck/Operation;Lcom/example/opacheck/opacheck/Response;)V" } : Jvm.MethodName) prog_11_method_1_code (5 : Nat) (Option.none : Option Jvm.ClassFile.FieldType)).before args0 about1 = true := code_word (m := ⟨17, 0⟩) (meth := k17m0) (c := k17c0) (by decide +kernel) rfl rfl rfl (by decide +kernel)
set_option maxRecDepth 65536 in
theorem w_c21 : (Jvm.Cond.code ({ cls := "com/example/opacheck/opacheck/Event", name := "isBegin", desc := "()Z" } : Jvm.MethodName) prog_11_method_2_code (1 : Nat) (Option.some Jvm.ClassFile.FieldType.boolean)).before args0 about1 = true := code_word (m := ⟨17, 1⟩) (meth := k17m1) (c := k17c1) (by decide +kernel) rfl rfl rfl (by decide +kernel)
set_option maxRecDepth 65536 in
theorem w_c22 : (Jvm.Cond.code ({ cls := "com/example/opacheck/opacheck/Response", name := "ok", desc := "()Lcom/example/opacheck/opacheck/Response;" } : Jvm.MethodName) prog_53_method_3_code (0 : Nat) (Option.some (Jvm.ClassFile.FieldType.object "com/example/opacheck/opacheck/Response"))).before args0 about1 = true := code_word (m := ⟨15, 2⟩) (meth := k15m2) (c := k15c2) (by decide +kernel) rfl rfl rfl (by decide +kernel)
set_option maxRecDepth 65536 in
theorem w_c23 : (Jvm.Cond.code ({ cls := "com/example/opacheck/opacheck/Operation", name := "commit", desc := "()Lcom/example/opacheck/opacheck/Operation;" } : Jvm.MethodName) prog_42_method_4_code (0 : Nat) (Option.some (Jvm.ClassFile.FieldType.object "com/example/opacheck/opacheck/Operation"))).before args0 about1 = true := code_word (m := ⟨11, 3⟩) (meth := k11m3) (c := k11c3) (by decide +kernel) rfl rfl rfl (by decide +kernel)
set_option maxRecDepth 65536 in
theorem w_c24 : (Jvm.Cond.code ({ cls := "com/example/opacheck/opacheck/Operation", name := "write", desc := "(Ljava/lang/String;J)Lcom/example/opacheck/opacheck/Operation;" } : Jvm.MethodName) prog_42_method_3_code (3 : Nat) (Option.some (Jvm.ClassFile.FieldType.object "com/example/opacheck/opacheck/Operation"))).before args0 about1 = true := code_word (m := ⟨11, 2⟩) (meth := k11m2) (c := k11c2) (by decide +kernel) rfl rfl rfl (by decide +kernel)
set_option maxRecDepth 65536 in
theorem w_c25 : (Jvm.Cond.code ({ cls := "com/example/opacheck/opacheck/Response", name := "aborted", desc := "()Lcom/example/opacheck/opacheck/Response;" } : Jvm.MethodName) prog_53_method_5_code (0 : Nat) (Option.some (Jvm.ClassFile.FieldType.object "com/example/opacheck/opacheck/Response"))).before args0 about1 = true := code_word (m := ⟨15, 4⟩) (meth := k15m4) (c := k15c4) (by decide +kernel) rfl rfl rfl (by decide +kernel)
set_option maxRecDepth 65536 in
theorem w_c26 : (Jvm.Cond.code ({ cls := "com/example/opacheck/opacheck/Response", name := "committed", desc := "()Lcom/example/opacheck/opacheck/Response;" } : Jvm.MethodName) prog_53_method_4_code (0 : Nat) (Option.some (Jvm.ClassFile.FieldType.object "com/example/opacheck/opacheck/Response"))).before args0 about1 = true := code_word (m := ⟨15, 3⟩) (meth := k15m3) (c := k15c3) (by decide +kernel) rfl rfl rfl (by decide +kernel)
def codes1 : List Jvm.Cond := [Jvm.Cond.code x code maxLocals ret, Jvm.Cond.code ({ cls := "java/lang/String", name := "<init>", desc := "([C)V" } : Jvm.MethodName) jdk_42_method_3_code (2 : Nat) (Option.none : Option Jvm.ClassFile.FieldType), Jvm.Cond.code ({ cls := "java/lang/String", name := "<init>", desc := "([CIILjava/lang/Void;)V" } : Jvm.MethodName) jdk_42_method_149_code (6 : Nat) (Option.none : Option Jvm.ClassFile.FieldType), Jvm.Cond.code ({ cls := "java/lang/Object", name := "<init>", desc := "()V" } : Jvm.MethodName) object_method_1_code (1 : Nat) (Option.none : Option Jvm.ClassFile.FieldType), Jvm.Cond.code ({ cls := "java/lang/StringUTF16", name := "compress", desc := "([CII)[B" } : Jvm.MethodName) jdk_52_method_16_code (6 : Nat) (Option.some (Jvm.ClassFile.FieldType.array Jvm.ClassFile.FieldType.byte)), Jvm.Cond.code ({ cls := "java/lang/StringUTF16", name := "compress", desc := "([CI[BII)I" } : Jvm.MethodName) jdk_52_method_21_code (7 : Nat) (Option.some Jvm.ClassFile.FieldType.int), Jvm.Cond.code ({ cls := "java/lang/StringUTF16", name := "coderFromArrayLen", desc := "([BI)B" } : Jvm.MethodName) jdk_52_method_15_code (2 : Nat) (Option.some Jvm.ClassFile.FieldType.byte), Jvm.Cond.code ({ cls := "java/lang/String", name := "valueOf", desc := "(C)Ljava/lang/String;" } : Jvm.MethodName) jdk_42_method_139_code (1 : Nat) (Option.some (Jvm.ClassFile.FieldType.object "java/lang/String")), Jvm.Cond.code ({ cls := "java/lang/StringLatin1", name := "canEncode", desc := "(C)Z" } : Jvm.MethodName) jdk_43_method_3_code (1 : Nat) (Option.some Jvm.ClassFile.FieldType.boolean), Jvm.Cond.code ({ cls := "java/lang/StringLatin1", name := "toBytes", desc := "(C)[B" } : Jvm.MethodName) jdk_43_method_46_code (1 : Nat) (Option.some (Jvm.ClassFile.FieldType.array Jvm.ClassFile.FieldType.byte)), Jvm.Cond.code ({ cls := "java/lang/String", name := "<init>", desc := "([BB)V" } : Jvm.MethodName) jdk_42_method_151_code (3 : Nat) (Option.none : Option Jvm.ClassFile.FieldType), Jvm.Cond.code ({ cls := "com/example/opacheck/opacheck/EventIsBeginPinLaw", name := "makeOperation", desc := "(ILjava/lang/String;J)Lcom/example/opacheck/opacheck/Operation;" } : Jvm.MethodName) method_2_code (4 : Nat) (Option.some (Jvm.ClassFile.FieldType.object "com/example/opacheck/opacheck/Operation")), Jvm.Cond.code ({ cls := "com/example/opacheck/opacheck/Operation", name := "read", desc := "(Ljava/lang/String;)Lcom/example/opacheck/opacheck/Operation;" } : Jvm.MethodName) prog_42_method_2_code (1 : Nat) (Option.some (Jvm.ClassFile.FieldType.object "com/example/opacheck/opacheck/Operation")), Jvm.Cond.code ({ cls := "com/example/opacheck/opacheck/Operation", name := "<init>", desc := "(Lcom/example/opacheck/opacheck/Operation$Kind;Ljava/lang/String;J)V" } : Jvm.MethodName) prog_42_method_1_code (5 : Nat) (Option.none : Option Jvm.ClassFile.FieldType), Jvm.Cond.code ({ cls := "java/lang/Record", name := "<init>", desc := "()V" } : Jvm.MethodName) jdk_30_method_1_code (1 : Nat) (Option.none : Option Jvm.ClassFile.FieldType), Jvm.Cond.code ({ cls := "java/util/Objects", name := "requireNonNull", desc := "(Ljava/lang/Object;Ljava/lang/String;)Ljava/lang/Object;" } : Jvm.MethodName) jdk_31_method_11_code (2 : Nat) (Option.some (Jvm.ClassFile.FieldType.object "java/lang/Object")), Jvm.Cond.code ({ cls := "com/example/opacheck/opacheck/EventIsBeginPinLaw", name := "makeResponse", desc := "(IJ)Lcom/example/opacheck/opacheck/Response;" } : Jvm.MethodName) method_3_code (3 : Nat) (Option.some (Jvm.ClassFile.FieldType.object "com/example/opacheck/opacheck/Response")), Jvm.Cond.code ({ cls := "com/example/opacheck/opacheck/Response", name := "value", desc := "(J)Lcom/example/opacheck/opacheck/Response;" } : Jvm.MethodName) prog_53_method_2_code (2 : Nat) (Option.some (Jvm.ClassFile.FieldType.object "com/example/opacheck/opacheck/Response")), Jvm.Cond.code ({ cls := "com/example/opacheck/opacheck/Response", name := "<init>", desc := "(Lcom/example/opacheck/opacheck/Response$Kind;J)V" } : Jvm.MethodName) prog_53_method_1_code (4 : Nat) (Option.none : Option Jvm.ClassFile.FieldType), Jvm.Cond.code ({ cls := "java/lang/Math", name := "max", desc := "(II)I" } : Jvm.MethodName) jdk_29_method_65_code (2 : Nat) (Option.some Jvm.ClassFile.FieldType.int), Jvm.Cond.code ({ cls := "com/example/opacheck/opacheck/Event", name := "<init>", desc := "(ILjava/lang/String;Lcom/example/opacheck/opacheck/Operation;Lcom/example/opacheck/opacheck/Response;)V" } : Jvm.MethodName) prog_11_method_1_code (5 : Nat) (Option.none : Option Jvm.ClassFile.FieldType), Jvm.Cond.code ({ cls := "com/example/opacheck/opacheck/Event", name := "isBegin", desc := "()Z" } : Jvm.MethodName) prog_11_method_2_code (1 : Nat) (Option.some Jvm.ClassFile.FieldType.boolean), Jvm.Cond.code ({ cls := "com/example/opacheck/opacheck/Response", name := "ok", desc := "()Lcom/example/opacheck/opacheck/Response;" } : Jvm.MethodName) prog_53_method_3_code (0 : Nat) (Option.some (Jvm.ClassFile.FieldType.object "com/example/opacheck/opacheck/Response")), Jvm.Cond.code ({ cls := "com/example/opacheck/opacheck/Operation", name := "commit", desc := "()Lcom/example/opacheck/opacheck/Operation;" } : Jvm.MethodName) prog_42_method_4_code (0 : Nat) (Option.some (Jvm.ClassFile.FieldType.object "com/example/opacheck/opacheck/Operation")), Jvm.Cond.code ({ cls := "com/example/opacheck/opacheck/Operation", name := "write", desc := "(Ljava/lang/String;J)Lcom/example/opacheck/opacheck/Operation;" } : Jvm.MethodName) prog_42_method_3_code (3 : Nat) (Option.some (Jvm.ClassFile.FieldType.object "com/example/opacheck/opacheck/Operation")), Jvm.Cond.code ({ cls := "com/example/opacheck/opacheck/Response", name := "aborted", desc := "()Lcom/example/opacheck/opacheck/Response;" } : Jvm.MethodName) prog_53_method_5_code (0 : Nat) (Option.some (Jvm.ClassFile.FieldType.object "com/example/opacheck/opacheck/Response")), Jvm.Cond.code ({ cls := "com/example/opacheck/opacheck/Response", name := "committed", desc := "()Lcom/example/opacheck/opacheck/Response;" } : Jvm.MethodName) prog_53_method_4_code (0 : Nat) (Option.some (Jvm.ClassFile.FieldType.object "com/example/opacheck/opacheck/Response"))]
set_option maxRecDepth 65536 in
theorem codes_eq : words1.filter isCode = codes1 := rfl
theorem w_codes : ∀ c ∈ words1.filter isCode, c.before args0 about1 = true := by
  rw [codes_eq]
  intro c hc
  simp only [codes1, List.mem_cons, List.not_mem_nil, or_false] at hc
  rcases hc with rfl | rfl | rfl | rfl | rfl | rfl | rfl | rfl | rfl | rfl | rfl | rfl | rfl | rfl | rfl | rfl | rfl | rfl | rfl | rfl | rfl | rfl | rfl | rfl | rfl | rfl | rfl
  · exact w_c0
  · exact w_c1
  · exact w_c2
  · exact w_c3
  · exact w_c4
  · exact w_c5
  · exact w_c6
  · exact w_c7
  · exact w_c8
  · exact w_c9
  · exact w_c10
  · exact w_c11
  · exact w_c12
  · exact w_c13
  · exact w_c14
  · exact w_c15
  · exact w_c16
  · exact w_c17
  · exact w_c18
  · exact w_c19
  · exact w_c20
  · exact w_c21
  · exact w_c22
  · exact w_c23
  · exact w_c24
  · exact w_c25
  · exact w_c26
set_option maxRecDepth 65536 in
theorem w_t1 : (words1.take 24).all (fun c => isCode c || c.before args0 about1) = true := by decide +kernel
set_option maxRecDepth 65536 in
theorem w_t2 : ((words1.drop 24).take 24).all (fun c => isCode c || c.before args0 about1) = true := by decide +kernel
set_option maxRecDepth 65536 in
theorem w_t3 : (((words1.drop 24).drop 24).take 24).all (fun c => isCode c || c.before args0 about1) = true := by decide +kernel
set_option maxRecDepth 65536 in
theorem w_t4 : ((((words1.drop 24).drop 24).drop 24).take 24).all (fun c => isCode c || c.before args0 about1) = true := by decide +kernel
set_option maxRecDepth 65536 in
theorem w_t5 : (((((words1.drop 24).drop 24).drop 24).drop 24).take 24).all (fun c => isCode c || c.before args0 about1) = true := by decide +kernel
set_option maxRecDepth 65536 in
theorem w_t6 : ((((((words1.drop 24).drop 24).drop 24).drop 24).drop 24).take 24).all (fun c => isCode c || c.before args0 about1) = true := by decide +kernel
set_option maxRecDepth 65536 in
theorem w_t7 : ((((((words1.drop 24).drop 24).drop 24).drop 24).drop 24).drop 24).all (fun c => isCode c || c.before args0 about1) = true := by decide +kernel
theorem w_tables : (allAtoms (Jvm.Cond.code x code maxLocals ret :: tables_1)).before args0 about1 = true := by
  rw [allAtoms_all]
  show words1.all (fun c => c.before args0 about1) = true
  refine all_split ?_ w_codes
  rw [← List.take_append_drop 24 words1, List.all_append, w_t1, ← List.take_append_drop 24 (words1.drop 24), List.all_append, w_t2, ← List.take_append_drop 24 ((words1.drop 24).drop 24), List.all_append, w_t3, ← List.take_append_drop 24 (((words1.drop 24).drop 24).drop 24), List.all_append, w_t4, ← List.take_append_drop 24 ((((words1.drop 24).drop 24).drop 24).drop 24), List.all_append, w_t5, ← List.take_append_drop 24 (((((words1.drop 24).drop 24).drop 24).drop 24).drop 24), List.all_append, w_t6, w_t7]
  rfl
set_option maxRecDepth 65536 in
theorem w_rest : rest_1_c.before args0 about1 = true := by decide +kernel
set_option maxRecDepth 65536 in
theorem w_case : (Jvm.Cond.and given_1 narrow_1).before args0 about1 = true := by decide +kernel
theorem w_applies : (headSpec (Jvm.Cond.code x code maxLocals ret :: tables_1) room_1).applies x e0.platform about1 = true :=
  (Spec.applies_iff w_frames).mpr ⟨w_running, w_runnable, w_alone, w_named, w_hears, w_ripe, w_room, w_tables⟩
theorem atStart : AtStart classFile x code maxLocals ret World_1 tables_1 room_1 Calls_1 rest_1 Pre_1 launch0 p0 e0 about1 theMethod args0 below0 :=
  ⟨lists_1, trivial, launch0.admits_env _ _ _, launch0.least_env, fairChoices_fair.cas, fairChoices_fair.clock, w_frames, w_args, w_heap, w_applies, trivial, w_rest, w_case⟩
end start1
theorem witness_1 : WitnessClaimed_1 := ⟨start1.p0, start1.e0, start1.about1, start1.theMethod, start1.args0, start1.below0, start1.atStart⟩
end Jvm.Pilot.@@N@@
