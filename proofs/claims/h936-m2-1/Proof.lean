import JvmDerived
import JvmDerived.Pilot.@@N@@Statement
import JvmDerived.Pilot.@@N@@Code
set_option linter.unusedVariables false
set_option linter.unusedSimpArgs false
namespace Jvm.RoadKit
open Sem ClassFile Op Lib Jvm.Stand Jvm.Free Jvm.LawKit
section Own
variable {p : Program} {l : Launch} {e : Env} {R : Room} {s : State} {m : MethodId} {args : Array Value} {below : List Frame} {meth : Method} {c : Code} {T : State} {locs : List Loc} {cells slots : Nat} {Z : State} {a0 : Array Value} {h : Heap}
/-- from T with the frame g on top the run comes back with what Q says -/
def Go (p : Program) (e : Env) (below : List Frame) (Fin' : Outcome → State → Prop) (T : State) (g : JFrame) : Prop :=
  ∃ s₂ o, Steps p.tables e below (T.setTop g) s₂ ∧ s₂.status = .running ∧ Ended s₂ below o ∧ Fin' o s₂
/-- how a body ends -/
def Fn (s : State) (RC RS : Nat) (Q : Option Value → Heap → List Loc → Prop) (o : Outcome) (t : State) : Prop := ∃ v L, o = .returned v ∧ Q v t.heap L ∧ FrameEnd s o t L RC RS
/-- what stands fast through a body's walk -/
def Cx (p : Program) (s : State) (m : MethodId) (meth : Method) (c : Code) (Z : State) (own nm : String) (bytes : ByteArray) (maxL : Nat) (ret : Option FieldType) : Prop :=
  p.tables.exec = Jvm.exec ∧ Z.Warmed39 s.vm ∧ s.vm.findClass own = some m.cls ∧ c.code = bytes ∧ c.maxLocals = maxL ∧ meth.sig.returnType = ret ∧ meth.name = nm ∧ meth.locks = false
variable {RC RS : Nat} {Q : Option Value → Heap → List Loc → Prop} {Fin' : Outcome → State → Prop} {own nm : String} {bytes : ByteArray} {maxL : Nat} {ret : Option FieldType} {pc pc' : Nat} {Ls Ls' : Array Slot} {S : List Value}
theorem Go.via {T' : State} {g g' : JFrame} (G : Go p e below Fin' T' g') (k : ∀ t, Steps p.tables e below (T'.setTop g') t → Steps p.tables e below (T.setTop g) t) : Go p e below Fin' T g := by
  obtain ⟨s₂, o, st, r⟩ := G; exact ⟨s₂, o, k _ st, r⟩
theorem Go.cast {g g' : JFrame} (q : g = g') (G : Go p e below Fin' T g') : Go p e below Fin' T g := q ▸ G
/-- a body's contract -/
def Met1 (l : Launch) (Z : State) (y : MethodName) (bytes : ByteArray) (maxL : Nat) (ret : Option FieldType) (rm : Room) (as' : Array Value) (h0 : Heap) (Q : Option Value → Heap → List Loc → Prop) : Prop :=
  ∀ ws : List Jvm.Cond, MetFree l y (head1 (Jvm.Cond.code y bytes maxL ret :: ws) rm) (fun a U => a = as' ∧ Z.Warmed39 U.vm ∧ U.heap = h0) (fun _ _ _ _ _ => True) (fun _ U o U' => ∃ v L, o = .returned v ∧ Q v U'.heap L ∧ FrameEnd U o U' L rm.cells rm.slots)
theorem Met1.of_body {y : MethodName} {rm : Room} {as' : Array Value} {h0 : Heap} (hp : plainFor y = true) (ef : ∀ m, entryFrame m as' maxL = mkF m 0 Ls [])
    (body : ∀ {p : Program} {e : Env} {s : State} {m : MethodId} {below : List Frame} {meth : Method} {c : Code} {T : State}, Cx p s m meth c Z y.cls y.name bytes maxL ret → Stand p l e rm s m as' below meth c T [] 0 0 → T.heap = h0 → Go p e below (Fn s rm.cells rm.slots Q) T (mkF m 0 Ls [])) :
    Met1 l Z y bytes maxL ret rm as' h0 Q := by
  intro ws
  refine MetFree.of_bodySF hp hisR ?_
  intro p e s m args below meth c s₁ Bd hml0 hP hK
  obtain ⟨rfl, hZ, hh⟩ := hP
  have X0 : Stand p l e rm s m args below meth c s₁ [] 0 0 := Stand.of_body Bd
  have hlk : meth.locks = false := BodyLoose.notSynchronized Bd
  obtain ⟨s₂, o, st, r1, r2, r3⟩ := body (p := p) (e := e) (s := s) (m := m) (below := below) (meth := meth) (c := c) (T := s₁) ⟨Bd.exec, hZ, findClass_of_methodNamed Bd.named, Bd.bytes, hml0, Bd.returns, (name_of_methodNamed Bd.named Bd.method).1, hlk⟩ X0 (by rw [← hh, Bd.state]; rfl)
  exact ⟨s₂, o, castTop (ef m) st, r1, r2, r3⟩
/-- a contract may say less -/
theorem Met1.weak {y : MethodName} {rm : Room} {as' : Array Value} {h0 : Heap} {Q' : Option Value → Heap → List Loc → Prop} (M : Met1 l Z y bytes maxL ret rm as' h0 Q) (q : ∀ v h L, Q v h L → Q' v h L) : Met1 l Z y bytes maxL ret rm as' h0 Q' := by
  intro ws p e ha hc hk s m args below hf happ hP hK
  obtain ⟨n, o, h1, h2, h3, v, L, h4, h5, h6⟩ := M ws p e ha hc hk s m args below hf happ hP hK
  exact ⟨n, o, h1, h2, h3, v, L, h4, q _ _ _ h5, h6⟩

/-! plain steps -/
theorem Go.aloadN (C : Cx p s m meth c Z own nm bytes maxL ret) (X : Stand p l e R s m args below meth c T locs cells slots) {k : Fin 4} {v : Value} (hd : decode bytes pc = .ok (.aload_n k, 1)) (hl : Ls[k.val]? = some (.val v)) (hv : v.isRef = true) (hp : pc + 1 = pc') (G : Go p e below Fin' T (mkF m pc' Ls (v :: S))) : Go p e below Fin' T (mkF m pc Ls S) := by
  subst hp; exact G.via fun _ k => XS.aloadN X.here C.1 rfl (hb C.2.2.2.1 hd) hl hv k
theorem Go.aload (C : Cx p s m meth c Z own nm bytes maxL ret) (X : Stand p l e R s m args below meth c T locs cells slots) {k : Nat} {v : Value} (hd : decode bytes pc = .ok (.aload k, 2)) (hl : Ls[k]? = some (.val v)) (hv : v.isRef = true) (hp : pc + 2 = pc') (G : Go p e below Fin' T (mkF m pc' Ls (v :: S))) : Go p e below Fin' T (mkF m pc Ls S) := by
  subst hp; exact G.via fun _ k => XS.aload X.here C.1 rfl (hb C.2.2.2.1 hd) hl hv k
theorem Go.iloadN (C : Cx p s m meth c Z own nm bytes maxL ret) (X : Stand p l e R s m args below meth c T locs cells slots) {k : Fin 4} {v : Int32} (hd : decode bytes pc = .ok (.iload_n k, 1)) (hl : Ls[k.val]? = some (.val (.int v))) (hp : pc + 1 = pc') (G : Go p e below Fin' T (mkF m pc' Ls (.int v :: S))) : Go p e below Fin' T (mkF m pc Ls S) := by
  subst hp; exact G.via fun _ k => XS.iloadN X.here C.1 rfl (hb C.2.2.2.1 hd) hl k
theorem Go.iload (C : Cx p s m meth c Z own nm bytes maxL ret) (X : Stand p l e R s m args below meth c T locs cells slots) {k : Nat} {v : Int32} (hd : decode bytes pc = .ok (.iload k, 2)) (hl : Ls[k]? = some (.val (.int v))) (hp : pc + 2 = pc') (G : Go p e below Fin' T (mkF m pc' Ls (.int v :: S))) : Go p e below Fin' T (mkF m pc Ls S) := by
  subst hp; exact G.via fun _ k => XS.iload X.here C.1 rfl (hb C.2.2.2.1 hd) hl k
theorem Go.istoreN (C : Cx p s m meth c Z own nm bytes maxL ret) (X : Stand p l e R s m args below meth c T locs cells slots) {k : Fin 4} {v : Int32} (hd : decode bytes pc = .ok (.istore_n k, 1)) (hl : storeLocals Ls k.val (.int v) = some Ls') (hp : pc + 1 = pc') (G : Go p e below Fin' T (mkF m pc' Ls' S)) : Go p e below Fin' T (mkF m pc Ls (.int v :: S)) := by
  subst hp; exact G.via fun _ k => XS.istoreN X.here C.1 rfl (hb C.2.2.2.1 hd) rfl hl k
theorem Go.istore (C : Cx p s m meth c Z own nm bytes maxL ret) (X : Stand p l e R s m args below meth c T locs cells slots) {k : Nat} {v : Int32} (hd : decode bytes pc = .ok (.istore k, 2)) (hl : storeLocals Ls k (.int v) = some Ls') (hp : pc + 2 = pc') (G : Go p e below Fin' T (mkF m pc' Ls' S)) : Go p e below Fin' T (mkF m pc Ls (.int v :: S)) := by
  subst hp; exact G.via fun _ k => XS.istore X.here C.1 rfl (hb C.2.2.2.1 hd) rfl hl k
theorem Go.lloadN (C : Cx p s m meth c Z own nm bytes maxL ret) (X : Stand p l e R s m args below meth c T locs cells slots) {k : Fin 4} {v : Int64} (hd : decode bytes pc = .ok (.lload_n k, 1)) (hl : Ls[k.val]? = some (.val (.long v))) (hp : pc + 1 = pc') (G : Go p e below Fin' T (mkF m pc' Ls (.long v :: S))) : Go p e below Fin' T (mkF m pc Ls S) := by
  subst hp; exact G.via fun _ k => XS.lloadN X.here C.1 rfl (hb C.2.2.2.1 hd) hl k
theorem Go.lload (C : Cx p s m meth c Z own nm bytes maxL ret) (X : Stand p l e R s m args below meth c T locs cells slots) {k : Nat} {v : Int64} (hd : decode bytes pc = .ok (.lload k, 2)) (hl : Ls[k]? = some (.val (.long v))) (hp : pc + 2 = pc') (G : Go p e below Fin' T (mkF m pc' Ls (.long v :: S))) : Go p e below Fin' T (mkF m pc Ls S) := by
  subst hp; exact G.via fun _ k => XS.lload X.here C.1 rfl (hb C.2.2.2.1 hd) hl k
theorem Go.lstoreN (C : Cx p s m meth c Z own nm bytes maxL ret) (X : Stand p l e R s m args below meth c T locs cells slots) {k : Fin 4} {v : Int64} (hd : decode bytes pc = .ok (.lstore_n k, 1)) (hl : storeLocals Ls k.val (.long v) = some Ls') (hp : pc + 1 = pc') (G : Go p e below Fin' T (mkF m pc' Ls' S)) : Go p e below Fin' T (mkF m pc Ls (.long v :: S)) := by
  subst hp; exact G.via fun _ k => XS.lstoreN X.here C.1 rfl (hb C.2.2.2.1 hd) rfl hl k
theorem Go.lstore (C : Cx p s m meth c Z own nm bytes maxL ret) (X : Stand p l e R s m args below meth c T locs cells slots) {k : Nat} {v : Int64} (hd : decode bytes pc = .ok (.lstore k, 2)) (hl : storeLocals Ls k (.long v) = some Ls') (hp : pc + 2 = pc') (G : Go p e below Fin' T (mkF m pc' Ls' S)) : Go p e below Fin' T (mkF m pc Ls (.long v :: S)) := by
  subst hp; exact G.via fun _ k => XS.lstore X.here C.1 rfl (hb C.2.2.2.1 hd) rfl hl k
theorem Go.astoreN (C : Cx p s m meth c Z own nm bytes maxL ret) (X : Stand p l e R s m args below meth c T locs cells slots) {k : Fin 4} {v : Value} (hd : decode bytes pc = .ok (.astore_n k, 1)) (hv : v.isRef = true) (hl : storeLocals Ls k.val v = some Ls') (hp : pc + 1 = pc') (G : Go p e below Fin' T (mkF m pc' Ls' S)) : Go p e below Fin' T (mkF m pc Ls (v :: S)) := by
  subst hp; exact G.via fun _ k => XS.astoreN X.here C.1 rfl (hb C.2.2.2.1 hd) rfl hv hl k
theorem Go.astore (C : Cx p s m meth c Z own nm bytes maxL ret) (X : Stand p l e R s m args below meth c T locs cells slots) {k : Nat} {v : Value} (hd : decode bytes pc = .ok (.astore k, 2)) (hv : v.isRef = true) (hl : storeLocals Ls k v = some Ls') (hp : pc + 2 = pc') (G : Go p e below Fin' T (mkF m pc' Ls' S)) : Go p e below Fin' T (mkF m pc Ls (v :: S)) := by
  subst hp; exact G.via fun _ k => XS.astore X.here C.1 rfl (hb C.2.2.2.1 hd) rfl hv hl k
theorem Go.iconst (C : Cx p s m meth c Z own nm bytes maxL ret) (X : Stand p l e R s m args below meth c T locs cells slots) {i : Int} {z : Int32} (hd : decode bytes pc = .ok (.iconst i, 1)) (hz : Int32.ofInt i = z) (hp : pc + 1 = pc') (G : Go p e below Fin' T (mkF m pc' Ls (.int z :: S))) : Go p e below Fin' T (mkF m pc Ls S) := by
  subst hp; exact G.via fun _ k => XT.iconstV X.here C.1 rfl z (hb C.2.2.2.1 hd) hz k
theorem Go.bipush (C : Cx p s m meth c Z own nm bytes maxL ret) (X : Stand p l e R s m args below meth c T locs cells slots) {i : Int} {z : Int32} (hd : decode bytes pc = .ok (.bipush i, 2)) (hz : (Int8.ofInt i).toInt32 = z) (hp : pc + 2 = pc') (G : Go p e below Fin' T (mkF m pc' Ls (.int z :: S))) : Go p e below Fin' T (mkF m pc Ls S) := by
  subst hp; exact G.via fun _ k => XT.bipushV X.here C.1 rfl z (hb C.2.2.2.1 hd) hz k
theorem Go.sipush (C : Cx p s m meth c Z own nm bytes maxL ret) (X : Stand p l e R s m args below meth c T locs cells slots) {i : Int} {z : Int32} (hd : decode bytes pc = .ok (.sipush i, 3)) (hz : (Int16.ofInt i).toInt32 = z) (hp : pc + 3 = pc') (G : Go p e below Fin' T (mkF m pc' Ls (.int z :: S))) : Go p e below Fin' T (mkF m pc Ls S) := by
  subst hp; exact G.via fun _ k => XT.sipushV X.here C.1 rfl z (hb C.2.2.2.1 hd) hz k
theorem Go.lconst (C : Cx p s m meth c Z own nm bytes maxL ret) (X : Stand p l e R s m args below meth c T locs cells slots) {i : Fin 2} {z : Int64} (hd : decode bytes pc = .ok (.lconst i, 1)) (hz : Int64.ofNat i = z) (hp : pc + 1 = pc') (G : Go p e below Fin' T (mkF m pc' Ls (.long z :: S))) : Go p e below Fin' T (mkF m pc Ls S) := by
  subst hp; exact G.via fun _ k => XT.lconstV X.here C.1 rfl z (hb C.2.2.2.1 hd) hz k
theorem Go.aconstNull (C : Cx p s m meth c Z own nm bytes maxL ret) (X : Stand p l e R s m args below meth c T locs cells slots)  (hd : decode bytes pc = .ok (.aconst_null, 1))  (hp : pc + 1 = pc') (G : Go p e below Fin' T (mkF m pc' Ls (.null :: S))) : Go p e below Fin' T (mkF m pc Ls S) := by
  subst hp; exact G.via fun _ k => XS.aconstNull X.here C.1 rfl (hb C.2.2.2.1 hd) k
theorem Go.ldcI (C : Cx p s m meth c Z own nm bytes maxL ret) (X : Stand p l e R s m args below meth c T locs cells slots) {i : Nat} {z : Int32} (hd : decode bytes pc = .ok (.ldc i, 2)) (w : (Cond.constant own i z).before a0 Z = true) (hp : pc + 2 = pc') (G : Go p e below Fin' T (mkF m pc' Ls (.int z :: S))) : Go p e below Fin' T (mkF m pc Ls S) := by
  subst hp; exact G.via fun _ k => X.ldcI C.1 C.2.2.1 (mvT C.2.1 w) rfl (hb C.2.2.2.1 hd) k
theorem Go.ldcWI (C : Cx p s m meth c Z own nm bytes maxL ret) (X : Stand p l e R s m args below meth c T locs cells slots) {i : Nat} {z : Int32} (hd : decode bytes pc = .ok (.ldc_w i, 3)) (w : (Cond.constant own i z).before a0 Z = true) (hp : pc + 3 = pc') (G : Go p e below Fin' T (mkF m pc' Ls (.int z :: S))) : Go p e below Fin' T (mkF m pc Ls S) := by
  subst hp; exact G.via (X.ldcwInt C.1 C.2.2.1 (mvT C.2.1 w) (g := mkF m pc Ls S) rfl (hb C.2.2.2.1 hd))
theorem Go.ldc2J (C : Cx p s m meth c Z own nm bytes maxL ret) (X : Stand p l e R s m args below meth c T locs cells slots) {i : Nat} {z : Int64} (hd : decode bytes pc = .ok (.ldc2_w i, 3)) (w : (Cond.constantLong own i z).before a0 Z = true) (hp : pc + 3 = pc') (G : Go p e below Fin' T (mkF m pc' Ls (.long z :: S))) : Go p e below Fin' T (mkF m pc Ls S) := by
  subst hp; exact G.via fun _ k => X.ldc2J C.1 C.2.2.1 (mvT C.2.1 w) rfl (hb C.2.2.2.1 hd) k
theorem Go.iadd (C : Cx p s m meth c Z own nm bytes maxL ret) (X : Stand p l e R s m args below meth c T locs cells slots) {x y : Int32} (hd : decode bytes pc = .ok (.iadd, 1))  (hp : pc + 1 = pc') (G : Go p e below Fin' T (mkF m pc' Ls (.int (x + y) :: S))) : Go p e below Fin' T (mkF m pc Ls (.int y :: .int x :: S)) := by
  subst hp; exact G.via fun _ k => XS.iadd X.here C.1 rfl (hb C.2.2.2.1 hd) rfl k
theorem Go.ladd (C : Cx p s m meth c Z own nm bytes maxL ret) (X : Stand p l e R s m args below meth c T locs cells slots) {x y : Int64} (hd : decode bytes pc = .ok (.ladd, 1))  (hp : pc + 1 = pc') (G : Go p e below Fin' T (mkF m pc' Ls (.long (x + y) :: S))) : Go p e below Fin' T (mkF m pc Ls (.long y :: .long x :: S)) := by
  subst hp; exact G.via fun _ k => XS.ladd X.here C.1 rfl (hb C.2.2.2.1 hd) rfl k
theorem Go.isub (C : Cx p s m meth c Z own nm bytes maxL ret) (X : Stand p l e R s m args below meth c T locs cells slots) {x y : Int32} (hd : decode bytes pc = .ok (.isub, 1))  (hp : pc + 1 = pc') (G : Go p e below Fin' T (mkF m pc' Ls (.int (x - y) :: S))) : Go p e below Fin' T (mkF m pc Ls (.int y :: .int x :: S)) := by
  subst hp; exact G.via fun _ k => XS.isub X.here C.1 rfl (hb C.2.2.2.1 hd) rfl k
theorem Go.lsub (C : Cx p s m meth c Z own nm bytes maxL ret) (X : Stand p l e R s m args below meth c T locs cells slots) {x y : Int64} (hd : decode bytes pc = .ok (.lsub, 1))  (hp : pc + 1 = pc') (G : Go p e below Fin' T (mkF m pc' Ls (.long (x - y) :: S))) : Go p e below Fin' T (mkF m pc Ls (.long y :: .long x :: S)) := by
  subst hp; exact G.via fun _ k => XS.lsub X.here C.1 rfl (hb C.2.2.2.1 hd) rfl k
theorem Go.imul (C : Cx p s m meth c Z own nm bytes maxL ret) (X : Stand p l e R s m args below meth c T locs cells slots) {x y : Int32} (hd : decode bytes pc = .ok (.imul, 1))  (hp : pc + 1 = pc') (G : Go p e below Fin' T (mkF m pc' Ls (.int (x * y) :: S))) : Go p e below Fin' T (mkF m pc Ls (.int y :: .int x :: S)) := by
  subst hp; exact G.via fun _ k => XS.imul X.here C.1 rfl (hb C.2.2.2.1 hd) rfl k
theorem Go.lmul (C : Cx p s m meth c Z own nm bytes maxL ret) (X : Stand p l e R s m args below meth c T locs cells slots) {x y : Int64} (hd : decode bytes pc = .ok (.lmul, 1))  (hp : pc + 1 = pc') (G : Go p e below Fin' T (mkF m pc' Ls (.long (x * y) :: S))) : Go p e below Fin' T (mkF m pc Ls (.long y :: .long x :: S)) := by
  subst hp; exact G.via fun _ k => XS.lmul X.here C.1 rfl (hb C.2.2.2.1 hd) rfl k
theorem Go.iand (C : Cx p s m meth c Z own nm bytes maxL ret) (X : Stand p l e R s m args below meth c T locs cells slots) {x y : Int32} (hd : decode bytes pc = .ok (.iand, 1))  (hp : pc + 1 = pc') (G : Go p e below Fin' T (mkF m pc' Ls (.int (x &&& y) :: S))) : Go p e below Fin' T (mkF m pc Ls (.int y :: .int x :: S)) := by
  subst hp; exact G.via fun _ k => XS.iand X.here C.1 rfl (hb C.2.2.2.1 hd) rfl k
theorem Go.land (C : Cx p s m meth c Z own nm bytes maxL ret) (X : Stand p l e R s m args below meth c T locs cells slots) {x y : Int64} (hd : decode bytes pc = .ok (.land, 1))  (hp : pc + 1 = pc') (G : Go p e below Fin' T (mkF m pc' Ls (.long (x &&& y) :: S))) : Go p e below Fin' T (mkF m pc Ls (.long y :: .long x :: S)) := by
  subst hp; exact G.via fun _ k => XS.land X.here C.1 rfl (hb C.2.2.2.1 hd) rfl k
theorem Go.ior (C : Cx p s m meth c Z own nm bytes maxL ret) (X : Stand p l e R s m args below meth c T locs cells slots) {x y : Int32} (hd : decode bytes pc = .ok (.ior, 1))  (hp : pc + 1 = pc') (G : Go p e below Fin' T (mkF m pc' Ls (.int (x ||| y) :: S))) : Go p e below Fin' T (mkF m pc Ls (.int y :: .int x :: S)) := by
  subst hp; exact G.via fun _ k => XS.ior X.here C.1 rfl (hb C.2.2.2.1 hd) rfl k
theorem Go.lor (C : Cx p s m meth c Z own nm bytes maxL ret) (X : Stand p l e R s m args below meth c T locs cells slots) {x y : Int64} (hd : decode bytes pc = .ok (.lor, 1))  (hp : pc + 1 = pc') (G : Go p e below Fin' T (mkF m pc' Ls (.long (x ||| y) :: S))) : Go p e below Fin' T (mkF m pc Ls (.long y :: .long x :: S)) := by
  subst hp; exact G.via fun _ k => XS.lor X.here C.1 rfl (hb C.2.2.2.1 hd) rfl k
theorem Go.ixor (C : Cx p s m meth c Z own nm bytes maxL ret) (X : Stand p l e R s m args below meth c T locs cells slots) {x y : Int32} (hd : decode bytes pc = .ok (.ixor, 1))  (hp : pc + 1 = pc') (G : Go p e below Fin' T (mkF m pc' Ls (.int (x ^^^ y) :: S))) : Go p e below Fin' T (mkF m pc Ls (.int y :: .int x :: S)) := by
  subst hp; exact G.via fun _ k => XS.ixor X.here C.1 rfl (hb C.2.2.2.1 hd) rfl k
theorem Go.lxor (C : Cx p s m meth c Z own nm bytes maxL ret) (X : Stand p l e R s m args below meth c T locs cells slots) {x y : Int64} (hd : decode bytes pc = .ok (.lxor, 1))  (hp : pc + 1 = pc') (G : Go p e below Fin' T (mkF m pc' Ls (.long (x ^^^ y) :: S))) : Go p e below Fin' T (mkF m pc Ls (.long y :: .long x :: S)) := by
  subst hp; exact G.via fun _ k => XS.lxor X.here C.1 rfl (hb C.2.2.2.1 hd) rfl k
theorem Go.ishl (C : Cx p s m meth c Z own nm bytes maxL ret) (X : Stand p l e R s m args below meth c T locs cells slots) {x y : Int32} (hd : decode bytes pc = .ok (.ishl, 1))  (hp : pc + 1 = pc') (G : Go p e below Fin' T (mkF m pc' Ls (.int (x <<< (y &&& 31)) :: S))) : Go p e below Fin' T (mkF m pc Ls (.int y :: .int x :: S)) := by
  subst hp; exact G.via fun _ k => XS.ishl X.here C.1 rfl (hb C.2.2.2.1 hd) rfl k
theorem Go.ishr (C : Cx p s m meth c Z own nm bytes maxL ret) (X : Stand p l e R s m args below meth c T locs cells slots) {x y : Int32} (hd : decode bytes pc = .ok (.ishr, 1))  (hp : pc + 1 = pc') (G : Go p e below Fin' T (mkF m pc' Ls (.int (x >>> (y &&& 31)) :: S))) : Go p e below Fin' T (mkF m pc Ls (.int y :: .int x :: S)) := by
  subst hp; exact G.via fun _ k => XS.ishr X.here C.1 rfl (hb C.2.2.2.1 hd) rfl k
theorem Go.iushr (C : Cx p s m meth c Z own nm bytes maxL ret) (X : Stand p l e R s m args below meth c T locs cells slots) {x y : Int32} (hd : decode bytes pc = .ok (.iushr, 1))  (hp : pc + 1 = pc') (G : Go p e below Fin' T (mkF m pc' Ls (.int ((x.toUInt32 >>> (y &&& 31).toUInt32).toInt32) :: S))) : Go p e below Fin' T (mkF m pc Ls (.int y :: .int x :: S)) := by
  subst hp; exact G.via fun _ k => XS.iushr X.here C.1 rfl (hb C.2.2.2.1 hd) rfl k
theorem Go.lshl (C : Cx p s m meth c Z own nm bytes maxL ret) (X : Stand p l e R s m args below meth c T locs cells slots) {x : Int64} {y : Int32} (hd : decode bytes pc = .ok (.lshl, 1))  (hp : pc + 1 = pc') (G : Go p e below Fin' T (mkF m pc' Ls (.long (x <<< (y &&& 0x3f).toInt64) :: S))) : Go p e below Fin' T (mkF m pc Ls (.int y :: .long x :: S)) := by
  subst hp; exact G.via fun _ k => XS.lshl X.here C.1 rfl (hb C.2.2.2.1 hd) rfl k
theorem Go.lshr (C : Cx p s m meth c Z own nm bytes maxL ret) (X : Stand p l e R s m args below meth c T locs cells slots) {x : Int64} {y : Int32} (hd : decode bytes pc = .ok (.lshr, 1))  (hp : pc + 1 = pc') (G : Go p e below Fin' T (mkF m pc' Ls (.long (x >>> (y &&& 0x3f).toInt64) :: S))) : Go p e below Fin' T (mkF m pc Ls (.int y :: .long x :: S)) := by
  subst hp; exact G.via fun _ k => XS.lshr X.here C.1 rfl (hb C.2.2.2.1 hd) rfl k
theorem Go.lushr (C : Cx p s m meth c Z own nm bytes maxL ret) (X : Stand p l e R s m args below meth c T locs cells slots) {x : Int64} {y : Int32} (hd : decode bytes pc = .ok (.lushr, 1))  (hp : pc + 1 = pc') (G : Go p e below Fin' T (mkF m pc' Ls (.long ((x.toUInt64 >>> (y &&& 0x3f).toInt64.toUInt64).toInt64) :: S))) : Go p e below Fin' T (mkF m pc Ls (.int y :: .long x :: S)) := by
  subst hp; exact G.via fun _ k => XS.lushr X.here C.1 rfl (hb C.2.2.2.1 hd) rfl k
theorem Go.idiv (C : Cx p s m meth c Z own nm bytes maxL ret) (X : Stand p l e R s m args below meth c T locs cells slots) {x y : Int32} (hd : decode bytes pc = .ok (.idiv, 1)) (hy : y ≠ 0) (hp : pc + 1 = pc') (G : Go p e below Fin' T (mkF m pc' Ls (.int (x / y) :: S))) : Go p e below Fin' T (mkF m pc Ls (.int y :: .int x :: S)) := by
  subst hp; exact G.via fun _ k => XS.idiv X.here C.1 rfl (hb C.2.2.2.1 hd) rfl hy k
theorem Go.irem (C : Cx p s m meth c Z own nm bytes maxL ret) (X : Stand p l e R s m args below meth c T locs cells slots) {x y : Int32} (hd : decode bytes pc = .ok (.irem, 1)) (hy : y ≠ 0) (hp : pc + 1 = pc') (G : Go p e below Fin' T (mkF m pc' Ls (.int (x % y) :: S))) : Go p e below Fin' T (mkF m pc Ls (.int y :: .int x :: S)) := by
  subst hp; exact G.via fun _ k => iremM X C.1 rfl (hb C.2.2.2.1 hd) rfl hy k
theorem Go.ldiv (C : Cx p s m meth c Z own nm bytes maxL ret) (X : Stand p l e R s m args below meth c T locs cells slots) {x y : Int64} (hd : decode bytes pc = .ok (.ldiv, 1)) (hy : y ≠ 0) (hp : pc + 1 = pc') (G : Go p e below Fin' T (mkF m pc' Ls (.long (x / y) :: S))) : Go p e below Fin' T (mkF m pc Ls (.long y :: .long x :: S)) := by
  subst hp; exact G.via fun _ k => XS.ldiv X.here C.1 rfl (hb C.2.2.2.1 hd) rfl hy k
theorem Go.ineg (C : Cx p s m meth c Z own nm bytes maxL ret) (X : Stand p l e R s m args below meth c T locs cells slots) {x : Int32} (hd : decode bytes pc = .ok (.ineg, 1))  (hp : pc + 1 = pc') (G : Go p e below Fin' T (mkF m pc' Ls (.int (-x) :: S))) : Go p e below Fin' T (mkF m pc Ls (.int x :: S)) := by
  subst hp; exact G.via fun _ k => XS.ineg X.here C.1 rfl (hb C.2.2.2.1 hd) rfl k
theorem Go.lneg (C : Cx p s m meth c Z own nm bytes maxL ret) (X : Stand p l e R s m args below meth c T locs cells slots) {x : Int64} (hd : decode bytes pc = .ok (.lneg, 1))  (hp : pc + 1 = pc') (G : Go p e below Fin' T (mkF m pc' Ls (.long (-x) :: S))) : Go p e below Fin' T (mkF m pc Ls (.long x :: S)) := by
  subst hp; exact G.via fun _ k => XS.lneg X.here C.1 rfl (hb C.2.2.2.1 hd) rfl k
theorem Go.i2l (C : Cx p s m meth c Z own nm bytes maxL ret) (X : Stand p l e R s m args below meth c T locs cells slots) {x : Int32} (hd : decode bytes pc = .ok (.i2l, 1))  (hp : pc + 1 = pc') (G : Go p e below Fin' T (mkF m pc' Ls (.long (x.toInt64) :: S))) : Go p e below Fin' T (mkF m pc Ls (.int x :: S)) := by
  subst hp; exact G.via fun _ k => XS.i2l X.here C.1 rfl (hb C.2.2.2.1 hd) rfl k
theorem Go.l2i (C : Cx p s m meth c Z own nm bytes maxL ret) (X : Stand p l e R s m args below meth c T locs cells slots) {x : Int64} (hd : decode bytes pc = .ok (.l2i, 1))  (hp : pc + 1 = pc') (G : Go p e below Fin' T (mkF m pc' Ls (.int (x.toInt32) :: S))) : Go p e below Fin' T (mkF m pc Ls (.long x :: S)) := by
  subst hp; exact G.via fun _ k => XS.l2i X.here C.1 rfl (hb C.2.2.2.1 hd) rfl k
theorem Go.i2b (C : Cx p s m meth c Z own nm bytes maxL ret) (X : Stand p l e R s m args below meth c T locs cells slots) {x : Int32} (hd : decode bytes pc = .ok (.i2b, 1))  (hp : pc + 1 = pc') (G : Go p e below Fin' T (mkF m pc' Ls (.int (x.toInt8.toInt32) :: S))) : Go p e below Fin' T (mkF m pc Ls (.int x :: S)) := by
  subst hp; exact G.via fun _ k => XS.i2b X.here C.1 rfl (hb C.2.2.2.1 hd) rfl k
theorem Go.i2c (C : Cx p s m meth c Z own nm bytes maxL ret) (X : Stand p l e R s m args below meth c T locs cells slots) {x : Int32} (hd : decode bytes pc = .ok (.i2c, 1))  (hp : pc + 1 = pc') (G : Go p e below Fin' T (mkF m pc' Ls (.int (x.toUInt32.toUInt16.toUInt32.toInt32) :: S))) : Go p e below Fin' T (mkF m pc Ls (.int x :: S)) := by
  subst hp; exact G.via fun _ k => XS.i2c X.here C.1 rfl (hb C.2.2.2.1 hd) rfl k
theorem Go.i2s (C : Cx p s m meth c Z own nm bytes maxL ret) (X : Stand p l e R s m args below meth c T locs cells slots) {x : Int32} (hd : decode bytes pc = .ok (.i2s, 1))  (hp : pc + 1 = pc') (G : Go p e below Fin' T (mkF m pc' Ls (.int (x.toInt16.toInt32) :: S))) : Go p e below Fin' T (mkF m pc Ls (.int x :: S)) := by
  subst hp; exact G.via fun _ k => XS.i2s X.here C.1 rfl (hb C.2.2.2.1 hd) rfl k
theorem Go.lcmp (C : Cx p s m meth c Z own nm bytes maxL ret) (X : Stand p l e R s m args below meth c T locs cells slots) {x y : Int64} (hd : decode bytes pc = .ok (.lcmp, 1))  (hp : pc + 1 = pc') (G : Go p e below Fin' T (mkF m pc' Ls (.int (lcmpW x y) :: S))) : Go p e below Fin' T (mkF m pc Ls (.long y :: .long x :: S)) := by
  subst hp; exact G.via fun _ k => XS.lcmp X.here C.1 rfl (hb C.2.2.2.1 hd) rfl k
theorem Go.iinc (C : Cx p s m meth c Z own nm bytes maxL ret) (X : Stand p l e R s m args below meth c T locs cells slots) {k : Nat} {i : Int} {z x : Int32} (hd : decode bytes pc = .ok (.iinc k i, 3)) (hz : Int32.ofInt i = z) (hl : Ls[k]? = some (.val (.int x))) (hl' : storeLocals Ls k (.int (x + z)) = some Ls') (hp : pc + 3 = pc') (G : Go p e below Fin' T (mkF m pc' Ls' S)) : Go p e below Fin' T (mkF m pc Ls S) := by
  subst hp; exact G.via fun _ k => XT.iincV X.here C.1 rfl z (hb C.2.2.2.1 hd) hz hl hl' k
theorem Go.dup (C : Cx p s m meth c Z own nm bytes maxL ret) (X : Stand p l e R s m args below meth c T locs cells slots) {v : Value} (hd : decode bytes pc = .ok (.dup, 1)) (hc : v.category = 1) (hp : pc + 1 = pc') (G : Go p e below Fin' T (mkF m pc' Ls (v :: v :: S))) : Go p e below Fin' T (mkF m pc Ls (v :: S)) := by
  subst hp; exact G.via fun _ k => XS.dup X.here C.1 rfl (hb C.2.2.2.1 hd) rfl hc k
theorem Go.pop (C : Cx p s m meth c Z own nm bytes maxL ret) (X : Stand p l e R s m args below meth c T locs cells slots) {v : Value} (hd : decode bytes pc = .ok (.pop, 1)) (hc : v.category = 1) (hp : pc + 1 = pc') (G : Go p e below Fin' T (mkF m pc' Ls S)) : Go p e below Fin' T (mkF m pc Ls (v :: S)) := by
  subst hp; exact G.via fun _ k => XS.pop X.here C.1 rfl (hb C.2.2.2.1 hd) rfl hc k
theorem Go.dupX1 (C : Cx p s m meth c Z own nm bytes maxL ret) (X : Stand p l e R s m args below meth c T locs cells slots) {v w : Value} (hd : decode bytes pc = .ok (.dup_x1, 1)) (hc : v.category = 1) (hc' : w.category = 1) (hp : pc + 1 = pc') (G : Go p e below Fin' T (mkF m pc' Ls (v :: w :: v :: S))) : Go p e below Fin' T (mkF m pc Ls (v :: w :: S)) := by
  subst hp; exact G.via fun _ k => XS.dupX1 X.here C.1 rfl (hb C.2.2.2.1 hd) rfl hc hc' k
theorem Go.dup2 (C : Cx p s m meth c Z own nm bytes maxL ret) (X : Stand p l e R s m args below meth c T locs cells slots) {v w : Value} (hd : decode bytes pc = .ok (.dup2, 1)) (hc : v.category = 1) (hc' : w.category = 1) (hp : pc + 1 = pc') (G : Go p e below Fin' T (mkF m pc' Ls (v :: w :: v :: w :: S))) : Go p e below Fin' T (mkF m pc Ls (v :: w :: S)) := by
  subst hp; exact G.via fun _ k => XT.dup2 X.here C.1 rfl (hb C.2.2.2.1 hd) rfl hc hc' k
theorem Go.dup2L (C : Cx p s m meth c Z own nm bytes maxL ret) (X : Stand p l e R s m args below meth c T locs cells slots) {x : Int64} (hd : decode bytes pc = .ok (.dup2, 1))  (hp : pc + 1 = pc') (G : Go p e below Fin' T (mkF m pc' Ls (.long x :: .long x :: S))) : Go p e below Fin' T (mkF m pc Ls (.long x :: S)) := by
  subst hp; exact G.via fun _ k => XT.dup2L X.here C.1 rfl (hb C.2.2.2.1 hd) rfl k
theorem Go.goto (C : Cx p s m meth c Z own nm bytes maxL ret) (X : Stand p l e R s m args below meth c T locs cells slots)  {o : Int} (hd : decode bytes pc = .ok (.goto o, 3))  (ho : 0 ≤ (pc : Int) + o) (hp : ((pc : Int) + o).toNat = pc') (G : Go p e below Fin' T (mkF m pc' Ls S)) : Go p e below Fin' T (mkF m pc Ls S) :=
  G.via fun _ k => XS.goto X.here C.1 rfl rfl (hb C.2.2.2.1 hd) ho hp k
theorem Go.ifYes (C : Cx p s m meth c Z own nm bytes maxL ret) (X : Stand p l e R s m args below meth c T locs cells slots) {cd : ClassFile.Cond} {x : Int32} {o : Int} (hd : decode bytes pc = .ok (.ifCond cd o, 3)) (hc : ifCond.holds cd x = true) (ho : 0 ≤ (pc : Int) + o) (hp : ((pc : Int) + o).toNat = pc') (G : Go p e below Fin' T (mkF m pc' Ls S)) : Go p e below Fin' T (mkF m pc Ls (.int x :: S)) :=
  G.via fun _ k => XS.ifYes X.here C.1 rfl rfl (hb C.2.2.2.1 hd) rfl hc ho hp k
theorem Go.ifNo (C : Cx p s m meth c Z own nm bytes maxL ret) (X : Stand p l e R s m args below meth c T locs cells slots) {cd : ClassFile.Cond} {x : Int32} {o : Int} (hd : decode bytes pc = .ok (.ifCond cd o, 3)) (hc : ifCond.holds cd x = false) (hp : pc + 3 = pc') (G : Go p e below Fin' T (mkF m pc' Ls S)) : Go p e below Fin' T (mkF m pc Ls (.int x :: S)) := by
  subst hp; exact G.via fun _ k => XS.ifNo X.here C.1 rfl (hb C.2.2.2.1 hd) rfl hc k
theorem Go.icmpYes (C : Cx p s m meth c Z own nm bytes maxL ret) (X : Stand p l e R s m args below meth c T locs cells slots) {cd : ClassFile.Cond} {x y : Int32} {o : Int} (hd : decode bytes pc = .ok (.if_icmp cd o, 3)) (hc : if_icmp.holds cd x y = true) (ho : 0 ≤ (pc : Int) + o) (hp : ((pc : Int) + o).toNat = pc') (G : Go p e below Fin' T (mkF m pc' Ls S)) : Go p e below Fin' T (mkF m pc Ls (.int y :: .int x :: S)) :=
  G.via fun _ k => XS.icmpYes X.here C.1 rfl rfl (hb C.2.2.2.1 hd) rfl hc ho hp k
theorem Go.icmpNo (C : Cx p s m meth c Z own nm bytes maxL ret) (X : Stand p l e R s m args below meth c T locs cells slots) {cd : ClassFile.Cond} {x y : Int32} {o : Int} (hd : decode bytes pc = .ok (.if_icmp cd o, 3)) (hc : if_icmp.holds cd x y = false) (hp : pc + 3 = pc') (G : Go p e below Fin' T (mkF m pc' Ls S)) : Go p e below Fin' T (mkF m pc Ls (.int y :: .int x :: S)) := by
  subst hp; exact G.via fun _ k => XS.icmpNo X.here C.1 rfl (hb C.2.2.2.1 hd) rfl hc k
theorem Go.ifnullYes (C : Cx p s m meth c Z own nm bytes maxL ret) (X : Stand p l e R s m args below meth c T locs cells slots)  {o : Int} (hd : decode bytes pc = .ok (.ifnull o, 3))  (ho : 0 ≤ (pc : Int) + o) (hp : ((pc : Int) + o).toNat = pc') (G : Go p e below Fin' T (mkF m pc' Ls S)) : Go p e below Fin' T (mkF m pc Ls (.null :: S)) :=
  G.via fun _ k => XS.ifnullYes X.here C.1 rfl rfl (hb C.2.2.2.1 hd) rfl ho hp k
theorem Go.ifnullNo (C : Cx p s m meth c Z own nm bytes maxL ret) (X : Stand p l e R s m args below meth c T locs cells slots) {b : Addr} {o : Int} (hd : decode bytes pc = .ok (.ifnull o, 3))  (hp : pc + 3 = pc') (G : Go p e below Fin' T (mkF m pc' Ls S)) : Go p e below Fin' T (mkF m pc Ls (.ref b :: S)) := by
  subst hp; exact G.via fun _ k => XS.ifnullNo X.here C.1 rfl (hb C.2.2.2.1 hd) rfl k
theorem Go.ifnonnullYes (C : Cx p s m meth c Z own nm bytes maxL ret) (X : Stand p l e R s m args below meth c T locs cells slots) {b : Addr} {o : Int} (hd : decode bytes pc = .ok (.ifnonnull o, 3))  (ho : 0 ≤ (pc : Int) + o) (hp : ((pc : Int) + o).toNat = pc') (G : Go p e below Fin' T (mkF m pc' Ls S)) : Go p e below Fin' T (mkF m pc Ls (.ref b :: S)) :=
  G.via fun _ k => XS.ifnonnullYes X.here C.1 rfl rfl (hb C.2.2.2.1 hd) rfl ho hp k
theorem Go.ifnonnullNo (C : Cx p s m meth c Z own nm bytes maxL ret) (X : Stand p l e R s m args below meth c T locs cells slots)  {o : Int} (hd : decode bytes pc = .ok (.ifnonnull o, 3))  (hp : pc + 3 = pc') (G : Go p e below Fin' T (mkF m pc' Ls S)) : Go p e below Fin' T (mkF m pc Ls (.null :: S)) := by
  subst hp; exact G.via fun _ k => XS.ifnonnullNo X.here C.1 rfl (hb C.2.2.2.1 hd) rfl k
theorem Go.acmpYes (C : Cx p s m meth c Z own nm bytes maxL ret) (X : Stand p l e R s m args below meth c T locs cells slots) {cd : ClassFile.ACond} {v w : Value} {o : Int} (hd : decode bytes pc = .ok (.if_acmp cd o, 3)) (hv : v.isRef = true) (hw : w.isRef = true) (hc : XT.acmp cd v w = true) (ho : 0 ≤ (pc : Int) + o) (hp : ((pc : Int) + o).toNat = pc') (G : Go p e below Fin' T (mkF m pc' Ls S)) : Go p e below Fin' T (mkF m pc Ls (w :: v :: S)) :=
  G.via fun _ k => XT.acmpYes X.here C.1 rfl rfl (hb C.2.2.2.1 hd) rfl hv hw hc ho hp k
theorem Go.acmpNo (C : Cx p s m meth c Z own nm bytes maxL ret) (X : Stand p l e R s m args below meth c T locs cells slots) {cd : ClassFile.ACond} {v w : Value} {o : Int} (hd : decode bytes pc = .ok (.if_acmp cd o, 3)) (hv : v.isRef = true) (hw : w.isRef = true) (hc : XT.acmp cd v w = false) (hp : pc + 3 = pc') (G : Go p e below Fin' T (mkF m pc' Ls S)) : Go p e below Fin' T (mkF m pc Ls (w :: v :: S)) := by
  subst hp; exact G.via fun _ k => XT.acmpNo X.here C.1 rfl (hb C.2.2.2.1 hd) rfl hv hw hc k
theorem Go.tswIn (C : Cx p s m meth c Z own nm bytes maxL ret) (X : Stand p l e R s m args below meth c T locs cells slots) {dflt low high : Int} {offs : Array Int} {len : Nat} {o : Int} {i : Int32} (hd : decode bytes pc = .ok (.tableswitch dflt low high offs, len)) (hin : ¬ (i.toInt < low ∨ i.toInt > high)) (hoff : offs[(i.toInt - low).toNat]? = some o) (ho : 0 ≤ (pc : Int) + o) (hp : ((pc : Int) + o).toNat = pc') (G : Go p e below Fin' T (mkF m pc' Ls S)) : Go p e below Fin' T (mkF m pc Ls (.int i :: S)) :=
  G.via fun _ k => XS.tswIn X.here C.1 rfl rfl (hb C.2.2.2.1 hd) rfl hin hoff ho hp k
theorem Go.tswOut (C : Cx p s m meth c Z own nm bytes maxL ret) (X : Stand p l e R s m args below meth c T locs cells slots) {dflt low high : Int} {offs : Array Int} {len : Nat} {i : Int32} (hd : decode bytes pc = .ok (.tableswitch dflt low high offs, len)) (hout : i.toInt < low ∨ i.toInt > high) (ho : 0 ≤ (pc : Int) + dflt) (hp : ((pc : Int) + dflt).toNat = pc') (G : Go p e below Fin' T (mkF m pc' Ls S)) : Go p e below Fin' T (mkF m pc Ls (.int i :: S)) :=
  G.via fun _ k => XS.tswOut X.here C.1 rfl rfl (hb C.2.2.2.1 hd) rfl hout ho hp k
/-! the returns -/
theorem Go.retV (C : Cx p s m meth c Z own nm bytes maxL ret) (X : Stand p l e R s m args below meth c T locs cells slots)  (hr : ret = none) (hd : decode bytes pc = .ok (.return_, 1))  (hq : Q none T.heap locs) (hc : cells ≤ RC) (hs : slots ≤ RS) : Go p e below (Fn s RC RS Q) T (mkF m pc Ls []) := by
  have hret := C.2.2.2.2.2.1
  have hlk := C.2.2.2.2.2.2.2
  rw [hr] at hret
  obtain ⟨fs, hl, hrun, hended, hW, hsame⟩ := X.leave (v := none) (fun h => by first | rfl | (rw [hret] at h; cases h)) hlk
  exact ⟨_, _, X.returnOut C.1 hret (hb C.2.2.2.1 hd) hl, hrun, hended, _, _, rfl, hq, ⟨_, rfl⟩, hW, hsame.mono hc hs⟩
theorem Go.retN (C : Cx p s m meth c Z own nm bytes maxL ret) (X : Stand p l e R s m args below meth c T locs cells slots) {t : FieldType} {z : Int32} (hr : ret = some t) (hd : decode bytes pc = .ok (.ireturn, 1)) (ht : t = .boolean ∨ t = .byte ∨ t = .char ∨ t = .short) (hq : Q (some (.int (nar t z))) T.heap locs) (hc : cells ≤ RC) (hs : slots ≤ RS) : Go p e below (Fn s RC RS Q) T (mkF m pc Ls (.int z :: S)) := by
  have hret := C.2.2.2.2.2.1
  have hlk := C.2.2.2.2.2.2.2
  rw [hr] at hret
  obtain ⟨fs, hl, hrun, hended, hW, hsame⟩ := X.leave (v := (some (.int (nar t z)))) (fun h => by first | rfl | (rw [hret] at h; cases h)) hlk
  exact ⟨_, _, Jvm.RoadKit.retN X C.1 hret ht (hb C.2.2.2.1 hd) hl, hrun, hended, _, _, rfl, hq, ⟨_, rfl⟩, hW, hsame.mono hc hs⟩
theorem Go.retI (C : Cx p s m meth c Z own nm bytes maxL ret) (X : Stand p l e R s m args below meth c T locs cells slots) {z : Int32} (hr : ret = some .int) (hd : decode bytes pc = .ok (.ireturn, 1))  (hq : Q (some (.int z)) T.heap locs) (hc : cells ≤ RC) (hs : slots ≤ RS) : Go p e below (Fn s RC RS Q) T (mkF m pc Ls (.int z :: S)) := by
  have hret := C.2.2.2.2.2.1
  have hlk := C.2.2.2.2.2.2.2
  rw [hr] at hret
  obtain ⟨fs, hl, hrun, hended, hW, hsame⟩ := X.leave (v := (some (.int z))) (fun h => by first | rfl | (rw [hret] at h; cases h)) hlk
  exact ⟨_, _, retOut X C.1 hret rfl (Or.inl ⟨rfl, Or.inl rfl, z, rfl⟩) (hb C.2.2.2.1 hd) hl, hrun, hended, _, _, rfl, hq, ⟨_, rfl⟩, hW, hsame.mono hc hs⟩
theorem Go.retJ (C : Cx p s m meth c Z own nm bytes maxL ret) (X : Stand p l e R s m args below meth c T locs cells slots) {z : Int64} (hr : ret = some .long) (hd : decode bytes pc = .ok (.lreturn, 1))  (hq : Q (some (.long z)) T.heap locs) (hc : cells ≤ RC) (hs : slots ≤ RS) : Go p e below (Fn s RC RS Q) T (mkF m pc Ls (.long z :: S)) := by
  have hret := C.2.2.2.2.2.1
  have hlk := C.2.2.2.2.2.2.2
  rw [hr] at hret
  obtain ⟨fs, hl, hrun, hended, hW, hsame⟩ := X.leave (v := (some (.long z))) (fun h => by first | rfl | (rw [hret] at h; cases h)) hlk
  exact ⟨_, _, retOut X C.1 hret rfl (Or.inr (Or.inl ⟨rfl, rfl, z, rfl⟩)) (hb C.2.2.2.1 hd) hl, hrun, hended, _, _, rfl, hq, ⟨_, rfl⟩, hW, hsame.mono hc hs⟩
theorem Go.retA (C : Cx p s m meth c Z own nm bytes maxL ret) (X : Stand p l e R s m args below meth c T locs cells slots) {t : FieldType} {v : Value} (hr : ret = some t) (hd : decode bytes pc = .ok (.areturn, 1)) (ht : t.isReference = true) (hv : v.isRef = true) (hn : narrow t v = v) (hq : Q (some v) T.heap locs) (hc : cells ≤ RC) (hs : slots ≤ RS) : Go p e below (Fn s RC RS Q) T (mkF m pc Ls (v :: S)) := by
  have hret := C.2.2.2.2.2.1
  have hlk := C.2.2.2.2.2.2.2
  rw [hr] at hret
  obtain ⟨fs, hl, hrun, hended, hW, hsame⟩ := X.leave (v := (some v)) (fun h => by first | rfl | (rw [hret] at h; cases h)) hlk
  exact ⟨_, _, retOut X C.1 hret hn (Or.inr (Or.inr (Or.inr (Or.inr ⟨rfl, ht, hv⟩)))) (hb C.2.2.2.1 hd) hl, hrun, hended, _, _, rfl, hq, ⟨_, rfl⟩, hW, hsame.mono hc hs⟩
/-! arrays whose elements are all known -/
def AL (Z : State) (h : Heap) (a : Addr) (k : ClassId) (ty : FieldType) (vs : List Value) : Prop := ∃ c : Cell, Arr Z h a c ty ∧ c.cls = k ∧ c.slots = vs.toArray
theorem AL.lt {a : Addr} {k : ClassId} {ty : FieldType} {vs : List Value} (F : AL Z h a k ty vs) : a < h.size := by obtain ⟨c, A, -⟩ := F; exact A.lt
theorem AL.ext {h' : Heap} {a : Addr} {k : ClassId} {ty : FieldType} {vs : List Value} (E : Ext h h') (F : AL Z h a k ty vs) : AL Z h' a k ty vs := by obtain ⟨c, A, r⟩ := F; exact ⟨c, A.ext E, r⟩
theorem AL.other {h' : Heap} {a b : Addr} {sl : Nat} {v : Value} {k : ClassId} {ty : FieldType} {vs : List Value} (W : Wr h h' a sl v) (F : AL Z h b k ty vs) (q : b ≠ a) : AL Z h' b k ty vs := by obtain ⟨c, A, r⟩ := F; exact ⟨c, A.other W q, r⟩
theorem AL.keep {h' : Heap} {a : Addr} {ws : List Addr} {k : ClassId} {ty : FieldType} {vs : List Value} (F : AL Z h a k ty vs) (K : Keep h h' ws) (q : a ∉ ws) : AL Z h' a k ty vs := by obtain ⟨c, A, r⟩ := F; exact ⟨c, ⟨K.2.1 a c A.1 q, A.2⟩, r⟩
theorem AL.set {h' : Heap} {a : Addr} {i : Nat} {v : Value} {k : ClassId} {ty : FieldType} {vs : List Value} (F : AL Z h a k ty vs) (W : Wr h h' a i v) : AL Z h' a k ty (vs.set i v) := by
  obtain ⟨c, A, r1, r2⟩ := F
  exact ⟨_, A.same W, r1, by simp [Cell.setSlot, r2]⟩
theorem AL.new {a : Addr} {k : ClassId} {ty : FieldType} {n : Int32} (A : Arr Z h a (newA k ty n) ty) : AL Z h a k ty (List.replicate n.toNatClampNeg (defaultValue ty)) := ⟨_, A, rfl, by simp [newA]⟩
theorem AL.arv {a : Addr} {k : ClassId} {ty : FieldType} {n : Int32} {vs : List Value} {dv : Value} (F : AL Z h a k ty vs) (hn : ¬ n < 0) (hl : n.toNatClampNeg = vs.length) (hf : ∀ v ∈ vs, fits ty v = true) : Arv Z h a k ty n vs dv := by
  obtain ⟨c, A, r1, r2⟩ := F
  refine ⟨c, A, r1, by rw [r2]; simp [hl], hn, fun i hi => ?_, fun i hi => ?_⟩
  · have hi' : i < vs.length := by simpa [r2] using hi
    simp [r2, List.getD, List.getElem?_eq_getElem hi']
  · have hi' : i < vs.length := by simpa [r2] using hi
    have q : vs.getD i dv = vs[i] := by simp [List.getD, List.getElem?_eq_getElem hi']
    rw [q]; exact hf _ (List.getElem_mem hi')
theorem AL.of_arv {a : Addr} {k : ClassId} {ty : FieldType} {n : Int32} {vs : List Value} {dv : Value} (F : Arv Z h a k ty n vs dv) (hl : n.toNatClampNeg = vs.length) : AL Z h a k ty vs := by
  obtain ⟨c, A, r1, r2, -, H, -⟩ := F
  refine ⟨c, A, r1, ?_⟩
  apply Array.ext_getElem?
  intro i
  by_cases hi : i < c.slots.size
  · have hi' : i < vs.length := by omega
    rw [H i hi]
    simp [List.getD, List.getElem?_eq_getElem hi']
  · have hi' : vs.length ≤ i := by omega
    rw [Array.getElem?_eq_none (by omega)]
    simp [List.getElem?_eq_none hi']
theorem Sta.old {n d K1 : String} {v : Value} (F : Sta Z Z.heap K1 n d v) (O : Ext Z.heap h) : Sta Z h K1 n d v := F.ext O
theorem Ext.trans {h1 h2 h3 : Heap} (E : Ext h1 h2) (E' : Ext h2 h3) : Ext h1 h3 := ⟨Nat.le_trans E.1 E'.1, fun x c q => E'.2 x c (E.2 x c q)⟩
theorem Ext.refl (h : Heap) : Ext h h := ⟨Nat.le_refl _, fun _ _ q => q⟩
theorem Ext.wr {h1 h2 h3 : Heap} {a : Addr} {sl : Nat} {v : Value} (E : Ext h1 h2) (W : Wr h2 h3 a sl v) (q : h1.size ≤ a) : Ext h1 h3 := by
  refine ⟨by rw [W.size]; exact E.1, fun x c hx => ?_⟩
  obtain ⟨c', e1, -, -, -, e5, -⟩ := wr_at W (E.2 x c hx)
  have ne : x ≠ a := fun e => absurd (Array.getElem?_eq_some_iff.mp hx).1 (by rw [e]; exact Nat.not_lt.mpr q)
  rw [← e5 ne]; exact e1
theorem Ext.keep {h1 h2 h3 : Heap} {ws : List Addr} (E : Ext h1 h2) (K : Keep h2 h3 ws) (q : ∀ x ∈ ws, h1.size ≤ x) : Ext h1 h3 := ⟨Nat.le_trans E.1 K.1, fun x c hx => K.2.1 x c (E.2 x c hx) fun z => absurd (Array.getElem?_eq_some_iff.mp hx).1 (Nat.not_lt.mpr (q x z))⟩
theorem Keep.toExt {h1 h2 : Heap} (K : Keep h1 h2 []) : Ext h1 h2 := ⟨K.1, fun x c hx => K.2.1 x c hx (fun z => nomatch z)⟩
theorem Keep.of_ext {h1 h2 : Heap} {ws : List Addr} (E : Ext h1 h2) : Keep h1 h2 ws := (Keep.refl h1 ws).ext E
theorem Keep.drop {h1 h2 : Heap} {ws ws' : List Addr} (K : Keep h1 h2 ws) (q : ∀ x ∈ ws, x ∈ ws' ∨ h1.size ≤ x) : Keep h1 h2 ws' := (Keep.refl h1 ws').trans K q
theorem Ins.keep {h' : Heap} {a : Addr} {ws : List Addr} {K1 : String} {bo : Bool} (F : Ins Z h a K1 bo) (K : Keep h h' ws) : Ins Z h' a K1 bo := by
  obtain ⟨cell, cT, h1, h2, h3⟩ := F
  obtain ⟨c', e1, e2, e3, -⟩ := K.2.2 _ _ h1
  exact ⟨c', cT, e1, h2, by rw [e2, e3]; exact h3⟩
/-! steps that read the tables or the heap -/
theorem Go.getF (C : Cx p s m meth c Z own nm bytes maxL ret) (X : Stand p l e R s m args below meth c T locs cells slots) {idx : Nat} {R0 O n d host : String} {a : Addr} {v : Value} (w : (Cond.fieldLink own idx R0 n d).before a0 Z = true ∨ (Cond.fieldLinkNest own idx R0 n d host).before a0 Z = true) (via : Via Z R0 O n d) (eT : T.heap = h) (F : Fld Z h a O n d v) (hd : decode bytes pc = .ok (.getfield idx, 3)) (hp : pc + 3 = pc')
    (K : ∀ T', Stand p l e R s m args below meth c T' locs cells slots → T'.heap = h → Go p e below Fin' T' (mkF m pc' Ls (v :: S))) : Go p e below Fin' T (mkF m pc Ls (.ref a :: S)) := by
  subst hp
  obtain ⟨T', X', e', st⟩ := Jvm.RoadKit.getF X C.1 C.2.1 C.2.2.1 w via eT F (g := mkF m pc Ls (.ref a :: S)) rfl rfl (hb C.2.2.2.1 hd)
  exact (K T' X' e').via st
theorem Go.getS (C : Cx p s m meth c Z own nm bytes maxL ret) (X : Stand p l e R s m args below meth c T locs cells slots) {idx : Nat} {R0 O n d host : String} {v : Value} (w : (Cond.fieldLink own idx R0 n d).before a0 Z = true ∨ (Cond.fieldLinkNest own idx R0 n d host).before a0 Z = true) (via : Via Z R0 O n d) (eT : T.heap = h) (F : Sta Z h O n d v) (hd : decode bytes pc = .ok (.getstatic idx, 3)) (hp : pc + 3 = pc')
    (K : ∀ T', Stand p l e R s m args below meth c T' locs cells slots → T'.heap = h → Go p e below Fin' T' (mkF m pc' Ls (v :: S))) : Go p e below Fin' T (mkF m pc Ls S) := by
  subst hp
  obtain ⟨T', X', e', st⟩ := getS2 X C.1 C.2.1 C.2.2.1 w via eT F (g := mkF m pc Ls S) rfl (hb C.2.2.2.1 hd)
  exact (K T' X' e').via st
theorem Go.putF (C : Cx p s m meth c Z own nm bytes maxL ret) (X : Stand p l e R s m args below meth c T locs cells slots) {idx kk : Nat} {R0 O n d host K1 : String} {a : Addr} {v old : Value} {ty : FieldType} (w : (Cond.fieldLink own idx R0 n d).before a0 Z = true ∨ (Cond.fieldLinkNest own idx R0 n d host).before a0 Z = true) (via : Via Z R0 O n d) (eT : T.heap = h) (F : Fld Z h a O n d old) (E : Exa Z h a K1) (L : (Cond.lays K1 O n d).before a0 Z = true ∨ ((Cond.laysFinal K1 O n d).before a0 Z = true ∧ own = O ∧ nm = "<init>")) (wi : (Cond.instantiable K1 kk).before a0 Z = true) (hty : parseFieldDescriptor d = some ty) (hn : narrow ty v = v) (hf : fits ty v = true) (hd : decode bytes pc = .ok (.putfield idx, 3)) (hp : pc + 3 = pc')
    (K : ∀ T' h', Stand p l e R s m args below meth c T' (locs ++ [⟨a, slotOf Z O n d⟩]) cells slots → T'.heap = h' → Wr h h' a (slotOf Z O n d) v → Fld Z h' a O n d v → Go p e below Fin' T' (mkF m pc' Ls S)) : Go p e below Fin' T (mkF m pc Ls (v :: .ref a :: S)) := by
  subst hp
  obtain ⟨T', h', X', e', W', st⟩ := Jvm.RoadKit.putF X C.1 C.2.1 C.2.2.1 w via eT F E (L.imp id fun q => ⟨q.1, q.2.1, C.2.2.2.2.2.2.1.trans q.2.2⟩) wi hty hn hf (g := mkF m pc Ls (v :: .ref a :: S)) rfl rfl (hb C.2.2.2.1 hd)
  exact (K T' h' X' e' W' (F.same W')).via st
theorem Go.putFN (C : Cx p s m meth c Z own nm bytes maxL ret) (X : Stand p l e R s m args below meth c T locs cells slots) {idx kk : Nat} {R0 O n d K1 : String} {a : Addr} {v v' old : Value} {ty : FieldType} (w : (Cond.fieldLink own idx R0 n d).before a0 Z = true) (via : Via Z R0 O n d) (eT : T.heap = h) (F : Fld Z h a O n d old) (E : Exa Z h a K1) (L : (Cond.lays K1 O n d).before a0 Z = true ∨ ((Cond.laysFinal K1 O n d).before a0 Z = true ∧ own = O ∧ nm = "<init>")) (wi : (Cond.instantiable K1 kk).before a0 Z = true) (hty : parseFieldDescriptor d = some ty) (hn : narrow ty v = v') (hf : fits ty v' = true) (hd : decode bytes pc = .ok (.putfield idx, 3)) (hp : pc + 3 = pc')
    (K : ∀ T' h', Stand p l e R s m args below meth c T' (locs ++ [⟨a, slotOf Z O n d⟩]) cells slots → T'.heap = h' → Wr h h' a (slotOf Z O n d) v' → Fld Z h' a O n d v' → Go p e below Fin' T' (mkF m pc' Ls S)) : Go p e below Fin' T (mkF m pc Ls (v :: .ref a :: S)) := by
  subst hp
  obtain ⟨T', h', X', e', W', st⟩ := Jvm.RoadKit.putFN X C.1 C.2.1 C.2.2.1 w via eT F E (L.imp id fun q => ⟨q.1, q.2.1, C.2.2.2.2.2.2.1.trans q.2.2⟩) wi hty hn hf (g := mkF m pc Ls (v :: .ref a :: S)) rfl rfl (hb C.2.2.2.1 hd)
  exact (K T' h' X' e' W' (F.same W')).via st
theorem Go.newO (C : Cx p s m meth c Z own nm bytes maxL ret) (X : Stand p l e R s m args below meth c T locs cells slots) {idx n : Nat} {K1 : String} (w : (Cond.classLink own idx K1).before a0 Z = true) (wi : (Cond.instantiable K1 n).before a0 Z = true) (wz : (Cond.initialized K1).before a0 Z = true) (eT : T.heap = h) (hc : cells + 1 ≤ R.cells) (hl : slots + n ≤ R.slots) (hd : decode bytes pc = .ok (.new idx, 3)) (hp : pc + 3 = pc')
    (K : ∀ T' h' b, Stand p l e R s m args below meth c T' locs (cells + 1) (slots + n) → T'.heap = h' → b = h.size → Ext h h' → Exa Z h' b K1 → (∀ {O nm d : String} {ty : FieldType}, Laid Z a0 K1 O nm d → parseFieldDescriptor d = some ty → Fld Z h' b O nm d (defaultValue ty)) → Go p e below Fin' T' (mkF m pc' Ls (.ref b :: S))) : Go p e below Fin' T (mkF m pc Ls S) := by
  subst hp
  obtain ⟨T', h', X', e', E', A', D', -, st⟩ := Jvm.RoadKit.newO X C.1 C.2.1 C.2.2.1 w wi wz eT (g := mkF m pc Ls S) rfl (hb C.2.2.2.1 hd) hc hl
  exact (K T' h' h.size X' e' rfl E' A' D').via st
theorem Go.newP (C : Cx p s m meth c Z own nm bytes maxL ret) (X : Stand p l e R s m args below meth c T locs cells slots) {aty : ArrayType} {n : Int32} {cap : Nat} {vs : List Value} {ad : String} (had : "[" ++ (newarray.typeOf aty).toString = ad) (w : (Cond.arrayClass (newarray.typeOf aty)).before a0 Z = true) (eT : T.heap = h) (hn : ¬ n < 0) (hcap : n.toNatClampNeg ≤ cap) (hb8 : cap * 8 ≤ 536870912) (hc : cells + 1 ≤ R.cells) (hl : slots + cap ≤ R.slots) (hvs : List.replicate n.toNatClampNeg (defaultValue (newarray.typeOf aty)) = vs) (hd : decode bytes pc = .ok (.newarray aty, 2)) (hp : pc + 2 = pc')
    (K : ∀ T' h' b k, Stand p l e R s m args below meth c T' locs (cells + 1) (slots + cap) → T'.heap = h' → b = h.size → Ext h h' → AL Z h' b k (newarray.typeOf aty) vs → Exa Z h' b ad → Go p e below Fin' T' (mkF m pc' Ls (.ref b :: S))) : Go p e below Fin' T (mkF m pc Ls (.int n :: S)) := by
  subst hp
  obtain ⟨T', h', k, X', e', E', A', E2, st⟩ := Jvm.RoadKit.newPE X C.1 C.2.1 w eT (g := mkF m pc Ls (.int n :: S)) rfl (hb C.2.2.2.1 hd) rfl hn hcap hb8 hc hl had
  exact (K T' h' h.size k X' e' rfl E' (hvs ▸ AL.new A') E2).via st
theorem Go.newR (C : Cx p s m meth c Z own nm bytes maxL ret) (X : Stand p l e R s m args below meth c T locs cells slots) {idx : Nat} {K1 ad : String} {n : Int32} {cap : Nat} {vs : List Value} (had : "[" ++ (FieldType.object K1).toString = ad) (w : (Cond.classLink own idx K1).before a0 Z = true) (w2 : (Cond.arrayOver (.object K1)).before a0 Z = true) (eT : T.heap = h) (hn : ¬ n < 0) (hcap : n.toNatClampNeg ≤ cap) (hb8 : cap * 8 ≤ 536870912) (hc : cells + 1 ≤ R.cells) (hl : slots + cap ≤ R.slots) (hvs : List.replicate n.toNatClampNeg (defaultValue (.object K1)) = vs) (hd : decode bytes pc = .ok (.anewarray idx, 3)) (hp : pc + 3 = pc')
    (K : ∀ T' h' b k, Stand p l e R s m args below meth c T' locs (cells + 1) (slots + cap) → T'.heap = h' → b = h.size → Ext h h' → AL Z h' b k (.object K1) vs → Exa Z h' b ad → Ovr Z k K1 → Go p e below Fin' T' (mkF m pc' Ls (.ref b :: S))) : Go p e below Fin' T (mkF m pc Ls (.int n :: S)) := by
  subst hp
  obtain ⟨T', h', k, X', e', E', A', E2, O', st⟩ := Jvm.RoadKit.newRE X C.1 C.2.1 C.2.2.1 w w2 eT (g := mkF m pc Ls (.int n :: S)) rfl (hb C.2.2.2.1 hd) rfl hn hcap hb8 hc hl had
  exact (K T' h' h.size k X' e' rfl E' (hvs ▸ AL.new A') E2 O').via st
theorem Go.newRA (C : Cx p s m meth c Z own nm bytes maxL ret) (X : Stand p l e R s m args below meth c T locs cells slots) {idx : Nat} {K1 ad : String} {ty : FieldType} {n : Int32} {cap : Nat} {vs : List Value} (hC : (FieldType.array ty).toString = K1) (had : "[" ++ K1 = ad) (w : (Cond.classLink own idx K1).before a0 Z = true) (w2 : (Cond.arrayOver (.array ty)).before a0 Z = true) (eT : T.heap = h) (hn : ¬ n < 0) (hcap : n.toNatClampNeg ≤ cap) (hb8 : cap * 8 ≤ 536870912) (hc : cells + 1 ≤ R.cells) (hl : slots + cap ≤ R.slots) (hvs : List.replicate n.toNatClampNeg (defaultValue (.array ty)) = vs) (hd : decode bytes pc = .ok (.anewarray idx, 3)) (hp : pc + 3 = pc')
    (K : ∀ T' h' b k, Stand p l e R s m args below meth c T' locs (cells + 1) (slots + cap) → T'.heap = h' → b = h.size → Ext h h' → AL Z h' b k (.array ty) vs → Exa Z h' b ad → OvrA Z k ty K1 → Go p e below Fin' T' (mkF m pc' Ls (.ref b :: S))) : Go p e below Fin' T (mkF m pc Ls (.int n :: S)) := by
  subst hp
  obtain ⟨T', h', k, X', e', E', A', E2, O', st⟩ := Jvm.RoadKit.newRA X C.1 C.2.1 C.2.2.1 hC w w2 eT (g := mkF m pc Ls (.int n :: S)) rfl (hb C.2.2.2.1 hd) rfl hn hcap hb8 hc hl had
  exact (K T' h' h.size k X' e' rfl E' (hvs ▸ AL.new A') E2 O').via st
theorem AL.stoA {a y : Addr} {k : ClassId} {t0 ty : FieldType} {vs : List Value} {K1 : String} (F : AL Z h a k t0 vs) (O : OvrA Z k ty K1) (I : Ins Z h y K1 true) : Sto Z h a (.ref y) := by
  obtain ⟨c, A, r, -⟩ := F; exact Sto.ofVA A r O I
theorem Go.getFR (C : Cx p s m meth c Z own nm bytes maxL ret) (X : Stand p l e R s m args below meth c T locs cells slots) {idx : Nat} {O n d : String} {a : Addr} {v : Value} (w : (Cond.fieldRef own idx O n d).before a0 Z = true) (eT : T.heap = h) (F : Fld Z h a O n d v) (hd : decode bytes pc = .ok (.getfield idx, 3)) (hp : pc + 3 = pc')
    (K : Go p e below Fin' T (mkF m pc' Ls (v :: S))) : Go p e below Fin' T (mkF m pc Ls (.ref a :: S)) := by
  subst hp
  obtain ⟨cell, cf, k, i, f, h1, h2, h3, h4, -, -, h7⟩ := F
  have hZT : Z.Warmed39 T.vm := wtrans C.2.1 X.warmed
  have w' : (Cond.fieldRef own idx O n d).before args T = true := (Cond.fieldRef_warmed39 hZT w :)
  have hown : T.vm.findClass own = some m.cls := by rw [X.warmed.alike.findClass]; exact C.2.2.1
  obtain ⟨c', k', i', f', e1, hr⟩ := Cond.fieldRef_spec hown w'
  obtain ⟨k2, q1, -⟩ := State.fieldFound?_setVm (s := Z) hZT.alike h2
  have q1' : T.fieldFound? O n d = some (cf, k2, i, f) := q1
  cases q1'.symm.trans e1
  exact K.via fun t kt => (X.getfieldR C.1 (g := mkF m pc Ls (.ref a :: S)) rfl hr h3 rfl (by rw [eT]; exact h1) h4 h7 (hb C.2.2.2.1 hd) (Steps.refl _)).trans kt
theorem Go.clone (C : Cx p s m meth c Z own nm bytes maxL ret) (X : Stand p l e R s m args below meth c T locs cells slots) {idx : Nat} {ad : String} {a : Addr} {k : ClassId} {ty : FieldType} {vs : List Value} {W cap : Nat} (w1 : (Cond.methodLink own idx ⟨ad, "clone", "()Ljava/lang/Object;"⟩).before a0 Z = true) (w2 : (Cond.sameMethod ad "java/lang/Object" "clone" "()Ljava/lang/Object;").before a0 Z = true) (w3 : (Cond.native ⟨"java/lang/Object", "clone", "()Ljava/lang/Object;"⟩).before a0 Z = true) (w4 : (Cond.instanceMethod ⟨"java/lang/Object", "clone", "()Ljava/lang/Object;"⟩).before a0 Z = true) (w5 : (Cond.selects ad ⟨ad, "clone", "()Ljava/lang/Object;"⟩ ⟨"java/lang/Object", "clone", "()Ljava/lang/Object;"⟩).before a0 Z = true) (w6 : (Cond.castable ad "java/lang/Cloneable").before a0 Z = true) (eT : T.heap = h) (F : AL Z h a k ty vs) (E : Exa Z h a ad) (hfit : ∀ v ∈ vs, fits ty v = true) (hls : Ls.size = maxL) (hf : 1 ≤ R.frames) (hW : (S.map fun v => v.category).sum ≤ W) (hlo : W + 14 ≤ R.locals) (hcap : vs.length ≤ cap) (hc : cells + 1 ≤ R.cells) (hsl : slots + cap ≤ R.slots) (hd : decode bytes pc = .ok (.invokevirtual idx, 3)) (hp : pc + 3 = pc')
    (K : ∀ T' h' b, Stand p l e R s m args below meth c T' locs (cells + 1) (slots + cap) → T'.heap = h' → b = h.size → Ext h h' → AL Z h' b k ty vs → Exa Z h' b ad → Go p e below Fin' T' (mkF m pc' Ls (.ref b :: S))) : Go p e below Fin' T (mkF m pc Ls (.ref a :: S)) := by
  subst hp
  obtain ⟨cl, A, q1, q2⟩ := F
  have FC : FitC Z cl := fitC_of A fun i hi v hv => by
    rw [q2] at hv
    exact hfit v (List.mem_of_getElem? (by simpa using hv))
  have hsz : cl.slots.size = vs.length := by rw [q2]; simp
  obtain ⟨T', h', X', e', ex, A', E', st⟩ := cloneA X C.1 C.2.1 C.2.2.1 w1 w2 w3 w4 w5 w6 eT A E FC (g := mkF m pc Ls (.ref a :: S)) rfl (by show Ls.size = _; rw [C.2.2.2.2.1]; exact hls) rfl (hb C.2.2.2.1 hd) hf (W := W) (by show 2 * 0 + _ ≤ _; omega) hlo (cap := cap) (by omega) hc hsl
  exact (K T' h' h.size X' e' rfl ex ⟨cloneOf cl, A', q1, q2⟩ E').via st
theorem range_drop (vs : List Value) (dv : Value) (i n : Nat) (hn : i + n ≤ vs.length) : ((List.range n).map fun j => vs.getD (i + j) dv) = (vs.drop i).take n := by
  apply List.ext_getElem
  · simp; omega
  · intro j h1 h2
    have h3 : i + j < vs.length := by simp at h1; omega
    simp [List.getD, List.getElem?_eq_getElem h3]
theorem Go.arrcopy (C : Cx p s m meth c Z own nm bytes maxL ret) (X : Stand p l e R s m args below meth c T locs cells slots) {idx : Nat} {a b : Addr} {k k' : ClassId} {ty ty' : FieldType} {vs vd vd' : List Value} {sp dp nn : Int32} {i j n W : Nat} (w1 : (Cond.methodLink own idx Jvm.Stand.acN).before a0 Z = true) (w2 : (Cond.native Jvm.Stand.acN).before a0 Z = true) (w3 : (Cond.static Jvm.Stand.acN).before a0 Z = true) (w4 : (Cond.initialized "java/lang/System").before a0 Z = true) (eT : T.heap = h) (A : AL Z h a k ty vs) (B : AL Z h b k' ty' vd) (hfa : ∀ v ∈ vs, fits ty v = true) (hfb : ∀ v ∈ vd, fits ty' v = true) (hla : vs.length < 2 ^ 31) (hlb : vd.length < 2 ^ 31) (hty : (ty = ty' ∧ refKind ty = false) ∨ (refKind ty = true ∧ refKind ty' = true ∧ StoL Z h b ((vs.drop i).take n))) (h1 : ¬ sp < 0) (h2 : ¬ dp < 0) (h3 : ¬ nn < 0) (hi : sp.toNatClampNeg = i) (hj : dp.toNatClampNeg = j) (hn : nn.toNatClampNeg = n) (h4 : i + n ≤ vs.length) (h5 : j + n ≤ vd.length) (hvd : vd.take j ++ (vs.drop i).take n ++ vd.drop (j + n) = vd') {n0 : Nat} (N : Fr n0 locs) (ge : n0 ≤ b) (hls : Ls.size = maxL) (hf : 1 ≤ R.frames) (hW : (S.map fun v => v.category).sum ≤ W) (hlo : W + (nativeFrameWords "java/lang/System" "arraycopy" 5 + 11) ≤ R.locals) (hd : decode bytes pc = .ok (.invokestatic idx, 3)) (hp : pc + 3 = pc')
    (K : ∀ T' h' L, Stand p l e R s m args below meth c T' L cells slots → T'.heap = h' → Fr n0 L → Keep h h' [b] → AL Z h' b k' ty' vd' → Go p e below Fin' T' (mkF m pc' Ls S)) : Go p e below Fin' T (mkF m pc Ls (.int nn :: .int dp :: .ref b :: .int sp :: .ref a :: S)) := by
  subst hp
  subst hi hj hn hvd
  have za : vs.length.toInt32.toNatClampNeg = vs.length := by simp only [Int32.toNatClampNeg, len_toInt hla]; omega
  have zb : vd.length.toInt32.toNatClampNeg = vd.length := by simp only [Int32.toNatClampNeg, len_toInt hlb]; omega
  have na : ¬ vs.length.toInt32 < 0 := by simp only [Int32.lt_iff_toInt_lt, len_toInt hla, Int32.reduceToInt]; omega
  have nb : ¬ vd.length.toInt32 < 0 := by simp only [Int32.lt_iff_toInt_lt, len_toInt hlb, Int32.reduceToInt]; omega
  have A' : Arv Z h a k ty vs.length.toInt32 vs .null := A.arv na za hfa
  have B' : Arv Z h b k' ty' vd.length.toInt32 vd .null := B.arv nb zb hfb
  obtain ⟨T', h', L, X', e', N', K', R', st⟩ := cpA X C.1 C.2.1 C.2.2.1 w1 w2 w3 w4 eT A' B' hty h1 h2 h3 (by rw [za]; exact h4) (by rw [zb]; exact h5) (range_drop vs .null _ _ h4).symm h5 N ge (g := mkF m pc Ls (.int nn :: .int dp :: .ref b :: .int sp :: .ref a :: S)) rfl (by show Ls.size = _; rw [C.2.2.2.2.1]; exact hls) rfl (hb C.2.2.2.1 hd) hf (W := W) (by show 2 * 0 + _ ≤ _; omega) hlo
  exact (K T' h' L X' e' N' K' (AL.of_arv R' (by rw [zb]; simp; omega))).via st
theorem Go.castY (C : Cx p s m meth c Z own nm bytes maxL ret) (X : Stand p l e R s m args below meth c T locs cells slots) {idx : Nat} {K1 : String} {a : Addr} (w : (Cond.classLink own idx K1).before a0 Z = true) (eT : T.heap = h) (F : Ins Z h a K1 true) (hd : decode bytes pc = .ok (.checkcast idx, 3)) (hp : pc + 3 = pc')
    (K : ∀ T', Stand p l e R s m args below meth c T' locs cells slots → T'.heap = h → Go p e below Fin' T' (mkF m pc' Ls (.ref a :: S))) : Go p e below Fin' T (mkF m pc Ls (.ref a :: S)) := by
  subst hp
  obtain ⟨T', X', e', st⟩ := Jvm.RoadKit.castY X C.1 C.2.1 C.2.2.1 w eT F (g := mkF m pc Ls (.ref a :: S)) rfl rfl (hb C.2.2.2.1 hd)
  exact (K T' X' e').via st
theorem Go.instY (C : Cx p s m meth c Z own nm bytes maxL ret) (X : Stand p l e R s m args below meth c T locs cells slots) {idx : Nat} {K1 : String} {a : Addr} (w : (Cond.classLink own idx K1).before a0 Z = true) (eT : T.heap = h) (F : Ins Z h a K1 true) (hd : decode bytes pc = .ok (.instanceof idx, 3)) (hp : pc + 3 = pc')
    (K : ∀ T', Stand p l e R s m args below meth c T' locs cells slots → T'.heap = h → Go p e below Fin' T' (mkF m pc' Ls (.int 1 :: S))) : Go p e below Fin' T (mkF m pc Ls (.ref a :: S)) := by
  subst hp
  obtain ⟨T', X', e', st⟩ := Jvm.RoadKit.instY X C.1 C.2.1 C.2.2.1 w eT F (g := mkF m pc Ls (.ref a :: S)) rfl rfl (hb C.2.2.2.1 hd)
  exact (K T' X' e').via st
theorem Go.instNo (C : Cx p s m meth c Z own nm bytes maxL ret) (X : Stand p l e R s m args below meth c T locs cells slots) {idx : Nat} {K1 K2 : String} {a : Addr} (w : (Cond.classLink own idx K1).before a0 Z = true) (eT : T.heap = h) (E : Exa Z h a K2) (F : ∃ c t, Z.vm.findClass K2 = some c ∧ Z.vm.findClass K1 = some t ∧ Z.vm.assignable c t = false) (hd : decode bytes pc = .ok (.instanceof idx, 3)) (hp : pc + 3 = pc')
    (K : ∀ T', Stand p l e R s m args below meth c T' locs cells slots → T'.heap = h → Go p e below Fin' T' (mkF m pc' Ls (.int 0 :: S))) : Go p e below Fin' T (mkF m pc Ls (.ref a :: S)) := by
  subst hp
  obtain ⟨T', X', e', st⟩ := Jvm.RoadKit.instNo X C.1 C.2.1 C.2.2.1 w eT E F (g := mkF m pc Ls (.ref a :: S)) rfl rfl (hb C.2.2.2.1 hd)
  exact (K T' X' e').via st
theorem Go.castNull (C : Cx p s m meth c Z own nm bytes maxL ret) (X : Stand p l e R s m args below meth c T locs cells slots) {idx : Nat}  (hd : decode bytes pc = .ok (.checkcast idx, 3)) (hp : pc + 3 = pc')
    (K : Go p e below Fin' T (mkF m pc' Ls (.null :: S))) : Go p e below Fin' T (mkF m pc Ls (.null :: S)) := by
  subst hp
  exact K.via (X.checkcastNull C.1 (g := mkF m pc Ls (.null :: S)) rfl rfl (hb C.2.2.2.1 hd))
theorem Go.instNull (C : Cx p s m meth c Z own nm bytes maxL ret) (X : Stand p l e R s m args below meth c T locs cells slots) {idx : Nat}  (hd : decode bytes pc = .ok (.instanceof idx, 3)) (hp : pc + 3 = pc')
    (K : Go p e below Fin' T (mkF m pc' Ls (.int 0 :: S))) : Go p e below Fin' T (mkF m pc Ls (.null :: S)) := by
  subst hp
  exact K.via (X.instanceofNull C.1 (g := mkF m pc Ls (.null :: S)) rfl rfl (hb C.2.2.2.1 hd))
theorem Go.stI (C : Cx p s m meth c Z own nm bytes maxL ret) (X : Stand p l e R s m args below meth c T locs cells slots) {a : Addr} {k : ClassId} {vs vs' : List Value} {j : Int32} {i : Nat} {x x' : Int32} (eT : T.heap = h) (F : AL Z h a k .int vs) (hj : ¬ j < 0) (hji : j.toNatClampNeg = i) (hi : i < vs.length) (hx : x = x') (hvs : vs.set i (.int x') = vs') (hd : decode bytes pc = .ok (.iastore, 1)) (hp : pc + 1 = pc')
    (K : ∀ T' h', Stand p l e R s m args below meth c T' (locs ++ [⟨a, i⟩]) cells slots → T'.heap = h' → Wr h h' a i (.int x') → AL Z h' a k .int vs' → Go p e below Fin' T' (mkF m pc' Ls S)) : Go p e below Fin' T (mkF m pc Ls (.int x :: .int j :: .ref a :: S)) := by
  subst hp
  subst hji hvs hx
  have F0 := F
  obtain ⟨cl, A, q1, q2⟩ := F
  obtain ⟨T', h', X', e', W', st⟩ := Jvm.RoadKit.stI X C.1 C.2.1 eT A (j := j) (fun q => q.elim hj fun y => by rw [q2] at y; simp at y; omega) (g := mkF m pc Ls (.int x :: .int j :: .ref a :: S)) rfl rfl (hb C.2.2.2.1 hd)
  exact (K T' h' X' e' W' (F0.set W')).via st
theorem Go.stC (C : Cx p s m meth c Z own nm bytes maxL ret) (X : Stand p l e R s m args below meth c T locs cells slots) {a : Addr} {k : ClassId} {vs vs' : List Value} {j : Int32} {i : Nat} {x x' : Int32} (eT : T.heap = h) (F : AL Z h a k .char vs) (hj : ¬ j < 0) (hji : j.toNatClampNeg = i) (hi : i < vs.length) (hx : (nar .char x) = x') (hvs : vs.set i (.int x') = vs') (hd : decode bytes pc = .ok (.castore, 1)) (hp : pc + 1 = pc')
    (K : ∀ T' h', Stand p l e R s m args below meth c T' (locs ++ [⟨a, i⟩]) cells slots → T'.heap = h' → Wr h h' a i (.int x') → AL Z h' a k .char vs' → Go p e below Fin' T' (mkF m pc' Ls S)) : Go p e below Fin' T (mkF m pc Ls (.int x :: .int j :: .ref a :: S)) := by
  subst hp
  subst hji hvs hx
  have F0 := F
  obtain ⟨cl, A, q1, q2⟩ := F
  obtain ⟨T', h', X', e', W', st⟩ := Jvm.RoadKit.stC X C.1 C.2.1 eT A (j := j) (fun q => q.elim hj fun y => by rw [q2] at y; simp at y; omega) (g := mkF m pc Ls (.int x :: .int j :: .ref a :: S)) rfl rfl (hb C.2.2.2.1 hd)
  exact (K T' h' X' e' W' (F0.set W')).via st
theorem Go.stS (C : Cx p s m meth c Z own nm bytes maxL ret) (X : Stand p l e R s m args below meth c T locs cells slots) {a : Addr} {k : ClassId} {vs vs' : List Value} {j : Int32} {i : Nat} {x x' : Int32} (eT : T.heap = h) (F : AL Z h a k .short vs) (hj : ¬ j < 0) (hji : j.toNatClampNeg = i) (hi : i < vs.length) (hx : (nar .short x) = x') (hvs : vs.set i (.int x') = vs') (hd : decode bytes pc = .ok (.sastore, 1)) (hp : pc + 1 = pc')
    (K : ∀ T' h', Stand p l e R s m args below meth c T' (locs ++ [⟨a, i⟩]) cells slots → T'.heap = h' → Wr h h' a i (.int x') → AL Z h' a k .short vs' → Go p e below Fin' T' (mkF m pc' Ls S)) : Go p e below Fin' T (mkF m pc Ls (.int x :: .int j :: .ref a :: S)) := by
  subst hp
  subst hji hvs hx
  have F0 := F
  obtain ⟨cl, A, q1, q2⟩ := F
  obtain ⟨T', h', X', e', W', st⟩ := Jvm.RoadKit.stS X C.1 C.2.1 eT A (j := j) (fun q => q.elim hj fun y => by rw [q2] at y; simp at y; omega) (g := mkF m pc Ls (.int x :: .int j :: .ref a :: S)) rfl rfl (hb C.2.2.2.1 hd)
  exact (K T' h' X' e' W' (F0.set W')).via st
theorem Go.stB (C : Cx p s m meth c Z own nm bytes maxL ret) (X : Stand p l e R s m args below meth c T locs cells slots) {a : Addr} {k : ClassId} {vs vs' : List Value} {j : Int32} {i : Nat} {x x' : Int32} (eT : T.heap = h) (F : AL Z h a k .byte vs) (hj : ¬ j < 0) (hji : j.toNatClampNeg = i) (hi : i < vs.length) (hx : (nar .byte x) = x') (hvs : vs.set i (.int x') = vs') (hd : decode bytes pc = .ok (.bastore, 1)) (hp : pc + 1 = pc')
    (K : ∀ T' h', Stand p l e R s m args below meth c T' (locs ++ [⟨a, i⟩]) cells slots → T'.heap = h' → Wr h h' a i (.int x') → AL Z h' a k .byte vs' → Go p e below Fin' T' (mkF m pc' Ls S)) : Go p e below Fin' T (mkF m pc Ls (.int x :: .int j :: .ref a :: S)) := by
  subst hp
  subst hji hvs hx
  have F0 := F
  obtain ⟨cl, A, q1, q2⟩ := F
  obtain ⟨T', h', X', e', W', st⟩ := Jvm.RoadKit.stB X C.1 C.2.1 eT A (j := j) (fun q => q.elim hj fun y => by rw [q2] at y; simp at y; omega) (g := mkF m pc Ls (.int x :: .int j :: .ref a :: S)) rfl rfl (hb C.2.2.2.1 hd)
  exact (K T' h' X' e' W' (F0.set W')).via st
theorem Go.stZ (C : Cx p s m meth c Z own nm bytes maxL ret) (X : Stand p l e R s m args below meth c T locs cells slots) {a : Addr} {k : ClassId} {vs vs' : List Value} {j : Int32} {i : Nat} {x x' : Int32} (eT : T.heap = h) (F : AL Z h a k .boolean vs) (hj : ¬ j < 0) (hji : j.toNatClampNeg = i) (hi : i < vs.length) (hx : (nar .boolean x) = x') (hvs : vs.set i (.int x') = vs') (hd : decode bytes pc = .ok (.bastore, 1)) (hp : pc + 1 = pc')
    (K : ∀ T' h', Stand p l e R s m args below meth c T' (locs ++ [⟨a, i⟩]) cells slots → T'.heap = h' → Wr h h' a i (.int x') → AL Z h' a k .boolean vs' → Go p e below Fin' T' (mkF m pc' Ls S)) : Go p e below Fin' T (mkF m pc Ls (.int x :: .int j :: .ref a :: S)) := by
  subst hp
  subst hji hvs hx
  have F0 := F
  obtain ⟨cl, A, q1, q2⟩ := F
  obtain ⟨T', h', X', e', W', st⟩ := Jvm.RoadKit.stZ X C.1 C.2.1 eT A (j := j) (fun q => q.elim hj fun y => by rw [q2] at y; simp at y; omega) (g := mkF m pc Ls (.int x :: .int j :: .ref a :: S)) rfl rfl (hb C.2.2.2.1 hd)
  exact (K T' h' X' e' W' (F0.set W')).via st
theorem Go.stJ (C : Cx p s m meth c Z own nm bytes maxL ret) (X : Stand p l e R s m args below meth c T locs cells slots) {a : Addr} {k : ClassId} {vs vs' : List Value} {j : Int32} {i : Nat} {x x' : Int64} (eT : T.heap = h) (F : AL Z h a k .long vs) (hj : ¬ j < 0) (hji : j.toNatClampNeg = i) (hi : i < vs.length) (hx : x = x') (hvs : vs.set i (.long x') = vs') (hd : decode bytes pc = .ok (.lastore, 1)) (hp : pc + 1 = pc')
    (K : ∀ T' h', Stand p l e R s m args below meth c T' (locs ++ [⟨a, i⟩]) cells slots → T'.heap = h' → Wr h h' a i (.long x') → AL Z h' a k .long vs' → Go p e below Fin' T' (mkF m pc' Ls S)) : Go p e below Fin' T (mkF m pc Ls (.long x :: .int j :: .ref a :: S)) := by
  subst hp
  subst hji hvs hx
  have F0 := F
  obtain ⟨cl, A, q1, q2⟩ := F
  obtain ⟨T', h', X', e', W', st⟩ := Jvm.RoadKit.stJ X C.1 C.2.1 eT A (j := j) (fun q => q.elim hj fun y => by rw [q2] at y; simp at y; omega) (g := mkF m pc Ls (.long x :: .int j :: .ref a :: S)) rfl rfl (hb C.2.2.2.1 hd)
  exact (K T' h' X' e' W' (F0.set W')).via st
theorem Go.stR (C : Cx p s m meth c Z own nm bytes maxL ret) (X : Stand p l e R s m args below meth c T locs cells slots) {a : Addr} {k : ClassId} {ty : FieldType} {vs vs' : List Value} {j : Int32} {i : Nat} {v : Value} (eT : T.heap = h) (F : AL Z h a k ty vs) (hj : ¬ j < 0) (hji : j.toNatClampNeg = i) (hi : i < vs.length) (hty : ty.isReference = true) (Fs : Sto Z h a v) (hvs : vs.set i v = vs') (hd : decode bytes pc = .ok (.aastore, 1)) (hp : pc + 1 = pc')
    (K : ∀ T' h', Stand p l e R s m args below meth c T' (locs ++ [⟨a, i⟩]) cells slots → T'.heap = h' → Wr h h' a i v → AL Z h' a k ty vs' → Go p e below Fin' T' (mkF m pc' Ls S)) : Go p e below Fin' T (mkF m pc Ls (v :: .int j :: .ref a :: S)) := by
  subst hp
  subst hji hvs
  have F0 := F
  obtain ⟨cl, A, q1, q2⟩ := F
  obtain ⟨T', h', X', e', W', st⟩ := Jvm.RoadKit.stR X C.1 C.2.1 eT A (j := j) (fun q => q.elim hj fun y => by rw [q2] at y; simp at y; omega) hty Fs (g := mkF m pc Ls (v :: .int j :: .ref a :: S)) rfl rfl (hb C.2.2.2.1 hd)
  exact (K T' h' X' e' W' (F0.set W')).via st
theorem AL.sto {a y : Addr} {k : ClassId} {ty : FieldType} {vs : List Value} {K1 : String} (F : AL Z h a k ty vs) (O : Ovr Z k K1) (I : Ins Z h y K1 true) : Sto Z h a (.ref y) := by
  obtain ⟨c, A, r, -⟩ := F; exact Sto.ofV A r O I
theorem Go.ldI (C : Cx p s m meth c Z own nm bytes maxL ret) (X : Stand p l e R s m args below meth c T locs cells slots) {a : Addr} {k : ClassId} {vs : List Value} {j : Int32} {i : Nat} {v : Value} (eT : T.heap = h) (F : AL Z h a k .int vs) (hj : ¬ j < 0) (hji : j.toNatClampNeg = i) (hv : vs[i]? = some v) (hd : decode bytes pc = .ok (.iaload, 1)) (hp : pc + 1 = pc')
    (K : Go p e below Fin' T (mkF m pc' Ls (v :: S))) : Go p e below Fin' T (mkF m pc Ls (.int j :: .ref a :: S)) := by
  subst hp
  subst hji
  obtain ⟨cl, A, q1, q2⟩ := F
  have hlt : j.toNatClampNeg < vs.length := (List.getElem?_eq_some_iff.mp hv).1
  exact K.via fun t k => X.iaload C.1 (j := j) (v := v) (by rw [eT]; exact A.1) (State.isArrayOf_alike C.2.1.alike A.2.1) A.2.2 (fun q => q.elim hj fun y => by rw [q2] at y; simp at y; omega) (by rw [q2]; simpa using hv) (g := mkF m pc Ls (.int j :: .ref a :: S)) rfl rfl (hb C.2.2.2.1 hd) t k
theorem Go.ldC (C : Cx p s m meth c Z own nm bytes maxL ret) (X : Stand p l e R s m args below meth c T locs cells slots) {a : Addr} {k : ClassId} {vs : List Value} {j : Int32} {i : Nat} {v : Value} (eT : T.heap = h) (F : AL Z h a k .char vs) (hj : ¬ j < 0) (hji : j.toNatClampNeg = i) (hv : vs[i]? = some v) (hd : decode bytes pc = .ok (.caload, 1)) (hp : pc + 1 = pc')
    (K : Go p e below Fin' T (mkF m pc' Ls (v :: S))) : Go p e below Fin' T (mkF m pc Ls (.int j :: .ref a :: S)) := by
  subst hp
  subst hji
  obtain ⟨cl, A, q1, q2⟩ := F
  have hlt : j.toNatClampNeg < vs.length := (List.getElem?_eq_some_iff.mp hv).1
  exact K.via fun t k => X.caload C.1 (j := j) (v := v) (by rw [eT]; exact A.1) (State.isArrayOf_alike C.2.1.alike A.2.1) A.2.2 (fun q => q.elim hj fun y => by rw [q2] at y; simp at y; omega) (by rw [q2]; simpa using hv) (g := mkF m pc Ls (.int j :: .ref a :: S)) rfl rfl (hb C.2.2.2.1 hd) t k
theorem Go.ldB (C : Cx p s m meth c Z own nm bytes maxL ret) (X : Stand p l e R s m args below meth c T locs cells slots) {a : Addr} {k : ClassId} {vs : List Value} {j : Int32} {i : Nat} {v : Value} (eT : T.heap = h) (F : AL Z h a k .byte vs) (hj : ¬ j < 0) (hji : j.toNatClampNeg = i) (hv : vs[i]? = some v) (hd : decode bytes pc = .ok (.baload, 1)) (hp : pc + 1 = pc')
    (K : Go p e below Fin' T (mkF m pc' Ls (v :: S))) : Go p e below Fin' T (mkF m pc Ls (.int j :: .ref a :: S)) := by
  subst hp
  subst hji
  obtain ⟨cl, A, q1, q2⟩ := F
  have hlt : j.toNatClampNeg < vs.length := (List.getElem?_eq_some_iff.mp hv).1
  exact K.via fun t k => X.baloadBytes C.1 (j := j) (v := v) (by rw [eT]; exact A.1) (State.isArrayOf_alike C.2.1.alike A.2.1) A.2.2 (fun q => q.elim hj fun y => by rw [q2] at y; simp at y; omega) (by rw [q2]; simpa using hv) (g := mkF m pc Ls (.int j :: .ref a :: S)) rfl rfl (hb C.2.2.2.1 hd) t k
theorem Go.ldZ (C : Cx p s m meth c Z own nm bytes maxL ret) (X : Stand p l e R s m args below meth c T locs cells slots) {a : Addr} {k : ClassId} {vs : List Value} {j : Int32} {i : Nat} {v : Value} (eT : T.heap = h) (F : AL Z h a k .boolean vs) (hj : ¬ j < 0) (hji : j.toNatClampNeg = i) (hv : vs[i]? = some v) (hd : decode bytes pc = .ok (.baload, 1)) (hp : pc + 1 = pc')
    (K : Go p e below Fin' T (mkF m pc' Ls (v :: S))) : Go p e below Fin' T (mkF m pc Ls (.int j :: .ref a :: S)) := by
  subst hp
  subst hji
  obtain ⟨cl, A, q1, q2⟩ := F
  have hlt : j.toNatClampNeg < vs.length := (List.getElem?_eq_some_iff.mp hv).1
  exact K.via fun t k => X.baloadBooleans C.1 (j := j) (v := v) (by rw [eT]; exact A.1) (State.isArrayOf_alike C.2.1.alike A.2.1) A.2.2 (fun q => q.elim hj fun y => by rw [q2] at y; simp at y; omega) (by rw [q2]; simpa using hv) (g := mkF m pc Ls (.int j :: .ref a :: S)) rfl rfl (hb C.2.2.2.1 hd) t k
theorem Go.ldJ (C : Cx p s m meth c Z own nm bytes maxL ret) (X : Stand p l e R s m args below meth c T locs cells slots) {a : Addr} {k : ClassId} {vs : List Value} {j : Int32} {i : Nat} {v : Value} (eT : T.heap = h) (F : AL Z h a k .long vs) (hj : ¬ j < 0) (hji : j.toNatClampNeg = i) (hv : vs[i]? = some v) (hd : decode bytes pc = .ok (.laload, 1)) (hp : pc + 1 = pc')
    (K : Go p e below Fin' T (mkF m pc' Ls (v :: S))) : Go p e below Fin' T (mkF m pc Ls (.int j :: .ref a :: S)) := by
  subst hp
  subst hji
  obtain ⟨cl, A, q1, q2⟩ := F
  have hlt : j.toNatClampNeg < vs.length := (List.getElem?_eq_some_iff.mp hv).1
  exact K.via fun t k => X.laload C.1 (j := j) (v := v) (by rw [eT]; exact A.1) (State.isArrayOf_alike C.2.1.alike A.2.1) A.2.2 (fun q => q.elim hj fun y => by rw [q2] at y; simp at y; omega) (by rw [q2]; simpa using hv) (g := mkF m pc Ls (.int j :: .ref a :: S)) rfl rfl (hb C.2.2.2.1 hd) t k
theorem Go.ldR (C : Cx p s m meth c Z own nm bytes maxL ret) (X : Stand p l e R s m args below meth c T locs cells slots) {a : Addr} {k : ClassId} {vs : List Value} {j : Int32} {i : Nat} {v : Value} {ty : FieldType} (eT : T.heap = h) (F : AL Z h a k ty vs) (hj : ¬ j < 0) (hji : j.toNatClampNeg = i) (hv : vs[i]? = some v) (hty : ty.isReference = true) (hd : decode bytes pc = .ok (.aaload, 1)) (hp : pc + 1 = pc')
    (K : Go p e below Fin' T (mkF m pc' Ls (v :: S))) : Go p e below Fin' T (mkF m pc Ls (.int j :: .ref a :: S)) := by
  subst hp
  subst hji
  obtain ⟨cl, A, q1, q2⟩ := F
  have hlt : j.toNatClampNeg < vs.length := (List.getElem?_eq_some_iff.mp hv).1
  exact K.via fun t k => X.aaload C.1 (j := j) (v := v) (by rw [eT]; exact A.1) (State.isArrayOf_alike C.2.1.alike A.2.1) hty A.2.2 (fun q => q.elim hj fun y => by rw [q2] at y; simp at y; omega) (by rw [q2]; simpa using hv) (g := mkF m pc Ls (.int j :: .ref a :: S)) rfl rfl (hb C.2.2.2.1 hd) t k
theorem Go.alen (C : Cx p s m meth c Z own nm bytes maxL ret) (X : Stand p l e R s m args below meth c T locs cells slots) {a : Addr} {k : ClassId} {ty : FieldType} {vs : List Value} {z : Int32} (eT : T.heap = h) (F : AL Z h a k ty vs) (hz : vs.length.toInt32 = z) (hd : decode bytes pc = .ok (.arraylength, 1)) (hp : pc + 1 = pc')
    (K : Go p e below Fin' T (mkF m pc' Ls (.int z :: S))) : Go p e below Fin' T (mkF m pc Ls (.ref a :: S)) := by
  subst hp
  subst hz
  obtain ⟨cl, A, q1, q2⟩ := F
  have q3 : cl.slots.size = vs.length := by rw [q2]; simp
  refine K.via fun t k => X.arraylength C.1 (by rw [eT]; exact A.1) (State.isArrayOf_alike C.2.1.alike A.2.1) (g := mkF m pc Ls (.ref a :: S)) rfl rfl (hb C.2.2.2.1 hd) t ?_
  rw [q3]; exact k
theorem Go.ldcR (C : Cx p s m meth c Z own nm bytes maxL ret) (X : Stand p l e R s m args below meth c T locs cells slots) {idx : Nat} {text : String} {a : Addr} (w : (Cond.stringRef own idx text).before a0 Z = true) (L : Lit Z own idx a) (hd : decode bytes pc = .ok (.ldc idx, 2)) (hp : pc + 2 = pc')
    (K : Go p e below Fin' T (mkF m pc' Ls (.ref a :: S))) : Go p e below Fin' T (mkF m pc Ls S) := by
  subst hp
  exact K.via (Jvm.RoadKit.ldcR X C.1 C.2.1 C.2.2.1 w L (g := mkF m pc Ls S) rfl (hb C.2.2.2.1 hd))
/-! calls -/
theorem Go.initO (C : Cx p s m meth c Z own nm bytes maxL ret) (X : Stand p l e R s m args below meth c T locs cells slots) {idx : Nat} {a : Addr} (w1 : (Cond.methodLink own idx Lib.objectInit).before a0 Z = true) (w2 : (Cond.instanceMethod Lib.objectInit).before a0 Z = true) (w3 : (Cond.code Lib.objectInit ⟨#[0xb1]⟩ 1 none).before a0 Z = true) (eT : T.heap = h) (hls : Ls.size = maxL) (hf : 1 ≤ R.frames) {W : Nat} (hW : (S.map fun v => v.category).sum ≤ W) (hl : W + 12 ≤ R.locals) (hd : decode bytes pc = .ok (.invokespecial idx, 3)) (hp : pc + 3 = pc')
    (K : ∀ T', Stand p l e R s m args below meth c T' locs cells slots → T'.heap = h → Go p e below Fin' T' (mkF m pc' Ls S)) : Go p e below Fin' T (mkF m pc Ls (.ref a :: S)) := by
  subst hp
  obtain ⟨T', X', e', st⟩ := Jvm.RoadKit.initO X C.1 C.2.1 C.2.2.1 w1 w2 w3 eT (g := mkF m pc Ls (.ref a :: S)) rfl (by rw [C.2.2.2.2.1]; exact hls) rfl (hb C.2.2.2.1 hd) hf (W := W) (by show 2 * 0 + _ ≤ _; omega) hl
  exact (K T' X' e').via st
theorem Go.callS (C : Cx p s m meth c Z own nm bytes maxL ret) (X : Stand p l e R s m args below meth c T locs cells slots) {idx : Nat} {y : MethodName} {bytes' : ByteArray} {maxL' : Nat} {ret' : Option FieldType} {rm : Room} {as' : Array Value} {Q' : Option Value → Heap → List Loc → Prop} {argsL rest : List Value} {ps : List FieldType} {r : Option FieldType} {W : Nat} (w1 : (Cond.methodLink own idx y).before a0 Z = true) (w2 : (Cond.static y).before a0 Z = true) (hy : y.cls ≠ "java/lang/invoke/MethodHandle" ∧ y.cls ≠ "java/lang/invoke/VarHandle") (M : Met1 l Z y bytes' maxL' ret' rm as' h Q') (wc : (Cond.code y bytes' maxL' ret').before a0 Z = true) (wz : (Cond.initialized y.cls).before a0 Z = true) (eT : T.heap = h) (hS : S = argsL.reverse ++ rest) (has : (argsL).toArray = as') (pd : parseMethodDescriptor y.desc = some ⟨ps, r⟩) (hlen : argsL.length = ps.length) (hW : (rest.map fun v => v.category).sum ≤ W) (hls : Ls.size = maxL) (hf : rm.frames + 1 ≤ R.frames) (hlo : W + (maxL' + 11) + rm.locals ≤ R.locals) (hc : cells + rm.cells ≤ R.cells) (hs : slots + rm.slots ≤ R.slots) (hd : decode bytes pc = .ok (.invokestatic idx, 3)) (hp : pc + 3 = pc')
    (K : ∀ T' v L, Stand p l e R s m args below meth c T' (locs ++ L) (cells + rm.cells) (slots + rm.slots) → Q' v T'.heap L → Go p e below Fin' T' (mkF m pc' Ls (v.toList ++ rest))) : Go p e below Fin' T (mkF m pc Ls S) := by
  subst hp
  subst hS has
  obtain ⟨v, _, ⟨T', L', k', n'⟩, -, X', ⟨L, hQ, l', y', z'⟩, st⟩ := Jvm.LawKit.callS X C.1 (y := y) C.2.2.1 (mvT C.2.1 w1) (mvT C.2.1 w2) (mvT C.2.1 wz) (mvT C.2.1 wc) hy (backOf (W := W) (M []) C.2.1 wc wz hf hlo) (g := mkF m pc Ls (argsL.reverse ++ rest)) rfl (by show Ls.size = _; rw [C.2.2.2.2.1]; exact hls) (argsL := argsL) (rest := rest) (lenOf pd hlen) rfl (by show 2 * 0 + _ ≤ _; omega) (hb C.2.2.2.1 hd) (fun _ _ => ⟨rfl, eT, hc, hs⟩)
  dsimp only [Pt.U, Pt.locs, Pt.cells, Pt.slots] at X' l' y' z' st hQ
  subst l' y' z'
  exact (K T' v L X' hQ).via st
theorem Go.callI (C : Cx p s m meth c Z own nm bytes maxL ret) (X : Stand p l e R s m args below meth c T locs cells slots) {idx : Nat} {y : MethodName} {a : Addr} {bytes' : ByteArray} {maxL' : Nat} {ret' : Option FieldType} {rm : Room} {as' : Array Value} {Q' : Option Value → Heap → List Loc → Prop} {argsL rest : List Value} {ps : List FieldType} {r : Option FieldType} {W : Nat} (hini : y.name = "<init>") (w1 : (Cond.methodLink own idx y).before a0 Z = true) (w2 : (Cond.instanceMethod y).before a0 Z = true) (hy : y.cls ≠ "java/lang/invoke/MethodHandle" ∧ y.cls ≠ "java/lang/invoke/VarHandle") (M : Met1 l Z y bytes' maxL' ret' rm as' h Q') (wc : (Cond.code y bytes' maxL' ret').before a0 Z = true) (wz : (Cond.initialized y.cls).before a0 Z = true) (eT : T.heap = h) (hS : S = argsL.reverse ++ .ref a :: rest) (has : (.ref a :: argsL).toArray = as') (pd : parseMethodDescriptor y.desc = some ⟨ps, r⟩) (hlen : argsL.length = ps.length) (hW : (rest.map fun v => v.category).sum ≤ W) (hls : Ls.size = maxL) (hf : rm.frames + 1 ≤ R.frames) (hlo : W + (maxL' + 11) + rm.locals ≤ R.locals) (hc : cells + rm.cells ≤ R.cells) (hs : slots + rm.slots ≤ R.slots) (hr0 : ret' = none) (hd : decode bytes pc = .ok (.invokespecial idx, 3)) (hp : pc + 3 = pc')
    (K : ∀ T' v L, Stand p l e R s m args below meth c T' (locs ++ L) (cells + rm.cells) (slots + rm.slots) → Q' v T'.heap L → Go p e below Fin' T' (mkF m pc' Ls (v.toList ++ rest))) : Go p e below Fin' T (mkF m pc Ls S) := by
  subst hp
  subst hr0
  subst hS has
  obtain ⟨v, _, ⟨T', L', k', n'⟩, -, X', ⟨L, hQ, l', y', z'⟩, st⟩ := X.specialBack C.1 (y := y) hini C.2.2.1 (mvT C.2.1 w1) (mvT C.2.1 w2) (mvT C.2.1 wc) hy (backOf (W := W) (M []) C.2.1 wc wz hf hlo) (g := mkF m pc Ls (argsL.reverse ++ .ref a :: rest)) rfl (by show Ls.size = _; rw [C.2.2.2.2.1]; exact hls) (Steps.refl _) (a := a) (argsL := argsL) (rest := rest) (lenOf pd hlen) rfl (by show 2 * 0 + _ ≤ _; omega) (hb C.2.2.2.1 hd) (fun _ _ => ⟨rfl, eT, hc, hs⟩)
  dsimp only [Pt.U, Pt.locs, Pt.cells, Pt.slots] at X' l' y' z' st hQ
  subst l' y' z'
  exact (K T' v L X' hQ).via fun t k => st.trans k
theorem Go.callP (C : Cx p s m meth c Z own nm bytes maxL ret) (X : Stand p l e R s m args below meth c T locs cells slots) {idx : Nat} {y : MethodName} {a : Addr} {K1 : String} {bytes' : ByteArray} {maxL' : Nat} {ret' : Option FieldType} {rm : Room} {as' : Array Value} {Q' : Option Value → Heap → List Loc → Prop} {argsL rest : List Value} {ps : List FieldType} {r : Option FieldType} {W : Nat} (w1 : (Cond.methodLink own idx y).before a0 Z = true) (w2 : (Cond.instanceMethod y).before a0 Z = true) (w3 : (Cond.selects y.cls y y).before a0 Z = true) (w4 : (Cond.privateMethod y).before a0 Z = true) (E : Exa Z h a K1) (hy : y.cls ≠ "java/lang/invoke/MethodHandle" ∧ y.cls ≠ "java/lang/invoke/VarHandle") (M : Met1 l Z y bytes' maxL' ret' rm as' h Q') (wc : (Cond.code y bytes' maxL' ret').before a0 Z = true) (wz : (Cond.initialized y.cls).before a0 Z = true) (eT : T.heap = h) (hS : S = argsL.reverse ++ .ref a :: rest) (has : (.ref a :: argsL).toArray = as') (pd : parseMethodDescriptor y.desc = some ⟨ps, r⟩) (hlen : argsL.length = ps.length) (hW : (rest.map fun v => v.category).sum ≤ W) (hls : Ls.size = maxL) (hf : rm.frames + 1 ≤ R.frames) (hlo : W + (maxL' + 11) + rm.locals ≤ R.locals) (hc : cells + rm.cells ≤ R.cells) (hs : slots + rm.slots ≤ R.slots) (hd : decode bytes pc = .ok (.invokevirtual idx, 3)) (hp : pc + 3 = pc')
    (K : ∀ T' v L, Stand p l e R s m args below meth c T' (locs ++ L) (cells + rm.cells) (slots + rm.slots) → Q' v T'.heap L → Go p e below Fin' T' (mkF m pc' Ls (v.toList ++ rest))) : Go p e below Fin' T (mkF m pc Ls S) := by
  subst hp
  obtain ⟨cq, q1, q2⟩ := E.cell
  subst hS has
  obtain ⟨v, _, ⟨T', L', k', n'⟩, -, X', ⟨L, hQ, l', y', z'⟩, st⟩ := X.privateBack C.1 (y := y) C.2.2.1 (mvT C.2.1 w1) (mvT C.2.1 w2) (mvT C.2.1 w3) (Cond.privateMethod_at (mvP C.2.1 w4 (args := #[]))) (mvT C.2.1 wc) hy (backOf (W := W) (M []) C.2.1 wc wz hf hlo) (g := mkF m pc Ls (argsL.reverse ++ .ref a :: rest)) rfl (by show Ls.size = _; rw [C.2.2.2.2.1]; exact hls) (Steps.refl _) (a := a) (by rw [eT]; exact q1) q2 (argsL := argsL) (rest := rest) (lenOf pd hlen) rfl (by show 2 * 0 + _ ≤ _; omega) (hb C.2.2.2.1 hd) (fun _ _ => ⟨rfl, eT, hc, hs⟩)
  dsimp only [Pt.U, Pt.locs, Pt.cells, Pt.slots] at X' l' y' z' st hQ
  subst l' y' z'
  exact (K T' v L X' hQ).via fun t k => st.trans k
theorem Go.callV (C : Cx p s m meth c Z own nm bytes maxL ret) (X : Stand p l e R s m args below meth c T locs cells slots) {idx : Nat} {y z : MethodName} {a : Addr} {K1 : String} {bytes' : ByteArray} {maxL' : Nat} {ret' : Option FieldType} {rm : Room} {as' : Array Value} {Q' : Option Value → Heap → List Loc → Prop} {argsL rest : List Value} {ps : List FieldType} {r : Option FieldType} {W : Nat} (w1 : (Cond.methodLink own idx y).before a0 Z = true) (w2 : (Cond.declares y).before a0 Z = true) (hnf : NotFace s y) (w3 : (Cond.selects K1 y z).before a0 Z = true) (w4 : (Cond.instanceMethod z).before a0 Z = true) (E : Exa Z h a K1) (hy : y.cls ≠ "java/lang/invoke/MethodHandle" ∧ y.cls ≠ "java/lang/invoke/VarHandle") (M : Met1 l Z z bytes' maxL' ret' rm as' h Q') (wc : (Cond.code z bytes' maxL' ret').before a0 Z = true) (wz : (Cond.initialized z.cls).before a0 Z = true) (eT : T.heap = h) (hS : S = argsL.reverse ++ .ref a :: rest) (has : (.ref a :: argsL).toArray = as') (pd : parseMethodDescriptor y.desc = some ⟨ps, r⟩) (hlen : argsL.length = ps.length) (hW : (rest.map fun v => v.category).sum ≤ W) (hls : Ls.size = maxL) (hf : rm.frames + 1 ≤ R.frames) (hlo : W + (maxL' + 11) + rm.locals ≤ R.locals) (hc : cells + rm.cells ≤ R.cells) (hs : slots + rm.slots ≤ R.slots) (hd : decode bytes pc = .ok (.invokevirtual idx, 3)) (hp : pc + 3 = pc')
    (K : ∀ T' v L, Stand p l e R s m args below meth c T' (locs ++ L) (cells + rm.cells) (slots + rm.slots) → Q' v T'.heap L → Go p e below Fin' T' (mkF m pc' Ls (v.toList ++ rest))) : Go p e below Fin' T (mkF m pc Ls S) := by
  subst hp
  obtain ⟨cq, kq, qa, qb, qc⟩ := isOf C.2.1 eT E
  subst hS has
  obtain ⟨v, _, ⟨T', L', k', n'⟩, -, X', ⟨L, hQ, l', y', z'⟩, st⟩ := X.virtualBack C.1 (y := y) (z := z) C.2.2.1 (mvT C.2.1 w1) (mvT C.2.1 w2) hnf (mvT C.2.1 w3) (mvT C.2.1 w4) hy (backOf (W := W) (M []) C.2.1 wc wz hf hlo) qa qc (g := mkF m pc Ls (argsL.reverse ++ .ref a :: rest)) rfl (by show Ls.size = _; rw [C.2.2.2.2.1]; exact hls) (Steps.refl _) (argsL := argsL) (rest := rest) (lenOf pd hlen) rfl (by show 2 * 0 + _ ≤ _; omega) (hb C.2.2.2.1 hd) (fun _ _ => ⟨rfl, eT, hc, hs⟩)
  dsimp only [Pt.U, Pt.locs, Pt.cells, Pt.slots] at X' l' y' z' st hQ
  subst l' y' z'
  exact (K T' v L X' hQ).via fun t k => st.trans k
theorem Go.callF (C : Cx p s m meth c Z own nm bytes maxL ret) (X : Stand p l e R s m args below meth c T locs cells slots) {idx count : Nat} {y z : MethodName} {a : Addr} {K1 : String} {bytes' : ByteArray} {maxL' : Nat} {ret' : Option FieldType} {rm : Room} {as' : Array Value} {Q' : Option Value → Heap → List Loc → Prop} {argsL rest : List Value} {ps : List FieldType} {r : Option FieldType} {W : Nat} (w1 : (Cond.methodLink own idx y).before a0 Z = true) (w2 : (Cond.declares y).before a0 Z = true) (w3 : (Cond.interfaceMethod y.cls y.cls y.name y.desc).before a0 Z = true) (w4 : (Cond.selects K1 y z).before a0 Z = true) (w5 : (Cond.instanceMethod z).before a0 Z = true) (w6 : (Cond.publicMethod z).before a0 Z = true) (w7 : (Cond.unhidden K1 y.name y.desc).before a0 Z = true) (w8 : (Cond.castable K1 y.cls).before a0 Z = true) (hfa : ((Cond.interfaceMethod y.cls y.cls y.name y.desc).onTables && (Cond.interfaceMethod y.cls y.cls y.name y.desc).keepsFace) = true) (E : Exa Z h a K1) (hy : y.cls ≠ "java/lang/invoke/MethodHandle" ∧ y.cls ≠ "java/lang/invoke/VarHandle") (M : Met1 l Z z bytes' maxL' ret' rm as' h Q') (wc : (Cond.code z bytes' maxL' ret').before a0 Z = true) (wz : (Cond.initialized z.cls).before a0 Z = true) (eT : T.heap = h) (hS : S = argsL.reverse ++ .ref a :: rest) (has : (.ref a :: argsL).toArray = as') (pd : parseMethodDescriptor y.desc = some ⟨ps, r⟩) (hlen : argsL.length = ps.length) (hW : (rest.map fun v => v.category).sum ≤ W) (hls : Ls.size = maxL) (hf : rm.frames + 1 ≤ R.frames) (hlo : W + (maxL' + 11) + rm.locals ≤ R.locals) (hc : cells + rm.cells ≤ R.cells) (hs : slots + rm.slots ≤ R.slots) (hd : decode bytes pc = .ok (.invokeinterface idx count, 5)) (hp : pc + 5 = pc')
    (K : ∀ T' v L, Stand p l e R s m args below meth c T' (locs ++ L) (cells + rm.cells) (slots + rm.slots) → Q' v T'.heap L → Go p e below Fin' T' (mkF m pc' Ls (v.toList ++ rest))) : Go p e below Fin' T (mkF m pc Ls S) := by
  subst hp
  obtain ⟨cq, kq, qa, qb, qc⟩ := isOf C.2.1 eT E
  subst hS has
  obtain ⟨v, _, ⟨T', L', k', n'⟩, -, X', ⟨L, hQ, l', y', z'⟩, st⟩ := X.interfaceBack C.1 (xi := y) (y := z) C.2.2.1 (mvT C.2.1 w1) (mvT C.2.1 w2) (mvT C.2.1 w3 hfa) (mvT C.2.1 w4) (mvT C.2.1 w5) (mvT C.2.1 w6) (mvT C.2.1 w7) (mvT C.2.1 w8) hy (backOf (W := W) (M []) C.2.1 wc wz hf hlo) qa qb qc (g := mkF m pc Ls (argsL.reverse ++ .ref a :: rest)) rfl (by show Ls.size = _; rw [C.2.2.2.2.1]; exact hls) (Steps.refl _) (argsL := argsL) (rest := rest) (lenOf pd hlen) rfl (by show 2 * 0 + _ ≤ _; omega) (hb C.2.2.2.1 hd) (fun _ _ => ⟨rfl, eT, hc, hs⟩)
  dsimp only [Pt.U, Pt.locs, Pt.cells, Pt.slots] at X' l' y' z' st hQ
  subst l' y' z'
  exact (K T' v L X' hQ).via fun t k => st.trans k
theorem notFace_at {y : MethodName} {K1 : String} (hZ : Z.Warmed39 s.vm) (w : (Cond.selects K1 y y).before a0 Z = true) : NotFace s y := notFace_of_selects (args := #[]) (mvT hZ w)
end Own
end Jvm.RoadKit

namespace Jvm.Pilot.@@N@@
open Jvm Jvm.ClassFile Sem Op Lib Jvm.Free Jvm.Stand Jvm.LawKit Jvm.RoadKit Bundle Jvm.Pilot.@@N@@.Jvm.D
theorem n32_int {n : Nat} (h : n < 2 ^ 31) : n.toInt32.toInt = n := len_toInt h
theorem n32_nat {n : Nat} (h : n < 2 ^ 31) : n.toInt32.toNatClampNeg = n := by simp only [Int32.toNatClampNeg, len_toInt h]; omega
theorem n32_neg {n : Nat} (h : n < 2 ^ 31) : ¬ n.toInt32 < 0 := by simp only [Int32.lt_iff_toInt_lt, len_toInt h, Int32.reduceToInt]; omega
theorem n32_lt {n k : Nat} (hn : n < 2 ^ 31) (hk : k < 2 ^ 31) : n.toInt32 < k.toInt32 ↔ n < k := by rw [Int32.lt_iff_toInt_lt, len_toInt hn, len_toInt hk]; omega
theorem n32_succ (n : Nat) : n.toInt32 + (1 : Int32) = (n + 1).toInt32 := (Int32.ofNat_add n 1).symm
theorem n32_eq {n k : Nat} (hn : n < 2 ^ 31) (hk : k < 2 ^ 31) : n.toInt32 = k.toInt32 ↔ n = k := by rw [← Int32.toInt_inj, len_toInt hn, len_toInt hk]; omega
theorem nar_byte8 (x : Int32) : nar .byte x.toInt8.toInt32 = x.toInt8.toInt32 := by simp [nar]
def by8 (cs : List Int32) : List Value := cs.map fun c => Value.int c.toInt8.toInt32
def ch16 (cs : List Int32) : List Value := cs.map Value.int
theorem by8_len (cs : List Int32) : (by8 cs).length = cs.length := by simp [by8]
theorem ch16_len (cs : List Int32) : (ch16 cs).length = cs.length := by simp [ch16]

theorem d6_0 : decode jdk_52_method_21_code 0 = .ok (.iconst 0, 1) := by decide +kernel
theorem d6_1 : decode jdk_52_method_21_code 1 = .ok (.istore 5, 2) := by decide +kernel
theorem d6_3 : decode jdk_52_method_21_code 3 = .ok (.iload 5, 2) := by decide +kernel
theorem d6_5 : decode jdk_52_method_21_code 5 = .ok (.iload 4, 2) := by decide +kernel
theorem d6_7 : decode jdk_52_method_21_code 7 = .ok (.if_icmp .ge 37, 3) := by decide +kernel
theorem d6_10 : decode jdk_52_method_21_code 10 = .ok (.aload_n 0, 1) := by decide +kernel
theorem d6_11 : decode jdk_52_method_21_code 11 = .ok (.iload_n 1, 1) := by decide +kernel
theorem d6_12 : decode jdk_52_method_21_code 12 = .ok (.caload, 1) := by decide +kernel
theorem d6_13 : decode jdk_52_method_21_code 13 = .ok (.istore 6, 2) := by decide +kernel
theorem d6_15 : decode jdk_52_method_21_code 15 = .ok (.iload 6, 2) := by decide +kernel
theorem d6_17 : decode jdk_52_method_21_code 17 = .ok (.sipush 255, 3) := by decide +kernel
theorem d6_20 : decode jdk_52_method_21_code 20 = .ok (.if_icmp .le 6, 3) := by decide +kernel
theorem d6_23 : decode jdk_52_method_21_code 23 = .ok (.iload 5, 2) := by decide +kernel
theorem d6_25 : decode jdk_52_method_21_code 25 = .ok (.ireturn, 1) := by decide +kernel
theorem d6_26 : decode jdk_52_method_21_code 26 = .ok (.aload_n 2, 1) := by decide +kernel
theorem d6_27 : decode jdk_52_method_21_code 27 = .ok (.iload_n 3, 1) := by decide +kernel
theorem d6_28 : decode jdk_52_method_21_code 28 = .ok (.iload 6, 2) := by decide +kernel
theorem d6_30 : decode jdk_52_method_21_code 30 = .ok (.i2b, 1) := by decide +kernel
theorem d6_31 : decode jdk_52_method_21_code 31 = .ok (.bastore, 1) := by decide +kernel
theorem d6_32 : decode jdk_52_method_21_code 32 = .ok (.iinc 1 1, 3) := by decide +kernel
theorem d6_35 : decode jdk_52_method_21_code 35 = .ok (.iinc 3 1, 3) := by decide +kernel
theorem d6_38 : decode jdk_52_method_21_code 38 = .ok (.iinc 5 1, 3) := by decide +kernel
theorem d6_41 : decode jdk_52_method_21_code 41 = .ok (.goto (-38), 3) := by decide +kernel
theorem d6_44 : decode jdk_52_method_21_code 44 = .ok (.iload 4, 2) := by decide +kernel
theorem d6_46 : decode jdk_52_method_21_code 46 = .ok (.ireturn, 1) := by decide +kernel
set_option maxRecDepth 65536 in
set_option maxHeartbeats 40000000 in
theorem lp_compress {p : Program} {l : Launch} {e : Env} {R : Room} {s : State} {m : MethodId} {args : Array Value} {below : List Frame} {meth : Method} {c : Code} {Z : State} {Fin' : Outcome → State → Prop} {a b : Addr} {ka kb : ClassId} {cs : List Int32} (C : Cx p s m meth c Z "java/lang/StringUTF16" "compress" jdk_52_method_21_code 7 (some .int)) (hcs : ∀ x ∈ cs, 0 ≤ x.toInt ∧ x.toInt ≤ 255) (hl : cs.length < 2 ^ 31) (hne : a ≠ b) (hnb : Z.heap.size ≤ b) :
    ∀ (k n : Nat) (T : State) (locs : List Loc) (cells slots : Nat) (h : Heap) (s6 : Slot), n + k = cs.length → One s6 → Stand p l e R s m args below meth c T locs cells slots → T.heap = h → AL Z h a ka .char (ch16 cs) → AL Z h b kb .byte (by8 (cs.take n) ++ List.replicate k (.int 0)) → Fr Z.heap.size locs →
      (∀ (T' : State) (locs' : List Loc) (h' : Heap) (s6' : Slot), Stand p l e R s m args below meth c T' locs' cells slots → T'.heap = h' → Keep h h' [b] → AL Z h' b kb .byte (by8 cs) → Fr Z.heap.size locs' → Go p e below Fin' T' (mkF m 44 #[.val (.ref a), .val (.int cs.length.toInt32), .val (.ref b), .val (.int cs.length.toInt32), .val (.int cs.length.toInt32), .val (.int cs.length.toInt32), s6'] [])) →
      Go p e below Fin' T (mkF m 3 #[.val (.ref a), .val (.int n.toInt32), .val (.ref b), .val (.int n.toInt32), .val (.int cs.length.toInt32), .val (.int n.toInt32), s6] []) := by
  intro k
  induction k with
  | zero =>
    intro n T locs cells slots h s6 hn h6 X e0 A B N K
    have hn' : n = cs.length := by omega
    subst hn'
    refine Go.iload (pc' := 5) C X d6_3 rfl rfl ?_
    refine Go.iload (pc' := 7) C X d6_5 rfl rfl ?_
    refine Go.icmpYes (pc' := 44) C X d6_7 (flt (x := cs.length.toInt32) (y := cs.length.toInt32) (fun q => absurd ((n32_lt hl hl).mp q) (Nat.lt_irrefl _))).2.1 (by decide) (by decide) ?_
    exact K T locs h s6 X e0 (Keep.refl _ _) (by simpa using B) N
  | succ k ih =>
    intro n T locs cells slots h s6 hn h6 X e0 A B N K
    have hlt : n < cs.length := by omega
    have hn31 : n < 2 ^ 31 := by omega
    obtain ⟨x, hx⟩ : ∃ x, x = cs[n] := ⟨_, rfl⟩
    have hxm : x ∈ cs := hx ▸ List.getElem_mem hlt
    have hb := hcs x hxm
    have hget : (ch16 cs)[n]? = some (.int x) := by simp [ch16, hx, hlt]
    refine Go.iload (pc' := 5) C X d6_3 rfl rfl ?_
    refine Go.iload (pc' := 7) C X d6_5 rfl rfl ?_
    refine Go.icmpNo (pc' := 10) C X d6_7 (tlt (x := n.toInt32) (y := cs.length.toInt32) ((n32_lt hn31 hl).mpr hlt)).2.1 rfl ?_
    refine Go.aloadN (pc' := 11) C X d6_10 rfl rfl rfl ?_
    refine Go.iloadN (pc' := 12) C X d6_11 rfl rfl ?_
    refine Go.ldC (i := n) (v := .int x) (pc' := 13) C X e0 A (n32_neg hn31) (n32_nat hn31) hget d6_12 rfl ?_
    refine Go.istore (Ls' := #[.val (.ref a), .val (.int n.toInt32), .val (.ref b), .val (.int n.toInt32), .val (.int cs.length.toInt32), .val (.int n.toInt32), .val (.int x)]) (pc' := 15) C X d6_13 (XS.store1 (o := s6) rfl h6 rfl) rfl ?_
    refine Go.iload (pc' := 17) C X d6_15 rfl rfl ?_
    refine Go.sipush (z := (255 : Int32)) (pc' := 20) C X d6_17 rfl rfl ?_
    refine Go.icmpYes (pc' := 26) C X d6_20 (flt (x := (255 : Int32)) (y := x) (fun q => absurd (Int32.lt_iff_toInt_lt.mp q) (by simp only [Int32.reduceToInt]; omega))).2.2.2 (by decide) (by decide) ?_
    refine Go.aloadN (pc' := 27) C X d6_26 rfl rfl rfl ?_
    refine Go.iloadN (pc' := 28) C X d6_27 rfl rfl ?_
    refine Go.iload (pc' := 30) C X d6_28 rfl rfl ?_
    refine Go.i2b (pc' := 31) C X d6_30 rfl ?_
    refine Go.stB (i := n) (x' := x.toInt8.toInt32) (vs' := by8 (cs.take (n + 1)) ++ List.replicate k (.int 0)) (pc' := 32) C X e0 B (n32_neg hn31) (n32_nat hn31) (by simp [by8]; omega) (nar_byte8 x) ?_ d6_31 rfl ?_
    · rw [List.take_add_one, List.getElem?_eq_getElem hlt, ← hx]
      simp only [by8, List.map_append, Option.toList, List.map_cons, List.map_nil, List.replicate_succ, List.append_assoc, List.cons_append, List.nil_append]
      rw [List.set_append_right _ _ (by simp; omega)]
      simp [Nat.min_eq_left (Nat.le_of_lt hlt)]
    · intro T1 h1 X1 e1 W1 B1
      have N1 := Fr.snoc X1 N hnb
      refine Go.iinc (Ls' := #[.val (.ref a), .val (.int (n + 1).toInt32), .val (.ref b), .val (.int n.toInt32), .val (.int cs.length.toInt32), .val (.int n.toInt32), .val (.int x)]) (z := (1 : Int32)) (pc' := 35) C X1 d6_32 rfl rfl (by rw [n32_succ]; rfl) rfl ?_
      refine Go.iinc (Ls' := #[.val (.ref a), .val (.int (n + 1).toInt32), .val (.ref b), .val (.int (n + 1).toInt32), .val (.int cs.length.toInt32), .val (.int n.toInt32), .val (.int x)]) (z := (1 : Int32)) (pc' := 38) C X1 d6_35 rfl rfl (by rw [n32_succ]; rfl) rfl ?_
      refine Go.iinc (Ls' := #[.val (.ref a), .val (.int (n + 1).toInt32), .val (.ref b), .val (.int (n + 1).toInt32), .val (.int cs.length.toInt32), .val (.int (n + 1).toInt32), .val (.int x)]) (z := (1 : Int32)) (pc' := 41) C X1 d6_38 rfl rfl (by rw [n32_succ]; rfl) rfl ?_
      refine Go.goto (pc' := 3) C X1 d6_41 (by decide) (by decide) ?_
      refine ih (n + 1) T1 _ cells slots h1 (.val (.int x)) (by omega) (One.val rfl) X1 e1 (AL.other W1 A hne) B1 N1 ?_
      intro T' locs' h' s6' X' e' K' B' N'
      exact K T' locs' h' s6' X' e' (((Keep.refl h [b]).wr W1 (Or.inl (by simp))).trans K' (allS (Or.inl (by simp)) all0)) B' N'
theorem pf_6 : plainFor (⟨"java/lang/StringUTF16", "compress", "([CI[BII)I"⟩ : MethodName) = true := plainFor_of_name (by first | (simp [plainName, overriddenIn]; done) | decide +kernel)
def Q_cmpI (Z : State) (a : Addr) (b : Addr) (ka : ClassId) (kb : ClassId) (cs : List Int32) (h0 : Heap) (rv : Option Value) (h : Heap) (L : List Loc) : Prop := rv = some (.int cs.length.toInt32) ∧ Fr Z.heap.size L ∧ Keep h0 h [b] ∧ AL Z h b kb .byte (by8 cs)
set_option maxRecDepth 65536 in
set_option maxHeartbeats 40000000 in
theorem rm_cmpI (l : Launch) (Z : State) (a0 : Array Value) (hw : ∀ d ∈ tables_1, d.before a0 Z = true) (a : Addr) (b : Addr) (ka : ClassId) (kb : ClassId) (cs : List Int32) (h0 : Heap) (O0 : Ext Z.heap h0) (A0 : AL Z h0 a ka .char (ch16 cs)) (B0 : AL Z h0 b kb .byte (List.replicate cs.length (.int 0))) (hcs : ∀ x ∈ cs, 0 ≤ x.toInt ∧ x.toInt ≤ 255) (hl : cs.length < 2 ^ 31) (hne : a ≠ b) (hnb : Z.heap.size ≤ b) :
    Met1 l Z (⟨"java/lang/StringUTF16", "compress", "([CI[BII)I"⟩ : MethodName) jdk_52_method_21_code 7 (some .int) ({ frames := 0, cells := 0, slots := 0, locals := 0 } : Room) #[(.ref a), (.int (0 : Int32)), (.ref b), (.int (0 : Int32)), (.int cs.length.toInt32)] h0 (Q_cmpI Z a b ka kb cs h0) := by
  refine Met1.of_body (Ls := #[.val (.ref a), .val (.int (0 : Int32)), .val (.ref b), .val (.int (0 : Int32)), .val (.int cs.length.toInt32), .unset, .unset]) pf_6 (fun m => by first | (simp [entryFrame, mkF, argsToLocals, Value.category]; done) | rfl) ?_
  intro p e s m below meth c T0 C X0 e0
  have N0 : Fr Z.heap.size [] := Fr.nil _
  refine Go.iconst (z := (0 : Int32)) (pc' := 1) C X0 d6_0 rfl rfl ?_
  refine Go.istore (Ls' := #[.val (.ref a), .val (.int (0 : Int32)), .val (.ref b), .val (.int (0 : Int32)), .val (.int cs.length.toInt32), .val (.int (0 : Int32)), .unset]) (pc' := 3) C X0 d6_1 rfl rfl ?_
  refine lp_compress C hcs hl hne hnb cs.length 0 T0 [] 0 0 h0 .unset (by omega) One.u X0 e0 A0 (by simpa [by8] using B0) N0 ?_
  intro T' locs' h' s6' X' e' K' B' N'
  refine Go.iload (pc' := 46) C X' d6_44 rfl rfl ?_
  exact Go.retI C X' rfl d6_46 (by rw [e']; exact ⟨rfl, N', K', B'⟩) (by decide) (by decide)
theorem pd_0 : parseMethodDescriptor "([CI[BII)I" = some ⟨[(.array .char), .int, (.array .byte), .int, .int], some .int⟩ := by decide +kernel
theorem pf_5 : plainFor (⟨"java/lang/StringUTF16", "compress", "([CII)[B"⟩ : MethodName) = true := plainFor_of_name (by first | (simp [plainName, overriddenIn]; done) | decide +kernel)
theorem d5_0 : decode jdk_52_method_16_code 0 = .ok (.iload_n 2, 1) := by decide +kernel
theorem d5_1 : decode jdk_52_method_16_code 1 = .ok (.newarray .byte, 2) := by decide +kernel
theorem d5_3 : decode jdk_52_method_16_code 3 = .ok (.astore_n 3, 1) := by decide +kernel
theorem d5_4 : decode jdk_52_method_16_code 4 = .ok (.aload_n 0, 1) := by decide +kernel
theorem d5_5 : decode jdk_52_method_16_code 5 = .ok (.iload_n 1, 1) := by decide +kernel
theorem d5_6 : decode jdk_52_method_16_code 6 = .ok (.aload_n 3, 1) := by decide +kernel
theorem d5_7 : decode jdk_52_method_16_code 7 = .ok (.iconst 0, 1) := by decide +kernel
theorem d5_8 : decode jdk_52_method_16_code 8 = .ok (.iload_n 2, 1) := by decide +kernel
theorem d5_9 : decode jdk_52_method_16_code 9 = .ok (.invokestatic 115, 3) := by decide +kernel
theorem d5_12 : decode jdk_52_method_16_code 12 = .ok (.istore 4, 2) := by decide +kernel
theorem d5_14 : decode jdk_52_method_16_code 14 = .ok (.iload 4, 2) := by decide +kernel
theorem d5_16 : decode jdk_52_method_16_code 16 = .ok (.iload_n 2, 1) := by decide +kernel
theorem d5_17 : decode jdk_52_method_16_code 17 = .ok (.if_icmp .eq 40, 3) := by decide +kernel
theorem d5_57 : decode jdk_52_method_16_code 57 = .ok (.aload_n 3, 1) := by decide +kernel
theorem d5_58 : decode jdk_52_method_16_code 58 = .ok (.areturn, 1) := by decide +kernel
def Q_cmpO (Z : State) (a : Addr) (ka : ClassId) (cs : List Int32) (h0 : Heap) (rv : Option Value) (h : Heap) (L : List Loc) : Prop := ∃ b : Addr, ∃ kb : ClassId, rv = some (.ref b) ∧ Fr Z.heap.size L ∧ Keep h0 h [] ∧ h0.size ≤ b ∧ AL Z h b kb .byte (by8 cs)
set_option maxRecDepth 65536 in
set_option maxHeartbeats 40000000 in
theorem rm_cmpO (l : Launch) (Z : State) (a0 : Array Value) (hw : ∀ d ∈ tables_1, d.before a0 Z = true) (a : Addr) (ka : ClassId) (cs : List Int32) (h0 : Heap) (O0 : Ext Z.heap h0) (A0 : AL Z h0 a ka .char (ch16 cs)) (hcs : ∀ x ∈ cs, 0 ≤ x.toInt ∧ x.toInt ≤ 255) (hl : cs.length < 2 ^ 31) (hN : cs.length ≤ 3) :
    Met1 l Z (⟨"java/lang/StringUTF16", "compress", "([CII)[B"⟩ : MethodName) jdk_52_method_16_code 6 (some (.array .byte)) ({ frames := 1, cells := 1, slots := 3, locals := 18 } : Room) #[(.ref a), (.int (0 : Int32)), (.int cs.length.toInt32)] h0 (Q_cmpO Z a ka cs h0) := by
  refine Met1.of_body (Ls := #[.val (.ref a), .val (.int (0 : Int32)), .val (.int cs.length.toInt32), .unset, .unset, .unset]) pf_5 (fun m => by first | (simp [entryFrame, mkF, argsToLocals, Value.category]; done) | rfl) ?_
  intro p e s m below meth c T0 C X0 e0
  have N0 : Fr Z.heap.size [] := Fr.nil _
  refine Go.iloadN (pc' := 1) C X0 d5_0 rfl rfl ?_
  refine Go.newP (aty := .byte) (cap := 3) (vs := (List.replicate cs.length (.int 0))) (ad := "[B") (pc' := 3) C X0 (by decide) (hw _ (List.mem_of_getElem? (i := 23) rfl)) e0 (n32_neg hl) (by rw [n32_nat hl]; exact hN) (by decide) (by decide) (by decide) (by rw [n32_nat hl]; rfl) d5_1 rfl ?_
  intro T101 h101 b101 k101 X101 e101 g101 E101 A101 Ea101
  have n_b101 : Z.heap.size ≤ b101 := Nat.le_trans O0.1 (Nat.le_of_eq g101.symm)
  have z_b101 : h0.size ≤ b101 := Nat.le_trans (Nat.le_refl _) (Nat.le_of_eq g101.symm)
  have A101 : AL Z h101 b101 k101 .byte (List.replicate cs.length (.int 0)) := A101
  refine Go.astoreN (Ls' := #[.val (.ref a), .val (.int (0 : Int32)), .val (.int cs.length.toInt32), .val (.ref b101), .unset, .unset]) (pc' := 4) C X101 d5_3 rfl rfl rfl ?_
  refine Go.aloadN (pc' := 5) C X101 d5_4 rfl rfl rfl ?_
  refine Go.iloadN (pc' := 6) C X101 d5_5 rfl rfl ?_
  refine Go.aloadN (pc' := 7) C X101 d5_6 rfl rfl rfl ?_
  refine Go.iconst (z := (0 : Int32)) (pc' := 8) C X101 d5_7 rfl rfl ?_
  refine Go.iloadN (pc' := 9) C X101 d5_8 rfl rfl ?_
  have c103 : AL Z h101 a ka .char (ch16 cs) := (AL.ext E101 A0)
  have ne104 : a ≠ b101 := Nat.ne_of_lt (Nat.lt_of_lt_of_le A0.lt (Nat.le_trans (Nat.le_refl _) (Nat.le_of_eq g101.symm)))
  have O105 : Ext Z.heap h101 := (Ext.trans O0 E101)
  refine Go.callS (y := (⟨"java/lang/StringUTF16", "compress", "([CI[BII)I"⟩ : MethodName)) (pc' := 12) C X101 (hw _ (List.mem_of_getElem? (i := 24) rfl)) (hw _ (List.mem_of_getElem? (i := 25) rfl)) (by decide) (rm_cmpI l Z a0 hw a b101 ka k101 cs h101 O105 c103 A101 hcs hl ne104 n_b101) (hw _ (List.mem_of_getElem? (i := 26) rfl)) (hw _ (List.mem_of_getElem? (i := 21) rfl)) e101 (argsL := [(.ref a), (.int (0 : Int32)), (.ref b101), (.int (0 : Int32)), (.int cs.length.toInt32)]) (rest := []) (W := 0) rfl rfl pd_0 rfl (Nat.le_of_eq rfl) rfl (by decide) (by decide) (by decide) (by decide) d5_9 rfl ?_
  intro T102 v102 L102 X102 q102
  obtain ⟨rfl, N102q, K102, P102_0⟩ := q102
  have N102 := Fr.app N0 N102q
  refine Go.istore (Ls' := #[.val (.ref a), .val (.int (0 : Int32)), .val (.int cs.length.toInt32), .val (.ref b101), .val (.int cs.length.toInt32), .unset]) (pc' := 14) C X102 d5_12 rfl rfl ?_
  refine Go.iload (pc' := 16) C X102 d5_14 rfl rfl ?_
  refine Go.iloadN (pc' := 17) C X102 d5_16 rfl rfl ?_
  refine Go.icmpYes (pc' := 57) C X102 d5_17 (teq (x := cs.length.toInt32) (y := cs.length.toInt32) rfl).1 (by decide) (by decide) ?_
  refine Go.aloadN (pc' := 58) C X102 d5_57 rfl rfl rfl ?_
  have K107 : Keep h0 T102.heap [] := (((Keep.refl h0 []).ext E101).trans K102 (allS (Or.inr z_b101) all0))
  exact Go.retA C X102 rfl d5_58 rfl rfl rfl ⟨b101, k101, rfl, N102, K107, z_b101, P102_0⟩ (by decide) (by decide)
theorem pf_7 : plainFor (⟨"java/lang/StringUTF16", "coderFromArrayLen", "([BI)B"⟩ : MethodName) = true := plainFor_of_name (by first | (simp [plainName, overriddenIn]; done) | decide +kernel)
theorem d7_0 : decode jdk_52_method_15_code 0 = .ok (.iload_n 1, 1) := by decide +kernel
theorem d7_1 : decode jdk_52_method_15_code 1 = .ok (.aload_n 0, 1) := by decide +kernel
theorem d7_2 : decode jdk_52_method_15_code 2 = .ok (.arraylength, 1) := by decide +kernel
theorem d7_3 : decode jdk_52_method_15_code 3 = .ok (.isub, 1) := by decide +kernel
theorem d7_4 : decode jdk_52_method_15_code 4 = .ok (.bipush 31, 2) := by decide +kernel
theorem d7_6 : decode jdk_52_method_15_code 6 = .ok (.iushr, 1) := by decide +kernel
theorem d7_7 : decode jdk_52_method_15_code 7 = .ok (.i2b, 1) := by decide +kernel
theorem d7_8 : decode jdk_52_method_15_code 8 = .ok (.ireturn, 1) := by decide +kernel
def Q_cfl (Z : State) (b : Addr) (kb : ClassId) (cs : List Int32) (h0 : Heap) (rv : Option Value) (h : Heap) (L : List Loc) : Prop := rv = some (.int (0 : Int32)) ∧ L = [] ∧ h = h0
set_option maxRecDepth 65536 in
set_option maxHeartbeats 40000000 in
theorem rm_cfl (l : Launch) (Z : State) (a0 : Array Value) (hw : ∀ d ∈ tables_1, d.before a0 Z = true) (b : Addr) (kb : ClassId) (cs : List Int32) (h0 : Heap) (O0 : Ext Z.heap h0) (B0 : AL Z h0 b kb .byte (by8 cs)) :
    Met1 l Z (⟨"java/lang/StringUTF16", "coderFromArrayLen", "([BI)B"⟩ : MethodName) jdk_52_method_15_code 2 (some .byte) ({ frames := 0, cells := 0, slots := 0, locals := 0 } : Room) #[(.ref b), (.int cs.length.toInt32)] h0 (Q_cfl Z b kb cs h0) := by
  refine Met1.of_body (Ls := #[.val (.ref b), .val (.int cs.length.toInt32)]) pf_7 (fun m => by first | (simp [entryFrame, mkF, argsToLocals, Value.category]; done) | rfl) ?_
  intro p e s m below meth c T0 C X0 e0
  have N0 : Fr Z.heap.size [] := Fr.nil _
  refine Go.iloadN (pc' := 1) C X0 d7_0 rfl rfl ?_
  refine Go.aloadN (pc' := 2) C X0 d7_1 rfl rfl rfl ?_
  refine Go.alen (z := cs.length.toInt32) (pc' := 3) C X0 e0 B0 (by rw [by8_len]) d7_2 rfl ?_
  refine Go.isub (pc' := 4) C X0 d7_3 rfl ?_
  refine Go.bipush (z := (31 : Int32)) (pc' := 6) C X0 d7_4 rfl rfl ?_
  refine Go.iushr (pc' := 7) C X0 d7_6 rfl ?_
  refine Go.i2b (pc' := 8) C X0 d7_7 rfl ?_
  exact Go.retN C X0 rfl d7_8 (by simp) (by rw [e0]; exact ⟨(by rw [Int32.sub_self]; rfl), rfl, rfl⟩) (by decide) (by decide)
theorem pd_1 : parseMethodDescriptor "([CII)[B" = some ⟨[(.array .char), .int, .int], some (.array .byte)⟩ := by decide +kernel
theorem pd_2 : parseMethodDescriptor "([BI)B" = some ⟨[(.array .byte), .int], some .byte⟩ := by decide +kernel
theorem pf_3 : plainFor (⟨"java/lang/String", "<init>", "([CIILjava/lang/Void;)V"⟩ : MethodName) = true := plainFor_of_name (by first | (simp [plainName, overriddenIn]; done) | decide +kernel)
theorem d3_0 : decode jdk_42_method_149_code 0 = .ok (.aload_n 0, 1) := by decide +kernel
theorem d3_1 : decode jdk_42_method_149_code 1 = .ok (.invokespecial 1, 3) := by decide +kernel
theorem d3_4 : decode jdk_42_method_149_code 4 = .ok (.iload_n 3, 1) := by decide +kernel
theorem d3_5 : decode jdk_42_method_149_code 5 = .ok (.ifCond .ne 22, 3) := by decide +kernel
theorem d3_27 : decode jdk_42_method_149_code 27 = .ok (.getstatic 38, 3) := by decide +kernel
theorem d3_30 : decode jdk_42_method_149_code 30 = .ok (.ifCond .eq 28, 3) := by decide +kernel
theorem d3_33 : decode jdk_42_method_149_code 33 = .ok (.aload_n 1, 1) := by decide +kernel
theorem d3_34 : decode jdk_42_method_149_code 34 = .ok (.iload_n 2, 1) := by decide +kernel
theorem d3_35 : decode jdk_42_method_149_code 35 = .ok (.iload_n 3, 1) := by decide +kernel
theorem d3_36 : decode jdk_42_method_149_code 36 = .ok (.invokestatic 177, 3) := by decide +kernel
theorem d3_39 : decode jdk_42_method_149_code 39 = .ok (.astore 5, 2) := by decide +kernel
theorem d3_41 : decode jdk_42_method_149_code 41 = .ok (.aload_n 0, 1) := by decide +kernel
theorem d3_42 : decode jdk_42_method_149_code 42 = .ok (.aload 5, 2) := by decide +kernel
theorem d3_44 : decode jdk_42_method_149_code 44 = .ok (.iload_n 3, 1) := by decide +kernel
theorem d3_45 : decode jdk_42_method_149_code 45 = .ok (.invokestatic 47, 3) := by decide +kernel
theorem d3_48 : decode jdk_42_method_149_code 48 = .ok (.putfield 15, 3) := by decide +kernel
theorem d3_51 : decode jdk_42_method_149_code 51 = .ok (.aload_n 0, 1) := by decide +kernel
theorem d3_52 : decode jdk_42_method_149_code 52 = .ok (.aload 5, 2) := by decide +kernel
theorem d3_54 : decode jdk_42_method_149_code 54 = .ok (.putfield 9, 3) := by decide +kernel
theorem d3_57 : decode jdk_42_method_149_code 57 = .ok (.return_, 1) := by decide +kernel
def Q_sI4 (Z : State) (s1 : Addr) (a : Addr) (ka : ClassId) (cs : List Int32) (cP : Int32) (h0 : Heap) (rv : Option Value) (h : Heap) (L : List Loc) : Prop := ∃ v : Addr, ∃ kv : ClassId, rv = none ∧ Fr Z.heap.size L ∧ Keep h0 h [s1] ∧ h0.size ≤ v ∧ Fld Z h s1 "java/lang/String" "value" "[B" (.ref v) ∧ Fld Z h s1 "java/lang/String" "coder" "B" (.int (0 : Int32)) ∧ AL Z h v kv .byte (by8 cs)
set_option maxRecDepth 65536 in
set_option maxHeartbeats 40000000 in
theorem rm_sI4 (l : Launch) (Z : State) (a0 : Array Value) (hw : ∀ d ∈ tables_1, d.before a0 Z = true) (s1 : Addr) (a : Addr) (ka : ClassId) (cs : List Int32) (cP : Int32) (h0 : Heap) (O0 : Ext Z.heap h0) (E0 : Exa Z h0 s1 "java/lang/String") (Fv : Fld Z h0 s1 "java/lang/String" "value" "[B" .null) (Fc : Fld Z h0 s1 "java/lang/String" "coder" "B" (.int (0 : Int32))) (A0 : AL Z h0 a ka .char (ch16 cs)) (SC : Sta Z Z.heap "java/lang/String" "COMPACT_STRINGS" "Z" (.int cP)) (hcs : ∀ x ∈ cs, 0 ≤ x.toInt ∧ x.toInt ≤ 255) (hl : cs.length < 2 ^ 31) (hN : cs.length ≤ 3) (hpos : ¬ cs.length.toInt32 = (0 : Int32)) (hP : ¬ cP = (0 : Int32)) (hns : Z.heap.size ≤ s1) :
    Met1 l Z (⟨"java/lang/String", "<init>", "([CIILjava/lang/Void;)V"⟩ : MethodName) jdk_42_method_149_code 6 none ({ frames := 2, cells := 1, slots := 3, locals := 35 } : Room) #[(.ref s1), (.ref a), (.int (0 : Int32)), (.int cs.length.toInt32), .null] h0 (Q_sI4 Z s1 a ka cs cP h0) := by
  refine Met1.of_body (Ls := #[.val (.ref s1), .val (.ref a), .val (.int (0 : Int32)), .val (.int cs.length.toInt32), .val .null, .unset]) pf_3 (fun m => by first | (simp [entryFrame, mkF, argsToLocals, Value.category]; done) | rfl) ?_
  intro p e s m below meth c T0 C X0 e0
  have N0 : Fr Z.heap.size [] := Fr.nil _
  refine Go.aloadN (pc' := 1) C X0 d3_0 rfl rfl rfl ?_
  refine Go.initO (pc' := 4) (W := 0) C X0 (hw _ (List.mem_of_getElem? (i := 15) rfl)) (hw _ (List.mem_of_getElem? (i := 16) rfl)) (hw _ (List.mem_of_getElem? (i := 17) rfl)) e0 rfl (by decide) (Nat.le_of_eq rfl) (by decide) d3_1 rfl ?_
  intro T101 X101 e101
  refine Go.iloadN (pc' := 5) C X101 d3_4 rfl rfl ?_
  refine Go.ifYes (pc' := 27) C X101 d3_5 ((if0 _ _).trans (feq (x := cs.length.toInt32) (y := (0 : Int32)) hpos).2) (by decide) (by decide) ?_
  refine Go.getS (pc' := 30) (host := "") C X101 (Or.inl (hw _ (List.mem_of_getElem? (i := 18) rfl))) Via.refl e101 (SC.ext O0) d3_27 rfl ?_
  intro T103 X103 e103
  refine Go.ifNo (pc' := 33) C X103 d3_30 ((if0 _ _).trans (feq (x := cP) (y := (0 : Int32)) hP).1) rfl ?_
  refine Go.aloadN (pc' := 34) C X103 d3_33 rfl rfl rfl ?_
  refine Go.iloadN (pc' := 35) C X103 d3_34 rfl rfl ?_
  refine Go.iloadN (pc' := 36) C X103 d3_35 rfl rfl ?_
  refine Go.callS (y := (⟨"java/lang/StringUTF16", "compress", "([CII)[B"⟩ : MethodName)) (pc' := 39) C X103 (hw _ (List.mem_of_getElem? (i := 19) rfl)) (hw _ (List.mem_of_getElem? (i := 20) rfl)) (by decide) (rm_cmpO l Z a0 hw a ka cs h0 O0 A0 hcs hl hN) (hw _ (List.mem_of_getElem? (i := 22) rfl)) (hw _ (List.mem_of_getElem? (i := 21) rfl)) e103 (argsL := [(.ref a), (.int (0 : Int32)), (.int cs.length.toInt32)]) (rest := []) (W := 0) rfl rfl pd_1 rfl (Nat.le_of_eq rfl) rfl (by decide) (by decide) (by decide) (by decide) d3_36 rfl ?_
  intro T105 v105 L105 X105 q105
  obtain ⟨b_105, kb_105, rfl, N105q, K105, B105_0, P105_0⟩ := q105
  have N105 := Fr.app N0 N105q
  have n_b_105 : Z.heap.size ≤ b_105 := Nat.le_trans O0.1 B105_0
  have z_b_105 : h0.size ≤ b_105 := Nat.le_trans (Nat.le_refl _) B105_0
  refine Go.astore (Ls' := #[.val (.ref s1), .val (.ref a), .val (.int (0 : Int32)), .val (.int cs.length.toInt32), .val .null, .val (.ref b_105)]) (pc' := 41) C X105 d3_39 rfl rfl rfl ?_
  refine Go.aloadN (pc' := 42) C X105 d3_41 rfl rfl rfl ?_
  refine Go.aload (pc' := 44) C X105 d3_42 rfl rfl rfl ?_
  refine Go.iloadN (pc' := 45) C X105 d3_44 rfl rfl ?_
  have O107 : Ext Z.heap T105.heap := (Ext.keep O0 K105 all0)
  refine Go.callS (y := (⟨"java/lang/StringUTF16", "coderFromArrayLen", "([BI)B"⟩ : MethodName)) (pc' := 48) C X105 (hw _ (List.mem_of_getElem? (i := 27) rfl)) (hw _ (List.mem_of_getElem? (i := 28) rfl)) (by decide) (rm_cfl l Z a0 hw b_105 kb_105 cs T105.heap O107 P105_0) (hw _ (List.mem_of_getElem? (i := 29) rfl)) (hw _ (List.mem_of_getElem? (i := 21) rfl)) rfl (argsL := [(.ref b_105), (.int cs.length.toInt32)]) (rest := [(.ref s1)]) (W := 1) rfl rfl pd_2 rfl (Nat.le_of_eq rfl) rfl (by decide) (by decide) (by decide) (by decide) d3_45 rfl ?_
  intro T106 v106 L106 X106 q106
  obtain ⟨rfl, rfl, e106⟩ := q106
  have N106 := Fr.app N105 (Fr.nil _)
  have c109 : Fld Z T105.heap s1 "java/lang/String" "coder" "B" (.int (0 : Int32)) := (Fld.keep Fc K105 nin0)
  have c110 : Exa Z T105.heap s1 "java/lang/String" := (Exa.keep E0 K105)
  refine Go.putFN (pc' := 51) (ty := .byte) (v' := .int (0 : Int32)) C X106 (hw _ (List.mem_of_getElem? (i := 30) rfl)) Via.refl e106 c109 c110 (Or.inr ⟨(hw _ (List.mem_of_getElem? (i := 31) rfl)), rfl, rfl⟩) (hw _ (List.mem_of_getElem? (i := 5) rfl)) (by decide) rfl (by decide) d3_48 rfl ?_
  intro T108 h108 X108 e108 W108 F108
  have N108 := Fr.snoc X108 N106 hns
  refine Go.aloadN (pc' := 52) C X108 d3_51 rfl rfl rfl ?_
  refine Go.aload (pc' := 54) C X108 d3_52 rfl rfl rfl ?_
  have c112 : Fld Z h108 s1 "java/lang/String" "value" "[B" .null := (Fld.other W108 (Fld.keep Fv K105 nin0) (Or.inr (slot_ne (Or.inr (hw _ (List.mem_of_getElem? (i := 33) rfl))) (Or.inr (hw _ (List.mem_of_getElem? (i := 31) rfl))) (by decide) (t := (.array .byte)) (t' := .byte) (by decide) (by decide))))
  have c113 : Exa Z h108 s1 "java/lang/String" := (Exa.wr W108 c110)
  refine Go.putF (pc' := 57) (host := "") (ty := (.array .byte)) C X108 (Or.inl (hw _ (List.mem_of_getElem? (i := 32) rfl))) Via.refl e108 c112 c113 (Or.inr ⟨(hw _ (List.mem_of_getElem? (i := 33) rfl)), rfl, rfl⟩) (hw _ (List.mem_of_getElem? (i := 5) rfl)) (by decide) rfl rfl d3_54 rfl ?_
  intro T111 h111 X111 e111 W111 F111
  have N111 := Fr.snoc X111 N108 hns
  have K114 : Keep h0 h111 [s1] := ((((Keep.refl h0 [s1]).trans K105 all0).wr W108 (Or.inl (by simp))).wr W111 (Or.inl (by simp)))
  have c115 : Fld Z h111 s1 "java/lang/String" "coder" "B" (.int (0 : Int32)) := (Fld.other W111 F108 (Or.inr (slot_ne (Or.inr (hw _ (List.mem_of_getElem? (i := 31) rfl))) (Or.inr (hw _ (List.mem_of_getElem? (i := 33) rfl))) (by decide) (t := .byte) (t' := (.array .byte)) (by decide) (by decide))))
  have ne116 : b_105 ≠ s1 := (Nat.ne_of_gt (Nat.lt_of_lt_of_le E0.lt (Nat.le_trans (Nat.le_refl _) B105_0)))
  have c117 : AL Z h111 b_105 kb_105 .byte (by8 cs) := (AL.other W111 (AL.other W108 P105_0 ne116) ne116)
  exact Go.retV C X111 rfl d3_57 (by rw [e111]; exact ⟨b_105, kb_105, rfl, N111, K114, z_b_105, F111, c115, c117⟩) (by decide) (by decide)
theorem pd_3 : parseMethodDescriptor "([CIILjava/lang/Void;)V" = some ⟨[(.array .char), .int, .int, (.object "java/lang/Void")], none⟩ := by decide +kernel
theorem pf_2 : plainFor (⟨"java/lang/String", "<init>", "([C)V"⟩ : MethodName) = true := plainFor_of_name (by first | (simp [plainName, overriddenIn]; done) | decide +kernel)
theorem d2_0 : decode jdk_42_method_3_code 0 = .ok (.aload_n 0, 1) := by decide +kernel
theorem d2_1 : decode jdk_42_method_3_code 1 = .ok (.aload_n 1, 1) := by decide +kernel
theorem d2_2 : decode jdk_42_method_3_code 2 = .ok (.iconst 0, 1) := by decide +kernel
theorem d2_3 : decode jdk_42_method_3_code 3 = .ok (.aload_n 1, 1) := by decide +kernel
theorem d2_4 : decode jdk_42_method_3_code 4 = .ok (.arraylength, 1) := by decide +kernel
theorem d2_5 : decode jdk_42_method_3_code 5 = .ok (.aconst_null, 1) := by decide +kernel
theorem d2_6 : decode jdk_42_method_3_code 6 = .ok (.invokespecial 27, 3) := by decide +kernel
theorem d2_9 : decode jdk_42_method_3_code 9 = .ok (.return_, 1) := by decide +kernel
def Q_sI1 (Z : State) (s1 : Addr) (a : Addr) (ka : ClassId) (cs : List Int32) (cP : Int32) (h0 : Heap) (rv : Option Value) (h : Heap) (L : List Loc) : Prop := ∃ v : Addr, ∃ kv : ClassId, rv = none ∧ Fr Z.heap.size L ∧ Keep h0 h [s1] ∧ h0.size ≤ v ∧ Fld Z h s1 "java/lang/String" "value" "[B" (.ref v) ∧ Fld Z h s1 "java/lang/String" "coder" "B" (.int (0 : Int32)) ∧ AL Z h v kv .byte (by8 cs)
set_option maxRecDepth 65536 in
set_option maxHeartbeats 40000000 in
theorem rm_sI1 (l : Launch) (Z : State) (a0 : Array Value) (hw : ∀ d ∈ tables_1, d.before a0 Z = true) (s1 : Addr) (a : Addr) (ka : ClassId) (cs : List Int32) (cP : Int32) (h0 : Heap) (O0 : Ext Z.heap h0) (E0 : Exa Z h0 s1 "java/lang/String") (Fv : Fld Z h0 s1 "java/lang/String" "value" "[B" .null) (Fc : Fld Z h0 s1 "java/lang/String" "coder" "B" (.int (0 : Int32))) (A0 : AL Z h0 a ka .char (ch16 cs)) (SC : Sta Z Z.heap "java/lang/String" "COMPACT_STRINGS" "Z" (.int cP)) (hcs : ∀ x ∈ cs, 0 ≤ x.toInt ∧ x.toInt ≤ 255) (hl : cs.length < 2 ^ 31) (hN : cs.length ≤ 3) (hpos : ¬ cs.length.toInt32 = (0 : Int32)) (hP : ¬ cP = (0 : Int32)) (hns : Z.heap.size ≤ s1) :
    Met1 l Z (⟨"java/lang/String", "<init>", "([C)V"⟩ : MethodName) jdk_42_method_3_code 2 none ({ frames := 3, cells := 1, slots := 3, locals := 52 } : Room) #[(.ref s1), (.ref a)] h0 (Q_sI1 Z s1 a ka cs cP h0) := by
  refine Met1.of_body (Ls := #[.val (.ref s1), .val (.ref a)]) pf_2 (fun m => by first | (simp [entryFrame, mkF, argsToLocals, Value.category]; done) | rfl) ?_
  intro p e s m below meth c T0 C X0 e0
  have N0 : Fr Z.heap.size [] := Fr.nil _
  refine Go.aloadN (pc' := 1) C X0 d2_0 rfl rfl rfl ?_
  refine Go.aloadN (pc' := 2) C X0 d2_1 rfl rfl rfl ?_
  refine Go.iconst (z := (0 : Int32)) (pc' := 3) C X0 d2_2 rfl rfl ?_
  refine Go.aloadN (pc' := 4) C X0 d2_3 rfl rfl rfl ?_
  refine Go.alen (z := cs.length.toInt32) (pc' := 5) C X0 e0 A0 (by rw [ch16_len]) d2_4 rfl ?_
  refine Go.aconstNull (pc' := 6) C X0 d2_5 rfl ?_
  refine Go.callI (y := (⟨"java/lang/String", "<init>", "([CIILjava/lang/Void;)V"⟩ : MethodName)) (a := s1) (pc' := 9) C X0 rfl (hw _ (List.mem_of_getElem? (i := 11) rfl)) (hw _ (List.mem_of_getElem? (i := 12) rfl)) (by decide) (rm_sI4 l Z a0 hw s1 a ka cs cP h0 O0 E0 Fv Fc A0 SC hcs hl hN hpos hP hns) (hw _ (List.mem_of_getElem? (i := 14) rfl)) (hw _ (List.mem_of_getElem? (i := 6) rfl)) e0 (argsL := [(.ref a), (.int (0 : Int32)), (.int cs.length.toInt32), .null]) (rest := []) (W := 0) rfl rfl pd_3 rfl (Nat.le_of_eq rfl) rfl (by decide) (by decide) (by decide) (by decide) rfl d2_6 rfl ?_
  intro T101 v101 L101 X101 q101
  obtain ⟨v_101, kv_101, rfl, N101q, K101, B101_0, P101_0, P101_1, P101_2⟩ := q101
  have N101 := Fr.app N0 N101q
  have n_v_101 : Z.heap.size ≤ v_101 := Nat.le_trans O0.1 B101_0
  have z_v_101 : h0.size ≤ v_101 := Nat.le_trans (Nat.le_refl _) B101_0
  have K102 : Keep h0 T101.heap [s1] := ((Keep.refl h0 [s1]).trans K101 (allS (Or.inl (by simp)) all0))
  exact Go.retV C X101 rfl d2_9 ⟨v_101, kv_101, rfl, N101, K102, z_v_101, P101_0, P101_1, P101_2⟩ (by decide) (by decide)
theorem d12_0 : decode jdk_43_method_13_code 0 = .ok (.aload_n 0, 1) := by decide +kernel
theorem d12_1 : decode jdk_43_method_13_code 1 = .ok (.arraylength, 1) := by decide +kernel
theorem d12_2 : decode jdk_43_method_13_code 2 = .ok (.aload_n 1, 1) := by decide +kernel
theorem d12_3 : decode jdk_43_method_13_code 3 = .ok (.arraylength, 1) := by decide +kernel
theorem d12_4 : decode jdk_43_method_13_code 4 = .ok (.if_icmp .ne 30, 3) := by decide +kernel
theorem d12_7 : decode jdk_43_method_13_code 7 = .ok (.iconst 0, 1) := by decide +kernel
theorem d12_8 : decode jdk_43_method_13_code 8 = .ok (.istore_n 2, 1) := by decide +kernel
theorem d12_9 : decode jdk_43_method_13_code 9 = .ok (.iload_n 2, 1) := by decide +kernel
theorem d12_10 : decode jdk_43_method_13_code 10 = .ok (.aload_n 0, 1) := by decide +kernel
theorem d12_11 : decode jdk_43_method_13_code 11 = .ok (.arraylength, 1) := by decide +kernel
theorem d12_12 : decode jdk_43_method_13_code 12 = .ok (.if_icmp .ge 20, 3) := by decide +kernel
theorem d12_15 : decode jdk_43_method_13_code 15 = .ok (.aload_n 0, 1) := by decide +kernel
theorem d12_16 : decode jdk_43_method_13_code 16 = .ok (.iload_n 2, 1) := by decide +kernel
theorem d12_17 : decode jdk_43_method_13_code 17 = .ok (.baload, 1) := by decide +kernel
theorem d12_18 : decode jdk_43_method_13_code 18 = .ok (.aload_n 1, 1) := by decide +kernel
theorem d12_19 : decode jdk_43_method_13_code 19 = .ok (.iload_n 2, 1) := by decide +kernel
theorem d12_20 : decode jdk_43_method_13_code 20 = .ok (.baload, 1) := by decide +kernel
theorem d12_21 : decode jdk_43_method_13_code 21 = .ok (.if_icmp .eq 5, 3) := by decide +kernel
theorem d12_24 : decode jdk_43_method_13_code 24 = .ok (.iconst 0, 1) := by decide +kernel
theorem d12_25 : decode jdk_43_method_13_code 25 = .ok (.ireturn, 1) := by decide +kernel
theorem d12_26 : decode jdk_43_method_13_code 26 = .ok (.iinc 2 1, 3) := by decide +kernel
theorem d12_29 : decode jdk_43_method_13_code 29 = .ok (.goto (-20), 3) := by decide +kernel
theorem d12_32 : decode jdk_43_method_13_code 32 = .ok (.iconst 1, 1) := by decide +kernel
theorem d12_33 : decode jdk_43_method_13_code 33 = .ok (.ireturn, 1) := by decide +kernel
theorem d12_34 : decode jdk_43_method_13_code 34 = .ok (.iconst 0, 1) := by decide +kernel
theorem d12_35 : decode jdk_43_method_13_code 35 = .ok (.ireturn, 1) := by decide +kernel
set_option maxRecDepth 65536 in
set_option maxHeartbeats 40000000 in
theorem lp_equals {p : Program} {l : Launch} {e : Env} {R : Room} {s : State} {m : MethodId} {args : Array Value} {below : List Frame} {meth : Method} {c : Code} {Z : State} {Fin' : Outcome → State → Prop} {a b : Addr} {ka kb : ClassId} {xs ys : List Int32} (C : Cx p s m meth c Z "java/lang/StringLatin1" "equals" jdk_43_method_13_code 3 (some .boolean)) (hl : xs.length < 2 ^ 31) (hle : ys.length = xs.length) {T : State} {locs : List Loc} {cells slots : Nat} {h : Heap} (X : Stand p l e R s m args below meth c T locs cells slots) (e0 : T.heap = h) (A : AL Z h a ka .byte (by8 xs)) (B : AL Z h b kb .byte (by8 ys))
    (KT : by8 xs = by8 ys → ∀ i : Int32, Go p e below Fin' T (mkF m 32 #[.val (.ref a), .val (.ref b), .val (.int i)] [])) (KF : by8 xs ≠ by8 ys → ∀ i : Int32, Go p e below Fin' T (mkF m 24 #[.val (.ref a), .val (.ref b), .val (.int i)] [])) :
    ∀ (k n : Nat), n + k = xs.length → by8 (xs.take n) = by8 (ys.take n) → Go p e below Fin' T (mkF m 9 #[.val (.ref a), .val (.ref b), .val (.int n.toInt32)] []) := by
  intro k
  induction k with
  | zero =>
    intro n hn hq
    have hn' : n = xs.length := by omega
    subst hn'
    refine Go.iloadN (pc' := 10) C X d12_9 rfl rfl ?_
    refine Go.aloadN (pc' := 11) C X d12_10 rfl rfl rfl ?_
    refine Go.alen (z := xs.length.toInt32) (pc' := 12) C X e0 A (by rw [by8_len]) d12_11 rfl ?_
    refine Go.icmpYes (pc' := 32) C X d12_12 (flt (x := xs.length.toInt32) (y := xs.length.toInt32) (fun q => absurd ((n32_lt hl hl).mp q) (Nat.lt_irrefl _))).2.1 (by decide) (by decide) ?_
    refine KT ?_ _
    rw [List.take_length, List.take_of_length_le (by omega)] at hq
    exact hq
  | succ k ih =>
    intro n hn hq
    have hlt : n < xs.length := by omega
    have hlt' : n < ys.length := by omega
    have hn31 : n < 2 ^ 31 := by omega
    have g1 : (by8 xs)[n]? = some (.int (xs[n]).toInt8.toInt32) := by simp [by8, hlt]
    have g2 : (by8 ys)[n]? = some (.int (ys[n]).toInt8.toInt32) := by simp [by8, hlt']
    refine Go.iloadN (pc' := 10) C X d12_9 rfl rfl ?_
    refine Go.aloadN (pc' := 11) C X d12_10 rfl rfl rfl ?_
    refine Go.alen (z := xs.length.toInt32) (pc' := 12) C X e0 A (by rw [by8_len]) d12_11 rfl ?_
    refine Go.icmpNo (pc' := 15) C X d12_12 (tlt (x := n.toInt32) (y := xs.length.toInt32) ((n32_lt hn31 hl).mpr hlt)).2.1 rfl ?_
    refine Go.aloadN (pc' := 16) C X d12_15 rfl rfl rfl ?_
    refine Go.iloadN (pc' := 17) C X d12_16 rfl rfl ?_
    refine Go.ldB (i := n) (v := .int (xs[n]).toInt8.toInt32) (pc' := 18) C X e0 A (n32_neg hn31) (n32_nat hn31) g1 d12_17 rfl ?_
    refine Go.aloadN (pc' := 19) C X d12_18 rfl rfl rfl ?_
    refine Go.iloadN (pc' := 20) C X d12_19 rfl rfl ?_
    refine Go.ldB (i := n) (v := .int (ys[n]).toInt8.toInt32) (pc' := 21) C X e0 B (n32_neg hn31) (n32_nat hn31) g2 d12_20 rfl ?_
    by_cases hc : (xs[n]).toInt8.toInt32 = (ys[n]).toInt8.toInt32
    · refine Go.icmpYes (pc' := 26) C X d12_21 (teq hc).1 (by decide) (by decide) ?_
      refine Go.iinc (Ls' := #[.val (.ref a), .val (.ref b), .val (.int (n + 1).toInt32)]) (z := (1 : Int32)) (pc' := 29) C X d12_26 rfl rfl (by rw [n32_succ]; rfl) rfl ?_
      refine Go.goto (pc' := 9) C X d12_29 (by decide) (by decide) ?_
      refine ih (n + 1) (by omega) ?_
      have e1 : xs.take (n + 1) = xs.take n ++ [xs[n]] := by rw [List.take_add_one, List.getElem?_eq_getElem hlt]; rfl
      have e2 : ys.take (n + 1) = ys.take n ++ [ys[n]] := by rw [List.take_add_one, List.getElem?_eq_getElem hlt']; rfl
      rw [e1, e2]
      simp only [by8, List.map_append, List.map_cons, List.map_nil] at hq ⊢
      rw [hq, hc]
    · refine Go.icmpNo (pc' := 24) C X d12_21 (feq hc).1 rfl ?_
      refine KF (fun q => hc ?_) _
      rw [q, g2] at g1
      exact (Value.int.inj (Option.some.inj g1)).symm
theorem pf_12 : plainFor (⟨"java/lang/StringLatin1", "equals", "([B[B)Z"⟩ : MethodName) = true := plainFor_of_name (by first | (simp [plainName, overriddenIn]; done) | decide +kernel)
def Q_eqB (Z : State) (a : Addr) (b : Addr) (ka : ClassId) (kb : ClassId) (xs : List Int32) (ys : List Int32) (h0 : Heap) (rv : Option Value) (h : Heap) (L : List Loc) : Prop := rv = some (.int (if by8 xs = by8 ys then (1 : Int32) else 0)) ∧ L = [] ∧ h = h0
set_option maxRecDepth 65536 in
set_option maxHeartbeats 40000000 in
theorem rm_eqB (l : Launch) (Z : State) (a0 : Array Value) (hw : ∀ d ∈ tables_1, d.before a0 Z = true) (a : Addr) (b : Addr) (ka : ClassId) (kb : ClassId) (xs : List Int32) (ys : List Int32) (h0 : Heap) (O0 : Ext Z.heap h0) (A0 : AL Z h0 a ka .byte (by8 xs)) (B0 : AL Z h0 b kb .byte (by8 ys)) (hl : xs.length < 2 ^ 31) (hl2 : ys.length < 2 ^ 31) :
    Met1 l Z (⟨"java/lang/StringLatin1", "equals", "([B[B)Z"⟩ : MethodName) jdk_43_method_13_code 3 (some .boolean) ({ frames := 0, cells := 0, slots := 0, locals := 0 } : Room) #[(.ref a), (.ref b)] h0 (Q_eqB Z a b ka kb xs ys h0) := by
  refine Met1.of_body (Ls := #[.val (.ref a), .val (.ref b), .unset]) pf_12 (fun m => by first | (simp [entryFrame, mkF, argsToLocals, Value.category]; done) | rfl) ?_
  intro p e s m below meth c T0 C X0 e0
  have N0 : Fr Z.heap.size [] := Fr.nil _
  refine Go.aloadN (pc' := 1) C X0 d12_0 rfl rfl rfl ?_
  refine Go.alen (z := xs.length.toInt32) (pc' := 2) C X0 e0 A0 (by rw [by8_len]) d12_1 rfl ?_
  refine Go.aloadN (pc' := 3) C X0 d12_2 rfl rfl rfl ?_
  refine Go.alen (z := ys.length.toInt32) (pc' := 4) C X0 e0 B0 (by rw [by8_len]) d12_3 rfl ?_
  by_cases hc : xs.length = ys.length
  · refine Go.icmpNo (pc' := 7) C X0 d12_4 (teq ((n32_eq hl hl2).mpr hc)).2 rfl ?_
    refine Go.iconst (z := (0 : Int32)) (pc' := 8) C X0 d12_7 rfl rfl ?_
    refine Go.istoreN (Ls' := #[.val (.ref a), .val (.ref b), .val (.int (0 : Int32))]) (pc' := 9) C X0 d12_8 rfl rfl ?_
    refine lp_equals C hl hc.symm X0 e0 A0 B0 ?_ ?_ xs.length 0 (by omega) (by simp [by8])
    · intro hq i
      refine Go.iconst (z := (1 : Int32)) (pc' := 33) C X0 d12_32 rfl rfl ?_
      exact Go.retN C X0 rfl d12_33 (by simp) (by rw [e0]; exact ⟨by rw [if_pos hq]; rfl, rfl, rfl⟩) (by decide) (by decide)
    · intro hq i
      refine Go.iconst (z := (0 : Int32)) (pc' := 25) C X0 d12_24 rfl rfl ?_
      exact Go.retN C X0 rfl d12_25 (by simp) (by rw [e0]; exact ⟨by rw [if_neg hq]; rfl, rfl, rfl⟩) (by decide) (by decide)
  · refine Go.icmpYes (pc' := 34) C X0 d12_4 (feq (fun q => hc ((n32_eq hl hl2).mp q))).2 (by decide) (by decide) ?_
    refine Go.iconst (z := (0 : Int32)) (pc' := 35) C X0 d12_34 rfl rfl ?_
    have hq : by8 xs ≠ by8 ys := fun q => hc (by have := congrArg List.length q; simpa [by8_len] using this)
    exact Go.retN C X0 rfl d12_35 (by simp) (by rw [e0]; exact ⟨by rw [if_neg hq]; rfl, rfl, rfl⟩) (by decide) (by decide)
theorem pf_11 : plainFor (⟨"java/lang/String", "equals", "(Ljava/lang/Object;)Z"⟩ : MethodName) = true := plainFor_of_name (by first | (simp [plainName, overriddenIn]; done) | decide +kernel)
theorem d11_0 : decode jdk_42_method_66_code 0 = .ok (.aload_n 0, 1) := by decide +kernel
theorem d11_1 : decode jdk_42_method_66_code 1 = .ok (.aload_n 1, 1) := by decide +kernel
theorem d11_2 : decode jdk_42_method_66_code 2 = .ok (.if_acmp .ne 5, 3) := by decide +kernel
theorem d11_5 : decode jdk_42_method_66_code 5 = .ok (.iconst 1, 1) := by decide +kernel
theorem d11_6 : decode jdk_42_method_66_code 6 = .ok (.ireturn, 1) := by decide +kernel
def Q_eqSame (Z : State) (s1 : Addr) (h0 : Heap) (rv : Option Value) (h : Heap) (L : List Loc) : Prop := rv = some (.int (1 : Int32)) ∧ L = [] ∧ h = h0
set_option maxRecDepth 65536 in
set_option maxHeartbeats 40000000 in
theorem rm_eqSame (l : Launch) (Z : State) (a0 : Array Value) (hw : ∀ d ∈ tables_1, d.before a0 Z = true) (s1 : Addr) (h0 : Heap) (O0 : Ext Z.heap h0) :
    Met1 l Z (⟨"java/lang/String", "equals", "(Ljava/lang/Object;)Z"⟩ : MethodName) jdk_42_method_66_code 3 (some .boolean) ({ frames := 0, cells := 0, slots := 0, locals := 0 } : Room) #[(.ref s1), (.ref s1)] h0 (Q_eqSame Z s1 h0) := by
  refine Met1.of_body (Ls := #[.val (.ref s1), .val (.ref s1), .unset]) pf_11 (fun m => by first | (simp [entryFrame, mkF, argsToLocals, Value.category]; done) | rfl) ?_
  intro p e s m below meth c T0 C X0 e0
  have N0 : Fr Z.heap.size [] := Fr.nil _
  refine Go.aloadN (pc' := 1) C X0 d11_0 rfl rfl rfl ?_
  refine Go.aloadN (pc' := 2) C X0 d11_1 rfl rfl rfl ?_
  refine Go.acmpNo (pc' := 5) C X0 d11_2 rfl rfl (XT.aa_ne_f rfl) rfl ?_
  refine Go.iconst (z := (1 : Int32)) (pc' := 6) C X0 d11_5 rfl rfl ?_
  exact Go.retN C X0 rfl d11_6 (by simp) (by rw [e0]; exact ⟨rfl, rfl, rfl⟩) (by decide) (by decide)
theorem d11_7 : decode jdk_42_method_66_code 7 = .ok (.aload_n 1, 1) := by decide +kernel
theorem d11_8 : decode jdk_42_method_66_code 8 = .ok (.instanceof 10, 3) := by decide +kernel
theorem d11_11 : decode jdk_42_method_66_code 11 = .ok (.ifCond .eq 43, 3) := by decide +kernel
theorem d11_54 : decode jdk_42_method_66_code 54 = .ok (.iconst 0, 1) := by decide +kernel
theorem d11_55 : decode jdk_42_method_66_code 55 = .ok (.ireturn, 1) := by decide +kernel
def Q_eqNull (Z : State) (s1 : Addr) (h0 : Heap) (rv : Option Value) (h : Heap) (L : List Loc) : Prop := rv = some (.int (0 : Int32)) ∧ L = [] ∧ h = h0
set_option maxRecDepth 65536 in
set_option maxHeartbeats 40000000 in
theorem rm_eqNull (l : Launch) (Z : State) (a0 : Array Value) (hw : ∀ d ∈ tables_1, d.before a0 Z = true) (s1 : Addr) (h0 : Heap) (O0 : Ext Z.heap h0) :
    Met1 l Z (⟨"java/lang/String", "equals", "(Ljava/lang/Object;)Z"⟩ : MethodName) jdk_42_method_66_code 3 (some .boolean) ({ frames := 0, cells := 0, slots := 0, locals := 0 } : Room) #[(.ref s1), .null] h0 (Q_eqNull Z s1 h0) := by
  refine Met1.of_body (Ls := #[.val (.ref s1), .val .null, .unset]) pf_11 (fun m => by first | (simp [entryFrame, mkF, argsToLocals, Value.category]; done) | rfl) ?_
  intro p e s m below meth c T0 C X0 e0
  have N0 : Fr Z.heap.size [] := Fr.nil _
  refine Go.aloadN (pc' := 1) C X0 d11_0 rfl rfl rfl ?_
  refine Go.aloadN (pc' := 2) C X0 d11_1 rfl rfl rfl ?_
  refine Go.acmpYes (pc' := 7) C X0 d11_2 rfl rfl (XT.aa_ne_t nofun) (by decide) (by decide) ?_
  refine Go.aloadN (pc' := 8) C X0 d11_7 rfl rfl rfl ?_
  refine Go.instNull (pc' := 11) C X0 d11_8 rfl ?_
  refine Go.ifYes (pc' := 54) C X0 d11_11 ((if0 _ _).trans (teq (x := (0 : Int32)) (y := (0 : Int32)) (by decide)).1) (by decide) (by decide) ?_
  refine Go.iconst (z := (0 : Int32)) (pc' := 55) C X0 d11_54 rfl rfl ?_
  exact Go.retN C X0 rfl d11_55 (by simp) (by rw [e0]; exact ⟨rfl, rfl, rfl⟩) (by decide) (by decide)
theorem own_if1 {P : Prop} [Decidable P] (h : ¬ (if P then (1 : Int32) else 0) = (0 : Int32)) : some (Value.int (nar .boolean (1 : Int32))) = some (Value.int (if P then (1 : Int32) else 0)) := by
  by_cases q : P
  · rw [if_pos q]; rfl
  · rw [if_neg q] at h; exact absurd rfl h
theorem own_if0 {P : Prop} [Decidable P] (h : (if P then (1 : Int32) else 0) = (0 : Int32)) : some (Value.int (nar .boolean (0 : Int32))) = some (Value.int (if P then (1 : Int32) else 0)) := by
  rw [h]; rfl
theorem pd_4 : parseMethodDescriptor "([B[B)Z" = some ⟨[(.array .byte), (.array .byte)], some .boolean⟩ := by decide +kernel
theorem d11_14 : decode jdk_42_method_66_code 14 = .ok (.aload_n 1, 1) := by decide +kernel
theorem d11_15 : decode jdk_42_method_66_code 15 = .ok (.checkcast 10, 3) := by decide +kernel
theorem d11_18 : decode jdk_42_method_66_code 18 = .ok (.astore_n 2, 1) := by decide +kernel
theorem d11_19 : decode jdk_42_method_66_code 19 = .ok (.getstatic 38, 3) := by decide +kernel
theorem d11_22 : decode jdk_42_method_66_code 22 = .ok (.ifCond .eq 14, 3) := by decide +kernel
theorem d11_25 : decode jdk_42_method_66_code 25 = .ok (.aload_n 0, 1) := by decide +kernel
theorem d11_26 : decode jdk_42_method_66_code 26 = .ok (.getfield 15, 3) := by decide +kernel
theorem d11_29 : decode jdk_42_method_66_code 29 = .ok (.aload_n 2, 1) := by decide +kernel
theorem d11_30 : decode jdk_42_method_66_code 30 = .ok (.getfield 15, 3) := by decide +kernel
theorem d11_33 : decode jdk_42_method_66_code 33 = .ok (.if_icmp .ne 21, 3) := by decide +kernel
theorem d11_36 : decode jdk_42_method_66_code 36 = .ok (.aload_n 0, 1) := by decide +kernel
theorem d11_37 : decode jdk_42_method_66_code 37 = .ok (.getfield 9, 3) := by decide +kernel
theorem d11_40 : decode jdk_42_method_66_code 40 = .ok (.aload_n 2, 1) := by decide +kernel
theorem d11_41 : decode jdk_42_method_66_code 41 = .ok (.getfield 9, 3) := by decide +kernel
theorem d11_44 : decode jdk_42_method_66_code 44 = .ok (.invokestatic 541, 3) := by decide +kernel
theorem d11_47 : decode jdk_42_method_66_code 47 = .ok (.ifCond .eq 7, 3) := by decide +kernel
theorem d11_50 : decode jdk_42_method_66_code 50 = .ok (.iconst 1, 1) := by decide +kernel
theorem d11_51 : decode jdk_42_method_66_code 51 = .ok (.goto 4, 3) := by decide +kernel
def Q_eqS (Z : State) (s1 : Addr) (s2 : Addr) (v1 : Addr) (v2 : Addr) (k1 : ClassId) (k2 : ClassId) (xs : List Int32) (ys : List Int32) (cP : Int32) (h0 : Heap) (rv : Option Value) (h : Heap) (L : List Loc) : Prop := rv = some (.int (if by8 xs = by8 ys then (1 : Int32) else 0)) ∧ L = [] ∧ h = h0
set_option maxRecDepth 65536 in
set_option maxHeartbeats 40000000 in
theorem rm_eqS (l : Launch) (Z : State) (a0 : Array Value) (hw : ∀ d ∈ tables_1, d.before a0 Z = true) (s1 : Addr) (s2 : Addr) (v1 : Addr) (v2 : Addr) (k1 : ClassId) (k2 : ClassId) (xs : List Int32) (ys : List Int32) (cP : Int32) (h0 : Heap) (O0 : Ext Z.heap h0) (SC : Sta Z Z.heap "java/lang/String" "COMPACT_STRINGS" "Z" (.int cP)) (E1 : Exa Z h0 s1 "java/lang/String") (V1 : Fld Z h0 s1 "java/lang/String" "value" "[B" (.ref v1)) (C1 : Fld Z h0 s1 "java/lang/String" "coder" "B" (.int (0 : Int32))) (B1 : AL Z h0 v1 k1 .byte (by8 xs)) (E2 : Exa Z h0 s2 "java/lang/String") (V2 : Fld Z h0 s2 "java/lang/String" "value" "[B" (.ref v2)) (C2 : Fld Z h0 s2 "java/lang/String" "coder" "B" (.int (0 : Int32))) (B2 : AL Z h0 v2 k2 .byte (by8 ys)) (hne : s1 ≠ s2) (hP : ¬ cP = (0 : Int32)) (hl : xs.length < 2 ^ 31) (hl2 : ys.length < 2 ^ 31) :
    Met1 l Z (⟨"java/lang/String", "equals", "(Ljava/lang/Object;)Z"⟩ : MethodName) jdk_42_method_66_code 3 (some .boolean) ({ frames := 1, cells := 0, slots := 0, locals := 14 } : Room) #[(.ref s1), (.ref s2)] h0 (Q_eqS Z s1 s2 v1 v2 k1 k2 xs ys cP h0) := by
  refine Met1.of_body (Ls := #[.val (.ref s1), .val (.ref s2), .unset]) pf_11 (fun m => by first | (simp [entryFrame, mkF, argsToLocals, Value.category]; done) | rfl) ?_
  intro p e s m below meth c T0 C X0 e0
  have N0 : Fr Z.heap.size [] := Fr.nil _
  refine Go.aloadN (pc' := 1) C X0 d11_0 rfl rfl rfl ?_
  refine Go.aloadN (pc' := 2) C X0 d11_1 rfl rfl rfl ?_
  refine Go.acmpYes (pc' := 7) C X0 d11_2 rfl rfl (XT.aa_ne_t (fun q => hne (Value.ref.inj q))) (by decide) (by decide) ?_
  refine Go.aloadN (pc' := 8) C X0 d11_7 rfl rfl rfl ?_
  refine Go.instY (pc' := 11) C X0 (hw _ (List.mem_of_getElem? (i := 60) rfl)) e0 (Ins.self E2) d11_8 rfl ?_
  intro T101 X101 e101
  refine Go.ifNo (pc' := 14) C X101 d11_11 ((if0 _ _).trans (feq (x := (1 : Int32)) (y := (0 : Int32)) (by decide)).1) rfl ?_
  refine Go.aloadN (pc' := 15) C X101 d11_14 rfl rfl rfl ?_
  refine Go.castY (pc' := 18) C X101 (hw _ (List.mem_of_getElem? (i := 60) rfl)) e101 (Ins.self E2) d11_15 rfl ?_
  intro T103 X103 e103
  refine Go.astoreN (Ls' := #[.val (.ref s1), .val (.ref s2), .val (.ref s2)]) (pc' := 19) C X103 d11_18 rfl rfl rfl ?_
  refine Go.getS (pc' := 22) (host := "") C X103 (Or.inl (hw _ (List.mem_of_getElem? (i := 18) rfl))) Via.refl e103 (SC.ext O0) d11_19 rfl ?_
  intro T104 X104 e104
  refine Go.ifNo (pc' := 25) C X104 d11_22 ((if0 _ _).trans (feq (x := cP) (y := (0 : Int32)) hP).1) rfl ?_
  refine Go.aloadN (pc' := 26) C X104 d11_25 rfl rfl rfl ?_
  refine Go.getF (pc' := 29) (host := "") C X104 (Or.inl (hw _ (List.mem_of_getElem? (i := 30) rfl))) Via.refl e104 C1 d11_26 rfl ?_
  intro T106 X106 e106
  refine Go.aloadN (pc' := 30) C X106 d11_29 rfl rfl rfl ?_
  refine Go.getF (pc' := 33) (host := "") C X106 (Or.inl (hw _ (List.mem_of_getElem? (i := 30) rfl))) Via.refl e106 C2 d11_30 rfl ?_
  intro T107 X107 e107
  refine Go.icmpNo (pc' := 36) C X107 d11_33 (teq (x := (0 : Int32)) (y := (0 : Int32)) (by decide)).2 rfl ?_
  refine Go.aloadN (pc' := 37) C X107 d11_36 rfl rfl rfl ?_
  refine Go.getF (pc' := 40) (host := "") C X107 (Or.inl (hw _ (List.mem_of_getElem? (i := 32) rfl))) Via.refl e107 V1 d11_37 rfl ?_
  intro T109 X109 e109
  refine Go.aloadN (pc' := 41) C X109 d11_40 rfl rfl rfl ?_
  refine Go.getF (pc' := 44) (host := "") C X109 (Or.inl (hw _ (List.mem_of_getElem? (i := 32) rfl))) Via.refl e109 V2 d11_41 rfl ?_
  intro T110 X110 e110
  refine Go.callS (y := (⟨"java/lang/StringLatin1", "equals", "([B[B)Z"⟩ : MethodName)) (pc' := 47) C X110 (hw _ (List.mem_of_getElem? (i := 61) rfl)) (hw _ (List.mem_of_getElem? (i := 62) rfl)) (by decide) (rm_eqB l Z a0 hw v1 v2 k1 k2 xs ys h0 O0 B1 B2 hl hl2) (hw _ (List.mem_of_getElem? (i := 64) rfl)) (hw _ (List.mem_of_getElem? (i := 63) rfl)) e110 (argsL := [(.ref v1), (.ref v2)]) (rest := []) (W := 0) rfl rfl pd_4 rfl (Nat.le_of_eq rfl) rfl (by decide) (by decide) (by decide) (by decide) d11_44 rfl ?_
  intro T111 v111 L111 X111 q111
  obtain ⟨rfl, rfl, e111⟩ := q111
  have N111 := Fr.app N0 (Fr.nil _)
  by_cases hc47_112 : (if by8 xs = by8 ys then (1 : Int32) else 0) = (0 : Int32)
  · refine Go.ifYes (pc' := 54) C X111 d11_47 ((if0 _ _).trans (teq (x := (if by8 xs = by8 ys then (1 : Int32) else 0)) (y := (0 : Int32)) hc47_112).1) (by decide) (by decide) ?_
    refine Go.iconst (z := (0 : Int32)) (pc' := 55) C X111 d11_54 rfl rfl ?_
    exact Go.retN C X111 rfl d11_55 (by simp) (by rw [e111]; exact ⟨(own_if0 hc47_112), (by simp), rfl⟩) (by decide) (by decide)
  · refine Go.ifNo (pc' := 50) C X111 d11_47 ((if0 _ _).trans (feq (x := (if by8 xs = by8 ys then (1 : Int32) else 0)) (y := (0 : Int32)) hc47_112).1) rfl ?_
    refine Go.iconst (z := (1 : Int32)) (pc' := 51) C X111 d11_50 rfl rfl ?_
    refine Go.goto (pc' := 55) C X111 d11_51 (by decide) (by decide) ?_
    exact Go.retN C X111 rfl d11_55 (by simp) (by rw [e111]; exact ⟨(own_if1 hc47_112), (by simp), rfl⟩) (by decide) (by decide)
theorem own_nar255 (y : Int32) : nar .char ((y &&& (255 : Int32)).toUInt32.toUInt16.toUInt32.toInt32) = (y &&& (255 : Int32)) := by
  show ((y &&& (255 : Int32)).toUInt32.toUInt16.toUInt32.toInt32).toUInt32.toUInt16.toUInt32.toInt32 = _
  rw [i2c_mask, i2c_mask]
theorem own_255 (y : Int32) : 0 ≤ (y &&& (255 : Int32)).toInt ∧ (y &&& (255 : Int32)).toInt ≤ 255 := by
  have h := c_and y (255 : Int32) (by decide)
  simpa using h
theorem own_i2c {y : Int32} (h : 0 ≤ y.toInt ∧ y.toInt ≤ 255) : y.toUInt32.toUInt16.toUInt32.toInt32 = y := by
  have q := c_i2c y
  exact Int32.toInt_inj.mp (by omega)
theorem own_narc {y : Int32} (h : 0 ≤ y.toInt ∧ y.toInt ≤ 255) : nar .char y = y := own_i2c h
theorem own_m255 {y : Int32} (h : 0 ≤ y.toInt ∧ y.toInt ≤ 255) : (y &&& (255 : Int32)) = y := by
  have q := c_mask y (255 : Int32) 8 (by decide) (by decide)
  exact Int32.toInt_inj.mp (by omega)
theorem own_x8 (a b : Int32) : (a &&& (255 : Int32)) ^^^ (b &&& (255 : Int32)) = (a ^^^ b) &&& (255 : Int32) := by
  apply Int32.toBitVec_inj.mp
  simp only [Int32.toBitVec_xor, Int32.toBitVec_and]
  apply BitVec.eq_of_getLsbD_eq
  intro i hi
  simp only [BitVec.getLsbD_xor, BitVec.getLsbD_and]
  cases a.toBitVec.getLsbD i <;> cases b.toBitVec.getLsbD i <;> cases (255 : Int32).toBitVec.getLsbD i <;> rfl
theorem own_xr {x y : Int32} (hx : 0 ≤ x.toInt ∧ x.toInt ≤ 255) (hy : 0 ≤ y.toInt ∧ y.toInt ≤ 255) : 0 ≤ ((x ^^^ y).toUInt32.toUInt16.toUInt32.toInt32).toInt ∧ ((x ^^^ y).toUInt32.toUInt16.toUInt32.toInt32).toInt ≤ 255 := by
  have h : 0 ≤ (x ^^^ y).toInt ∧ (x ^^^ y).toInt ≤ 255 := by
    rw [← own_m255 hx, ← own_m255 hy, own_x8]; exact own_255 _
  rw [own_i2c h]; exact h
def chv (x i : Int32) : Int32 := ((x.toUInt32 >>> (((8 : Int32) * i) &&& 31).toUInt32).toInt32) &&& (255 : Int32)
theorem own_chv (x i : Int32) : 0 ≤ (chv x i).toInt ∧ (chv x i).toInt ≤ 255 := own_255 _
theorem own_b8 {x y : Int32} (hx : 0 ≤ x.toInt ∧ x.toInt ≤ 255) (hy : 0 ≤ y.toInt ∧ y.toInt ≤ 255) : x.toInt8.toInt32 = y.toInt8.toInt32 ↔ x = y := by
  refine ⟨fun h => ?_, fun h => by rw [h]⟩
  have h1 := c_i2b x
  have h2 := c_i2b y
  rw [h] at h1
  exact Int32.toInt_inj.mp (by omega)
theorem own_l3 {a0 a1 a2 c0 c1 c2 : Int32} (A0 : 0 ≤ a0.toInt ∧ a0.toInt ≤ 255) (A1 : 0 ≤ a1.toInt ∧ a1.toInt ≤ 255) (A2 : 0 ≤ a2.toInt ∧ a2.toInt ≤ 255) (C0 : 0 ≤ c0.toInt ∧ c0.toInt ≤ 255) (C1 : 0 ≤ c1.toInt ∧ c1.toInt ≤ 255) (C2 : 0 ≤ c2.toInt ∧ c2.toInt ≤ 255) : by8 [a0, a1, a2] = by8 [c0, c1, c2] ↔ (c0 = a0 ∧ c1 = a1 ∧ c2 = a2) := by
  simp only [by8, List.map_cons, List.map_nil, List.cons.injEq, Value.int.injEq, and_true, own_b8 A0 C0, own_b8 A1 C1, own_b8 A2 C2]
  exact ⟨fun ⟨h1, h2, h3⟩ => ⟨h1.symm, h2.symm, h3.symm⟩, fun ⟨h1, h2, h3⟩ => ⟨h1.symm, h2.symm, h3.symm⟩⟩
theorem own_h3 {c0 c1 c2 : Int32} (C0 : 0 ≤ c0.toInt ∧ c0.toInt ≤ 255) (C1 : 0 ≤ c1.toInt ∧ c1.toInt ≤ 255) (C2 : 0 ≤ c2.toInt ∧ c2.toInt ≤ 255) : ∀ x ∈ [c0, c1, c2], 0 ≤ x.toInt ∧ x.toInt ≤ 255 := by
  intro y hy
  simp only [List.mem_cons, List.not_mem_nil, or_false] at hy
  rcases hy with rfl | rfl | rfl <;> assumption
theorem own_h2 {c0 c1 : Int32} (C0 : 0 ≤ c0.toInt ∧ c0.toInt ≤ 255) (C1 : 0 ≤ c1.toInt ∧ c1.toInt ≤ 255) : ∀ x ∈ [c0, c1], 0 ≤ x.toInt ∧ x.toInt ≤ 255 := by
  intro y hy
  simp only [List.mem_cons, List.not_mem_nil, or_false] at hy
  rcases hy with rfl | rfl <;> assumption
theorem own_ifn {P : Prop} [Decidable P] (h : ¬ (if P then (1 : Int32) else 0) = (0 : Int32)) : P := by
  by_cases q : P
  · exact q
  · rw [if_neg q] at h; exact absurd rfl h
theorem own_ifz {P : Prop} [Decidable P] (h : (if P then (1 : Int32) else 0) = (0 : Int32)) : ¬ P := fun q => by
  rw [if_pos q] at h; exact absurd h (by decide)
theorem own_r1 {P : Prop} [Decidable P] (h : P) : some (Value.int (nar .boolean (1 : Int32))) = some (Value.int (if P then (1 : Int32) else 0)) := by rw [if_pos h]; rfl
theorem own_r0 {P : Prop} [Decidable P] (h : ¬ P) : some (Value.int (nar .boolean (0 : Int32))) = some (Value.int (if P then (1 : Int32) else 0)) := by rw [if_neg h]; rfl
theorem pf_1 : plainFor (⟨"com/example/quoteloom/quoteloom/CurrencyPairHasPinLaw", "ch", "(II)C"⟩ : MethodName) = true := plainFor_of_name (by first | (simp [plainName, overriddenIn]; done) | decide +kernel)
theorem d1_0 : decode method_2_code 0 = .ok (.iload_n 0, 1) := by decide +kernel
theorem d1_1 : decode method_2_code 1 = .ok (.bipush 8, 2) := by decide +kernel
theorem d1_3 : decode method_2_code 3 = .ok (.iload_n 1, 1) := by decide +kernel
theorem d1_4 : decode method_2_code 4 = .ok (.imul, 1) := by decide +kernel
theorem d1_5 : decode method_2_code 5 = .ok (.iushr, 1) := by decide +kernel
theorem d1_6 : decode method_2_code 6 = .ok (.sipush 255, 3) := by decide +kernel
theorem d1_9 : decode method_2_code 9 = .ok (.iand, 1) := by decide +kernel
theorem d1_10 : decode method_2_code 10 = .ok (.i2c, 1) := by decide +kernel
theorem d1_11 : decode method_2_code 11 = .ok (.ireturn, 1) := by decide +kernel
def Q_ch (Z : State) (x0 : Int32) (i0 : Int32) (h0 : Heap) (rv : Option Value) (h : Heap) (L : List Loc) : Prop := rv = some (.int (chv x0 i0)) ∧ L = [] ∧ h = h0
set_option maxRecDepth 65536 in
set_option maxHeartbeats 40000000 in
theorem rm_ch (l : Launch) (Z : State) (a0 : Array Value) (hw : ∀ d ∈ tables_1, d.before a0 Z = true) (x0 : Int32) (i0 : Int32) (h0 : Heap) (O0 : Ext Z.heap h0) :
    Met1 l Z (⟨"com/example/quoteloom/quoteloom/CurrencyPairHasPinLaw", "ch", "(II)C"⟩ : MethodName) method_2_code 2 (some .char) ({ frames := 0, cells := 0, slots := 0, locals := 0 } : Room) #[(.int x0), (.int i0)] h0 (Q_ch Z x0 i0 h0) := by
  refine Met1.of_body (Ls := #[.val (.int x0), .val (.int i0)]) pf_1 (fun m => by first | (simp [entryFrame, mkF, argsToLocals, Value.category]; done) | rfl) ?_
  intro p e s m below meth c T0 C X0 e0
  have N0 : Fr Z.heap.size [] := Fr.nil _
  refine Go.iloadN (pc' := 1) C X0 d1_0 rfl rfl ?_
  refine Go.bipush (z := (8 : Int32)) (pc' := 3) C X0 d1_1 rfl rfl ?_
  refine Go.iloadN (pc' := 4) C X0 d1_3 rfl rfl ?_
  refine Go.imul (pc' := 5) C X0 d1_4 rfl ?_
  refine Go.iushr (pc' := 6) C X0 d1_5 rfl ?_
  refine Go.sipush (z := (255 : Int32)) (pc' := 9) C X0 d1_6 rfl rfl ?_
  refine Go.iand (pc' := 10) C X0 d1_9 rfl ?_
  refine Go.i2c (pc' := 11) C X0 d1_10 rfl ?_
  exact Go.retN C X0 rfl d1_11 (by simp) (by rw [e0]; exact ⟨(congrArg (fun z => some (Value.int z)) (own_nar255 _)), rfl, rfl⟩) (by decide) (by decide)
theorem pf_9 : plainFor (⟨"java/lang/Record", "<init>", "()V"⟩ : MethodName) = true := plainFor_of_name (by first | (simp [plainName, overriddenIn]; done) | decide +kernel)
theorem d9_0 : decode jdk_30_method_1_code 0 = .ok (.aload_n 0, 1) := by decide +kernel
theorem d9_1 : decode jdk_30_method_1_code 1 = .ok (.invokespecial 1, 3) := by decide +kernel
theorem d9_4 : decode jdk_30_method_1_code 4 = .ok (.return_, 1) := by decide +kernel
def Q_rec (Z : State) (r : Addr) (h0 : Heap) (rv : Option Value) (h : Heap) (L : List Loc) : Prop := rv = none ∧ L = [] ∧ h = h0
set_option maxRecDepth 65536 in
set_option maxHeartbeats 40000000 in
theorem rm_rec (l : Launch) (Z : State) (a0 : Array Value) (hw : ∀ d ∈ tables_1, d.before a0 Z = true) (r : Addr) (h0 : Heap) (O0 : Ext Z.heap h0) :
    Met1 l Z (⟨"java/lang/Record", "<init>", "()V"⟩ : MethodName) jdk_30_method_1_code 1 none ({ frames := 1, cells := 0, slots := 0, locals := 12 } : Room) #[(.ref r)] h0 (Q_rec Z r h0) := by
  refine Met1.of_body (Ls := #[.val (.ref r)]) pf_9 (fun m => by first | (simp [entryFrame, mkF, argsToLocals, Value.category]; done) | rfl) ?_
  intro p e s m below meth c T0 C X0 e0
  have N0 : Fr Z.heap.size [] := Fr.nil _
  refine Go.aloadN (pc' := 1) C X0 d9_0 rfl rfl rfl ?_
  refine Go.initO (pc' := 4) (W := 0) C X0 (hw _ (List.mem_of_getElem? (i := 45) rfl)) (hw _ (List.mem_of_getElem? (i := 16) rfl)) (hw _ (List.mem_of_getElem? (i := 17) rfl)) e0 rfl (by decide) (Nat.le_of_eq rfl) (by decide) d9_1 rfl ?_
  intro T101 X101 e101
  exact Go.retV C X101 rfl d9_4 (by rw [e101]; exact ⟨rfl, rfl, rfl⟩) (by decide) (by decide)
theorem pd_5 : parseMethodDescriptor "()V" = some ⟨[], none⟩ := by decide +kernel
theorem pf_8 : plainFor (⟨"com/example/quoteloom/quoteloom/CurrencyPair", "<init>", "(Ljava/lang/String;Ljava/lang/String;)V"⟩ : MethodName) = true := plainFor_of_name (by first | (simp [plainName, overriddenIn]; done) | decide +kernel)
theorem d8_0 : decode prog_14_method_1_code 0 = .ok (.aload_n 0, 1) := by decide +kernel
theorem d8_1 : decode prog_14_method_1_code 1 = .ok (.invokespecial 1, 3) := by decide +kernel
theorem d8_4 : decode prog_14_method_1_code 4 = .ok (.aload_n 0, 1) := by decide +kernel
theorem d8_5 : decode prog_14_method_1_code 5 = .ok (.aload_n 1, 1) := by decide +kernel
theorem d8_6 : decode prog_14_method_1_code 6 = .ok (.putfield 7, 3) := by decide +kernel
theorem d8_9 : decode prog_14_method_1_code 9 = .ok (.aload_n 0, 1) := by decide +kernel
theorem d8_10 : decode prog_14_method_1_code 10 = .ok (.aload_n 2, 1) := by decide +kernel
theorem d8_11 : decode prog_14_method_1_code 11 = .ok (.putfield 13, 3) := by decide +kernel
theorem d8_14 : decode prog_14_method_1_code 14 = .ok (.return_, 1) := by decide +kernel
def Q_cp (Z : State) (r : Addr) (s1 : Addr) (s2 : Addr) (h0 : Heap) (rv : Option Value) (h : Heap) (L : List Loc) : Prop := rv = none ∧ Fr Z.heap.size L ∧ Keep h0 h [r] ∧ Fld Z h r "com/example/quoteloom/quoteloom/CurrencyPair" "base" "Ljava/lang/String;" (.ref s1) ∧ Fld Z h r "com/example/quoteloom/quoteloom/CurrencyPair" "quote" "Ljava/lang/String;" (.ref s2)
set_option maxRecDepth 65536 in
set_option maxHeartbeats 40000000 in
theorem rm_cp (l : Launch) (Z : State) (a0 : Array Value) (hw : ∀ d ∈ tables_1, d.before a0 Z = true) (r : Addr) (s1 : Addr) (s2 : Addr) (h0 : Heap) (O0 : Ext Z.heap h0) (E0 : Exa Z h0 r "com/example/quoteloom/quoteloom/CurrencyPair") (F1 : Fld Z h0 r "com/example/quoteloom/quoteloom/CurrencyPair" "base" "Ljava/lang/String;" .null) (F2 : Fld Z h0 r "com/example/quoteloom/quoteloom/CurrencyPair" "quote" "Ljava/lang/String;" .null) (hn : Z.heap.size ≤ r) :
    Met1 l Z (⟨"com/example/quoteloom/quoteloom/CurrencyPair", "<init>", "(Ljava/lang/String;Ljava/lang/String;)V"⟩ : MethodName) prog_14_method_1_code 3 none ({ frames := 2, cells := 0, slots := 0, locals := 24 } : Room) #[(.ref r), (.ref s1), (.ref s2)] h0 (Q_cp Z r s1 s2 h0) := by
  refine Met1.of_body (Ls := #[.val (.ref r), .val (.ref s1), .val (.ref s2)]) pf_8 (fun m => by first | (simp [entryFrame, mkF, argsToLocals, Value.category]; done) | rfl) ?_
  intro p e s m below meth c T0 C X0 e0
  have N0 : Fr Z.heap.size [] := Fr.nil _
  refine Go.aloadN (pc' := 1) C X0 d8_0 rfl rfl rfl ?_
  refine Go.callI (y := (⟨"java/lang/Record", "<init>", "()V"⟩ : MethodName)) (a := r) (pc' := 4) C X0 rfl (hw _ (List.mem_of_getElem? (i := 40) rfl)) (hw _ (List.mem_of_getElem? (i := 41) rfl)) (by decide) (rm_rec l Z a0 hw r h0 O0 ) (hw _ (List.mem_of_getElem? (i := 44) rfl)) (hw _ (List.mem_of_getElem? (i := 43) rfl)) e0 (argsL := []) (rest := []) (W := 0) rfl rfl pd_5 rfl (Nat.le_of_eq rfl) rfl (by decide) (by decide) (by decide) (by decide) rfl d8_1 rfl ?_
  intro T101 v101 L101 X101 q101
  obtain ⟨rfl, rfl, e101⟩ := q101
  have N101 := Fr.app N0 (Fr.nil _)
  refine Go.aloadN (pc' := 5) C X101 d8_4 rfl rfl rfl ?_
  refine Go.aloadN (pc' := 6) C X101 d8_5 rfl rfl rfl ?_
  refine Go.putF (pc' := 9) (host := "") (ty := (.object "java/lang/String")) C X101 (Or.inl (hw _ (List.mem_of_getElem? (i := 46) rfl))) Via.refl e101 F1 E0 (Or.inr ⟨(hw _ (List.mem_of_getElem? (i := 47) rfl)), rfl, rfl⟩) (hw _ (List.mem_of_getElem? (i := 35) rfl)) (by decide) rfl rfl d8_6 rfl ?_
  intro T102 h102 X102 e102 W102 F102
  have N102 := Fr.snoc X102 N101 hn
  refine Go.aloadN (pc' := 10) C X102 d8_9 rfl rfl rfl ?_
  refine Go.aloadN (pc' := 11) C X102 d8_10 rfl rfl rfl ?_
  have c104 : Fld Z h102 r "com/example/quoteloom/quoteloom/CurrencyPair" "quote" "Ljava/lang/String;" .null := (Fld.other W102 F2 (Or.inr (slot_ne (Or.inr (hw _ (List.mem_of_getElem? (i := 49) rfl))) (Or.inr (hw _ (List.mem_of_getElem? (i := 47) rfl))) (by decide) (t := (.object "java/lang/String")) (t' := (.object "java/lang/String")) (by decide) (by decide))))
  have c105 : Exa Z h102 r "com/example/quoteloom/quoteloom/CurrencyPair" := (Exa.wr W102 E0)
  refine Go.putF (pc' := 14) (host := "") (ty := (.object "java/lang/String")) C X102 (Or.inl (hw _ (List.mem_of_getElem? (i := 48) rfl))) Via.refl e102 c104 c105 (Or.inr ⟨(hw _ (List.mem_of_getElem? (i := 49) rfl)), rfl, rfl⟩) (hw _ (List.mem_of_getElem? (i := 35) rfl)) (by decide) rfl rfl d8_11 rfl ?_
  intro T103 h103 X103 e103 W103 F103
  have N103 := Fr.snoc X103 N102 hn
  have K106 : Keep h0 h103 [r] := (((Keep.refl h0 [r]).wr W102 (Or.inl (by simp))).wr W103 (Or.inl (by simp)))
  have c107 : Fld Z h103 r "com/example/quoteloom/quoteloom/CurrencyPair" "base" "Ljava/lang/String;" (.ref s1) := (Fld.other W103 F102 (Or.inr (slot_ne (Or.inr (hw _ (List.mem_of_getElem? (i := 47) rfl))) (Or.inr (hw _ (List.mem_of_getElem? (i := 49) rfl))) (by decide) (t := (.object "java/lang/String")) (t' := (.object "java/lang/String")) (by decide) (by decide))))
  exact Go.retV C X103 rfl d8_14 (by rw [e103]; exact ⟨rfl, N103, K106, c107, F103⟩) (by decide) (by decide)
theorem pd_6 : parseMethodDescriptor "(Ljava/lang/Object;)Z" = some ⟨[(.object "java/lang/Object")], some .boolean⟩ := by decide +kernel
theorem pf_10 : plainFor (⟨"com/example/quoteloom/quoteloom/CurrencyPair", "has", "(Ljava/lang/String;)Z"⟩ : MethodName) = true := plainFor_of_name (by first | (simp [plainName, overriddenIn]; done) | decide +kernel)
theorem d10_0 : decode prog_14_method_9_code 0 = .ok (.aload_n 0, 1) := by decide +kernel
theorem d10_1 : decode prog_14_method_9_code 1 = .ok (.getfield 7, 3) := by decide +kernel
theorem d10_4 : decode prog_14_method_9_code 4 = .ok (.aload_n 1, 1) := by decide +kernel
theorem d10_5 : decode prog_14_method_9_code 5 = .ok (.invokevirtual 50, 3) := by decide +kernel
theorem d10_8 : decode prog_14_method_9_code 8 = .ok (.ifCond .ne 14, 3) := by decide +kernel
theorem d10_11 : decode prog_14_method_9_code 11 = .ok (.aload_n 0, 1) := by decide +kernel
theorem d10_12 : decode prog_14_method_9_code 12 = .ok (.getfield 13, 3) := by decide +kernel
theorem d10_15 : decode prog_14_method_9_code 15 = .ok (.aload_n 1, 1) := by decide +kernel
theorem d10_16 : decode prog_14_method_9_code 16 = .ok (.invokevirtual 50, 3) := by decide +kernel
theorem d10_19 : decode prog_14_method_9_code 19 = .ok (.ifCond .eq 7, 3) := by decide +kernel
theorem d10_26 : decode prog_14_method_9_code 26 = .ok (.iconst 0, 1) := by decide +kernel
theorem d10_27 : decode prog_14_method_9_code 27 = .ok (.ireturn, 1) := by decide +kernel
def Q_hasN (Z : State) (r : Addr) (s1 : Addr) (s2 : Addr) (h0 : Heap) (rv : Option Value) (h : Heap) (L : List Loc) : Prop := rv = some (.int (0 : Int32)) ∧ L = [] ∧ h = h0
set_option maxRecDepth 65536 in
set_option maxHeartbeats 40000000 in
theorem rm_hasN (l : Launch) (Z : State) (a0 : Array Value) (hw : ∀ d ∈ tables_1, d.before a0 Z = true) (r : Addr) (s1 : Addr) (s2 : Addr) (h0 : Heap) (O0 : Ext Z.heap h0) (F1 : Fld Z h0 r "com/example/quoteloom/quoteloom/CurrencyPair" "base" "Ljava/lang/String;" (.ref s1)) (F2 : Fld Z h0 r "com/example/quoteloom/quoteloom/CurrencyPair" "quote" "Ljava/lang/String;" (.ref s2)) (E1 : Exa Z h0 s1 "java/lang/String") (E2 : Exa Z h0 s2 "java/lang/String") :
    Met1 l Z (⟨"com/example/quoteloom/quoteloom/CurrencyPair", "has", "(Ljava/lang/String;)Z"⟩ : MethodName) prog_14_method_9_code 2 (some .boolean) ({ frames := 1, cells := 0, slots := 0, locals := 14 } : Room) #[(.ref r), .null] h0 (Q_hasN Z r s1 s2 h0) := by
  refine Met1.of_body (Ls := #[.val (.ref r), .val .null]) pf_10 (fun m => by first | (simp [entryFrame, mkF, argsToLocals, Value.category]; done) | rfl) ?_
  intro p e s m below meth c T0 C X0 e0
  have N0 : Fr Z.heap.size [] := Fr.nil _
  refine Go.aloadN (pc' := 1) C X0 d10_0 rfl rfl rfl ?_
  refine Go.getF (pc' := 4) (host := "") C X0 (Or.inl (hw _ (List.mem_of_getElem? (i := 46) rfl))) Via.refl e0 F1 d10_1 rfl ?_
  intro T101 X101 e101
  refine Go.aloadN (pc' := 5) C X101 d10_4 rfl rfl rfl ?_
  refine Go.callV (y := (⟨"java/lang/String", "equals", "(Ljava/lang/Object;)Z"⟩ : MethodName)) (z := (⟨"java/lang/String", "equals", "(Ljava/lang/Object;)Z"⟩ : MethodName)) (a := s1) (pc' := 8) C X101 (hw _ (List.mem_of_getElem? (i := 55) rfl)) (hw _ (List.mem_of_getElem? (i := 56) rfl)) (notFace_at C.2.1 (hw _ (List.mem_of_getElem? (i := 58) rfl))) (hw _ (List.mem_of_getElem? (i := 58) rfl)) (hw _ (List.mem_of_getElem? (i := 57) rfl)) E1 (by decide) (rm_eqNull l Z a0 hw s1 h0 O0 ) (hw _ (List.mem_of_getElem? (i := 59) rfl)) (hw _ (List.mem_of_getElem? (i := 6) rfl)) e101 (argsL := [.null]) (rest := []) (W := 0) rfl rfl pd_6 rfl (Nat.le_of_eq rfl) rfl (by decide) (by decide) (by decide) (by decide) d10_5 rfl ?_
  intro T102 v102 L102 X102 q102
  obtain ⟨rfl, rfl, e102⟩ := q102
  have N102 := Fr.app N0 (Fr.nil _)
  refine Go.ifNo (pc' := 11) C X102 d10_8 ((if0 _ _).trans (teq (x := (0 : Int32)) (y := (0 : Int32)) (by decide)).2) rfl ?_
  refine Go.aloadN (pc' := 12) C X102 d10_11 rfl rfl rfl ?_
  refine Go.getF (pc' := 15) (host := "") C X102 (Or.inl (hw _ (List.mem_of_getElem? (i := 48) rfl))) Via.refl e102 F2 d10_12 rfl ?_
  intro T104 X104 e104
  refine Go.aloadN (pc' := 16) C X104 d10_15 rfl rfl rfl ?_
  refine Go.callV (y := (⟨"java/lang/String", "equals", "(Ljava/lang/Object;)Z"⟩ : MethodName)) (z := (⟨"java/lang/String", "equals", "(Ljava/lang/Object;)Z"⟩ : MethodName)) (a := s2) (pc' := 19) C X104 (hw _ (List.mem_of_getElem? (i := 55) rfl)) (hw _ (List.mem_of_getElem? (i := 56) rfl)) (notFace_at C.2.1 (hw _ (List.mem_of_getElem? (i := 58) rfl))) (hw _ (List.mem_of_getElem? (i := 58) rfl)) (hw _ (List.mem_of_getElem? (i := 57) rfl)) E2 (by decide) (rm_eqNull l Z a0 hw s2 h0 O0 ) (hw _ (List.mem_of_getElem? (i := 59) rfl)) (hw _ (List.mem_of_getElem? (i := 6) rfl)) e104 (argsL := [.null]) (rest := []) (W := 0) rfl rfl pd_6 rfl (Nat.le_of_eq rfl) rfl (by decide) (by decide) (by decide) (by decide) d10_16 rfl ?_
  intro T105 v105 L105 X105 q105
  obtain ⟨rfl, rfl, e105⟩ := q105
  have N105 := Fr.app N102 (Fr.nil _)
  refine Go.ifYes (pc' := 26) C X105 d10_19 ((if0 _ _).trans (teq (x := (0 : Int32)) (y := (0 : Int32)) (by decide)).1) (by decide) (by decide) ?_
  refine Go.iconst (z := (0 : Int32)) (pc' := 27) C X105 d10_26 rfl rfl ?_
  exact Go.retN C X105 rfl d10_27 (by simp) (by rw [e105]; exact ⟨rfl, (by simp), rfl⟩) (by decide) (by decide)
theorem d10_22 : decode prog_14_method_9_code 22 = .ok (.iconst 1, 1) := by decide +kernel
theorem d10_23 : decode prog_14_method_9_code 23 = .ok (.goto 4, 3) := by decide +kernel
def Q_hasS (Z : State) (r : Addr) (s1 : Addr) (s2 : Addr) (s3 : Addr) (v1 : Addr) (v2 : Addr) (v3 : Addr) (k1 : ClassId) (k2 : ClassId) (k3 : ClassId) (xs : List Int32) (ys : List Int32) (zs : List Int32) (cP : Int32) (h0 : Heap) (rv : Option Value) (h : Heap) (L : List Loc) : Prop := rv = some (.int (if by8 xs = by8 zs ∨ by8 ys = by8 zs then (1 : Int32) else 0)) ∧ L = [] ∧ h = h0
set_option maxRecDepth 65536 in
set_option maxHeartbeats 40000000 in
theorem rm_hasS (l : Launch) (Z : State) (a0 : Array Value) (hw : ∀ d ∈ tables_1, d.before a0 Z = true) (r : Addr) (s1 : Addr) (s2 : Addr) (s3 : Addr) (v1 : Addr) (v2 : Addr) (v3 : Addr) (k1 : ClassId) (k2 : ClassId) (k3 : ClassId) (xs : List Int32) (ys : List Int32) (zs : List Int32) (cP : Int32) (h0 : Heap) (O0 : Ext Z.heap h0) (F1 : Fld Z h0 r "com/example/quoteloom/quoteloom/CurrencyPair" "base" "Ljava/lang/String;" (.ref s1)) (F2 : Fld Z h0 r "com/example/quoteloom/quoteloom/CurrencyPair" "quote" "Ljava/lang/String;" (.ref s2)) (SC : Sta Z Z.heap "java/lang/String" "COMPACT_STRINGS" "Z" (.int cP)) (E1 : Exa Z h0 s1 "java/lang/String") (V1 : Fld Z h0 s1 "java/lang/String" "value" "[B" (.ref v1)) (C1 : Fld Z h0 s1 "java/lang/String" "coder" "B" (.int (0 : Int32))) (B1 : AL Z h0 v1 k1 .byte (by8 xs)) (E2 : Exa Z h0 s2 "java/lang/String") (V2 : Fld Z h0 s2 "java/lang/String" "value" "[B" (.ref v2)) (C2 : Fld Z h0 s2 "java/lang/String" "coder" "B" (.int (0 : Int32))) (B2 : AL Z h0 v2 k2 .byte (by8 ys)) (E3 : Exa Z h0 s3 "java/lang/String") (V3 : Fld Z h0 s3 "java/lang/String" "value" "[B" (.ref v3)) (C3 : Fld Z h0 s3 "java/lang/String" "coder" "B" (.int (0 : Int32))) (B3 : AL Z h0 v3 k3 .byte (by8 zs)) (n13 : s1 ≠ s3) (n23 : s2 ≠ s3) (hP : ¬ cP = (0 : Int32)) (l1 : xs.length < 2 ^ 31) (l2 : ys.length < 2 ^ 31) (l3 : zs.length < 2 ^ 31) :
    Met1 l Z (⟨"com/example/quoteloom/quoteloom/CurrencyPair", "has", "(Ljava/lang/String;)Z"⟩ : MethodName) prog_14_method_9_code 2 (some .boolean) ({ frames := 2, cells := 0, slots := 0, locals := 28 } : Room) #[(.ref r), (.ref s3)] h0 (Q_hasS Z r s1 s2 s3 v1 v2 v3 k1 k2 k3 xs ys zs cP h0) := by
  refine Met1.of_body (Ls := #[.val (.ref r), .val (.ref s3)]) pf_10 (fun m => by first | (simp [entryFrame, mkF, argsToLocals, Value.category]; done) | rfl) ?_
  intro p e s m below meth c T0 C X0 e0
  have N0 : Fr Z.heap.size [] := Fr.nil _
  refine Go.aloadN (pc' := 1) C X0 d10_0 rfl rfl rfl ?_
  refine Go.getF (pc' := 4) (host := "") C X0 (Or.inl (hw _ (List.mem_of_getElem? (i := 46) rfl))) Via.refl e0 F1 d10_1 rfl ?_
  intro T101 X101 e101
  refine Go.aloadN (pc' := 5) C X101 d10_4 rfl rfl rfl ?_
  refine Go.callV (y := (⟨"java/lang/String", "equals", "(Ljava/lang/Object;)Z"⟩ : MethodName)) (z := (⟨"java/lang/String", "equals", "(Ljava/lang/Object;)Z"⟩ : MethodName)) (a := s1) (pc' := 8) C X101 (hw _ (List.mem_of_getElem? (i := 55) rfl)) (hw _ (List.mem_of_getElem? (i := 56) rfl)) (notFace_at C.2.1 (hw _ (List.mem_of_getElem? (i := 58) rfl))) (hw _ (List.mem_of_getElem? (i := 58) rfl)) (hw _ (List.mem_of_getElem? (i := 57) rfl)) E1 (by decide) (rm_eqS l Z a0 hw s1 s3 v1 v3 k1 k3 xs zs cP h0 O0 SC E1 V1 C1 B1 E3 V3 C3 B3 n13 hP l1 l3) (hw _ (List.mem_of_getElem? (i := 59) rfl)) (hw _ (List.mem_of_getElem? (i := 6) rfl)) e101 (argsL := [(.ref s3)]) (rest := []) (W := 0) rfl rfl pd_6 rfl (Nat.le_of_eq rfl) rfl (by decide) (by decide) (by decide) (by decide) d10_5 rfl ?_
  intro T102 v102 L102 X102 q102
  obtain ⟨rfl, rfl, e102⟩ := q102
  have N102 := Fr.app N0 (Fr.nil _)
  by_cases hc8_103 : (if by8 xs = by8 zs then (1 : Int32) else 0) = (0 : Int32)
  · refine Go.ifNo (pc' := 11) C X102 d10_8 ((if0 _ _).trans (teq (x := (if by8 xs = by8 zs then (1 : Int32) else 0)) (y := (0 : Int32)) hc8_103).2) rfl ?_
    refine Go.aloadN (pc' := 12) C X102 d10_11 rfl rfl rfl ?_
    refine Go.getF (pc' := 15) (host := "") C X102 (Or.inl (hw _ (List.mem_of_getElem? (i := 48) rfl))) Via.refl e102 F2 d10_12 rfl ?_
    intro T104 X104 e104
    refine Go.aloadN (pc' := 16) C X104 d10_15 rfl rfl rfl ?_
    refine Go.callV (y := (⟨"java/lang/String", "equals", "(Ljava/lang/Object;)Z"⟩ : MethodName)) (z := (⟨"java/lang/String", "equals", "(Ljava/lang/Object;)Z"⟩ : MethodName)) (a := s2) (pc' := 19) C X104 (hw _ (List.mem_of_getElem? (i := 55) rfl)) (hw _ (List.mem_of_getElem? (i := 56) rfl)) (notFace_at C.2.1 (hw _ (List.mem_of_getElem? (i := 58) rfl))) (hw _ (List.mem_of_getElem? (i := 58) rfl)) (hw _ (List.mem_of_getElem? (i := 57) rfl)) E2 (by decide) (rm_eqS l Z a0 hw s2 s3 v2 v3 k2 k3 ys zs cP h0 O0 SC E2 V2 C2 B2 E3 V3 C3 B3 n23 hP l2 l3) (hw _ (List.mem_of_getElem? (i := 59) rfl)) (hw _ (List.mem_of_getElem? (i := 6) rfl)) e104 (argsL := [(.ref s3)]) (rest := []) (W := 0) rfl rfl pd_6 rfl (Nat.le_of_eq rfl) rfl (by decide) (by decide) (by decide) (by decide) d10_16 rfl ?_
    intro T105 v105 L105 X105 q105
    obtain ⟨rfl, rfl, e105⟩ := q105
    have N105 := Fr.app N102 (Fr.nil _)
    by_cases hc19_106 : (if by8 ys = by8 zs then (1 : Int32) else 0) = (0 : Int32)
    · refine Go.ifYes (pc' := 26) C X105 d10_19 ((if0 _ _).trans (teq (x := (if by8 ys = by8 zs then (1 : Int32) else 0)) (y := (0 : Int32)) hc19_106).1) (by decide) (by decide) ?_
      refine Go.iconst (z := (0 : Int32)) (pc' := 27) C X105 d10_26 rfl rfl ?_
      exact Go.retN C X105 rfl d10_27 (by simp) (by rw [e105]; exact ⟨(own_r0 (fun q => q.elim (own_ifz hc8_103) (own_ifz hc19_106))), (by simp), rfl⟩) (by decide) (by decide)
    · refine Go.ifNo (pc' := 22) C X105 d10_19 ((if0 _ _).trans (feq (x := (if by8 ys = by8 zs then (1 : Int32) else 0)) (y := (0 : Int32)) hc19_106).1) rfl ?_
      refine Go.iconst (z := (1 : Int32)) (pc' := 23) C X105 d10_22 rfl rfl ?_
      refine Go.goto (pc' := 27) C X105 d10_23 (by decide) (by decide) ?_
      exact Go.retN C X105 rfl d10_27 (by simp) (by rw [e105]; exact ⟨(own_r1 (Or.inr (own_ifn hc19_106))), (by simp), rfl⟩) (by decide) (by decide)
  · refine Go.ifYes (pc' := 22) C X102 d10_8 ((if0 _ _).trans (feq (x := (if by8 xs = by8 zs then (1 : Int32) else 0)) (y := (0 : Int32)) hc8_103).2) (by decide) (by decide) ?_
    refine Go.iconst (z := (1 : Int32)) (pc' := 23) C X102 d10_22 rfl rfl ?_
    refine Go.goto (pc' := 27) C X102 d10_23 (by decide) (by decide) ?_
    exact Go.retN C X102 rfl d10_27 (by simp) (by rw [e102]; exact ⟨(own_r1 (Or.inl (own_ifn hc8_103))), (by simp), rfl⟩) (by decide) (by decide)
theorem pd_7 : parseMethodDescriptor "(II)C" = some ⟨[.int, .int], some .char⟩ := by decide +kernel
theorem pd_8 : parseMethodDescriptor "([C)V" = some ⟨[(.array .char)], none⟩ := by decide +kernel
theorem pd_9 : parseMethodDescriptor "(Ljava/lang/String;Ljava/lang/String;)V" = some ⟨[(.object "java/lang/String"), (.object "java/lang/String")], none⟩ := by decide +kernel
theorem pd_10 : parseMethodDescriptor "(Ljava/lang/String;)Z" = some ⟨[(.object "java/lang/String")], some .boolean⟩ := by decide +kernel
theorem pf_0 : plainFor x = true := plainFor_of_name (by first | (simp [plainName, overriddenIn, x]; done) | decide +kernel)
def Q_law (Z : State) (p1 : Int32) (p2 : Int32) (p3 : Int32) (p4 : Int32) (cP : Int32) (h0 : Heap) (rv : Option Value) (h : Heap) (L : List Loc) : Prop := rv = some (.int (1 : Int32)) ∧ Fr Z.heap.size L ∧ Keep h0 h []
set_option maxRecDepth 65536 in
set_option maxHeartbeats 40000000 in
theorem rm_law (l : Launch) (Z : State) (a0 : Array Value) (hw : ∀ d ∈ tables_1, d.before a0 Z = true) (p1 : Int32) (p2 : Int32) (p3 : Int32) (p4 : Int32) (cP : Int32) (h0 : Heap) (O0 : Ext Z.heap h0) (SC : Sta Z Z.heap "java/lang/String" "COMPACT_STRINGS" "Z" (.int cP)) (hP : ¬ cP = (0 : Int32)) :
    Met1 l Z x code maxLocals ret room_1 #[(.int p1), (.int p2), (.int p3), (.int p4)] h0 (Q_law Z p1 p2 p3 p4 cP h0) := by
  refine Met1.of_body (Ls := #[.val (.int p1), .val (.int p2), .val (.int p3), .val (.int p4), .unset, .unset, .unset, .unset, .unset, .unset, .unset, .unset, .unset, .unset, .unset, .unset, .unset, .unset]) pf_0 (fun m => by first | (simp [entryFrame, mkF, argsToLocals, Value.category, maxLocals]; done) | rfl) ?_
  intro p e s m below meth c T0 C X0 e0
  have N0 : Fr Z.heap.size [] := Fr.nil _
  refine Go.iloadN (pc' := 1) C X0 at_0 rfl rfl ?_
  refine Go.iconst (z := (3 : Int32)) (pc' := 2) C X0 at_1 rfl rfl ?_
  refine Go.iand (pc' := 3) C X0 at_2 rfl ?_
  have K27 : ∀ (T101 : State) (L101 : List Loc), Stand p l e room_1 s m #[(.int p1), (.int p2), (.int p3), (.int p4)] below meth c T101 L101 0 0 → T101.heap = h0 → Fr Z.heap.size L101 → ∀ (src : Int32), Go p e below (Fn s room_1.cells room_1.slots (Q_law Z p1 p2 p3 p4 cP h0)) T101 (mkF m 27 #[.val (.int p1), .val (.int p2), .val (.int p3), .val (.int p4), .val (.int (p4 &&& (3 : Int32))), .val (.int src), .unset, .unset, .unset, .unset, .unset, .unset, .unset, .unset, .unset, .unset, .unset, .unset] []) := by
    intro T101 L101 X101 e101 N101 src
    refine Go.iloadN (pc' := 28) C X101 at_27 rfl rfl ?_
    refine Go.iconst (z := (2 : Int32)) (pc' := 29) C X101 at_28 rfl rfl ?_
    refine Go.iushr (pc' := 30) C X101 at_29 rfl ?_
    refine Go.iconst (z := (3 : Int32)) (pc' := 31) C X101 at_30 rfl rfl ?_
    refine Go.iand (pc' := 32) C X101 at_31 rfl ?_
    refine Go.istore (Ls' := #[.val (.int p1), .val (.int p2), .val (.int p3), .val (.int p4), .val (.int (p4 &&& (3 : Int32))), .val (.int src), .val (.int (((p4.toUInt32 >>> ((2 : Int32) &&& 31).toUInt32).toInt32) &&& (3 : Int32))), .unset, .unset, .unset, .unset, .unset, .unset, .unset, .unset, .unset, .unset, .unset]) (pc' := 34) C X101 at_32 rfl rfl ?_
    refine Go.iloadN (pc' := 35) C X101 at_34 rfl rfl ?_
    refine Go.iconst (z := (4 : Int32)) (pc' := 36) C X101 at_35 rfl rfl ?_
    refine Go.iushr (pc' := 37) C X101 at_36 rfl ?_
    refine Go.sipush (z := (255 : Int32)) (pc' := 40) C X101 at_37 rfl rfl ?_
    refine Go.iand (pc' := 41) C X101 at_40 rfl ?_
    refine Go.istore (Ls' := #[.val (.int p1), .val (.int p2), .val (.int p3), .val (.int p4), .val (.int (p4 &&& (3 : Int32))), .val (.int src), .val (.int (((p4.toUInt32 >>> ((2 : Int32) &&& 31).toUInt32).toInt32) &&& (3 : Int32))), .val (.int (((p4.toUInt32 >>> ((4 : Int32) &&& 31).toUInt32).toInt32) &&& (255 : Int32))), .unset, .unset, .unset, .unset, .unset, .unset, .unset, .unset, .unset, .unset]) (pc' := 43) C X101 at_41 rfl rfl ?_
    refine Go.iload (pc' := 45) C X101 at_43 rfl rfl ?_
    refine Go.iconst (z := (0 : Int32)) (pc' := 46) C X101 at_45 rfl rfl ?_
    refine Go.callS (y := (⟨"com/example/quoteloom/quoteloom/CurrencyPairHasPinLaw", "ch", "(II)C"⟩ : MethodName)) (pc' := 49) C X101 (hw _ (List.mem_of_getElem? (i := 0) rfl)) (hw _ (List.mem_of_getElem? (i := 1) rfl)) (by decide) (rm_ch l Z a0 hw src ((0 : Int32)) h0 O0 ) (hw _ (List.mem_of_getElem? (i := 3) rfl)) (hw _ (List.mem_of_getElem? (i := 2) rfl)) e101 (argsL := [(.int src), (.int (0 : Int32))]) (rest := []) (W := 0) rfl rfl pd_7 rfl (Nat.le_of_eq rfl) rfl (by decide) (by decide) (by decide) (by decide) at_46 rfl ?_
    intro T102 v102 L102 X102 q102
    obtain ⟨rfl, rfl, e102⟩ := q102
    have N102 := Fr.app N101 (Fr.nil _)
    refine Go.istore (Ls' := #[.val (.int p1), .val (.int p2), .val (.int p3), .val (.int p4), .val (.int (p4 &&& (3 : Int32))), .val (.int src), .val (.int (((p4.toUInt32 >>> ((2 : Int32) &&& 31).toUInt32).toInt32) &&& (3 : Int32))), .val (.int (((p4.toUInt32 >>> ((4 : Int32) &&& 31).toUInt32).toInt32) &&& (255 : Int32))), .val (.int (chv src (0 : Int32))), .unset, .unset, .unset, .unset, .unset, .unset, .unset, .unset, .unset]) (pc' := 51) C X102 at_49 rfl rfl ?_
    refine Go.iload (pc' := 53) C X102 at_51 rfl rfl ?_
    refine Go.iconst (z := (1 : Int32)) (pc' := 54) C X102 at_53 rfl rfl ?_
    refine Go.callS (y := (⟨"com/example/quoteloom/quoteloom/CurrencyPairHasPinLaw", "ch", "(II)C"⟩ : MethodName)) (pc' := 57) C X102 (hw _ (List.mem_of_getElem? (i := 0) rfl)) (hw _ (List.mem_of_getElem? (i := 1) rfl)) (by decide) (rm_ch l Z a0 hw src ((1 : Int32)) h0 O0 ) (hw _ (List.mem_of_getElem? (i := 3) rfl)) (hw _ (List.mem_of_getElem? (i := 2) rfl)) e102 (argsL := [(.int src), (.int (1 : Int32))]) (rest := []) (W := 0) rfl rfl pd_7 rfl (Nat.le_of_eq rfl) rfl (by decide) (by decide) (by decide) (by decide) at_54 rfl ?_
    intro T103 v103 L103 X103 q103
    obtain ⟨rfl, rfl, e103⟩ := q103
    have N103 := Fr.app N102 (Fr.nil _)
    refine Go.istore (Ls' := #[.val (.int p1), .val (.int p2), .val (.int p3), .val (.int p4), .val (.int (p4 &&& (3 : Int32))), .val (.int src), .val (.int (((p4.toUInt32 >>> ((2 : Int32) &&& 31).toUInt32).toInt32) &&& (3 : Int32))), .val (.int (((p4.toUInt32 >>> ((4 : Int32) &&& 31).toUInt32).toInt32) &&& (255 : Int32))), .val (.int (chv src (0 : Int32))), .val (.int (chv src (1 : Int32))), .unset, .unset, .unset, .unset, .unset, .unset, .unset, .unset]) (pc' := 59) C X103 at_57 rfl rfl ?_
    refine Go.iload (pc' := 61) C X103 at_59 rfl rfl ?_
    refine Go.iconst (z := (2 : Int32)) (pc' := 62) C X103 at_61 rfl rfl ?_
    refine Go.callS (y := (⟨"com/example/quoteloom/quoteloom/CurrencyPairHasPinLaw", "ch", "(II)C"⟩ : MethodName)) (pc' := 65) C X103 (hw _ (List.mem_of_getElem? (i := 0) rfl)) (hw _ (List.mem_of_getElem? (i := 1) rfl)) (by decide) (rm_ch l Z a0 hw src ((2 : Int32)) h0 O0 ) (hw _ (List.mem_of_getElem? (i := 3) rfl)) (hw _ (List.mem_of_getElem? (i := 2) rfl)) e103 (argsL := [(.int src), (.int (2 : Int32))]) (rest := []) (W := 0) rfl rfl pd_7 rfl (Nat.le_of_eq rfl) rfl (by decide) (by decide) (by decide) (by decide) at_62 rfl ?_
    intro T104 v104 L104 X104 q104
    obtain ⟨rfl, rfl, e104⟩ := q104
    have N104 := Fr.app N103 (Fr.nil _)
    refine Go.istore (Ls' := #[.val (.int p1), .val (.int p2), .val (.int p3), .val (.int p4), .val (.int (p4 &&& (3 : Int32))), .val (.int src), .val (.int (((p4.toUInt32 >>> ((2 : Int32) &&& 31).toUInt32).toInt32) &&& (3 : Int32))), .val (.int (((p4.toUInt32 >>> ((4 : Int32) &&& 31).toUInt32).toInt32) &&& (255 : Int32))), .val (.int (chv src (0 : Int32))), .val (.int (chv src (1 : Int32))), .val (.int (chv src (2 : Int32))), .unset, .unset, .unset, .unset, .unset, .unset, .unset]) (pc' := 67) C X104 at_65 rfl rfl ?_
    have K114 : ∀ (T105 : State) (L105 : List Loc), Stand p l e room_1 s m #[(.int p1), (.int p2), (.int p3), (.int p4)] below meth c T105 L105 0 0 → T105.heap = h0 → Fr Z.heap.size L105 → ∀ (c0 : Int32) (c1 : Int32) (c2 : Int32), (0 ≤ c0.toInt ∧ c0.toInt ≤ 255) → (0 ≤ c1.toInt ∧ c1.toInt ≤ 255) → (0 ≤ c2.toInt ∧ c2.toInt ≤ 255) → Go p e below (Fn s room_1.cells room_1.slots (Q_law Z p1 p2 p3 p4 cP h0)) T105 (mkF m 114 #[.val (.int p1), .val (.int p2), .val (.int p3), .val (.int p4), .val (.int (p4 &&& (3 : Int32))), .val (.int src), .val (.int (((p4.toUInt32 >>> ((2 : Int32) &&& 31).toUInt32).toInt32) &&& (3 : Int32))), .val (.int (((p4.toUInt32 >>> ((4 : Int32) &&& 31).toUInt32).toInt32) &&& (255 : Int32))), .val (.int c0), .val (.int c1), .val (.int c2), .unset, .unset, .unset, .unset, .unset, .unset, .unset] []) := by
      intro T105 L105 X105 e105 N105 c0 c1 c2 rc0 rc1 rc2
      have K130 : ∀ (T106 : State) (L106 : List Loc), Stand p l e room_1 s m #[(.int p1), (.int p2), (.int p3), (.int p4)] below meth c T106 L106 0 0 → T106.heap = h0 → Fr Z.heap.size L106 → ∀ (sh : Int32), Go p e below (Fn s room_1.cells room_1.slots (Q_law Z p1 p2 p3 p4 cP h0)) T106 (mkF m 130 #[.val (.int p1), .val (.int p2), .val (.int p3), .val (.int p4), .val (.int (p4 &&& (3 : Int32))), .val (.int src), .val (.int (((p4.toUInt32 >>> ((2 : Int32) &&& 31).toUInt32).toInt32) &&& (3 : Int32))), .val (.int (((p4.toUInt32 >>> ((4 : Int32) &&& 31).toUInt32).toInt32) &&& (255 : Int32))), .val (.int c0), .val (.int c1), .val (.int c2), .val (.int sh), .unset, .unset, .unset, .unset, .unset, .unset] []) := by
        intro T106 L106 X106 e106 N106 sh
        refine Go.newO (pc' := 133) C X106 (hw _ (List.mem_of_getElem? (i := 4) rfl)) (hw _ (List.mem_of_getElem? (i := 5) rfl)) (hw _ (List.mem_of_getElem? (i := 6) rfl)) e106 (by decide) (by decide) at_130 rfl ?_
        intro T107 h107 b107 X107 e107 g107 E107 A107 D107
        have n_b107 : Z.heap.size ≤ b107 := Nat.le_trans O0.1 (Nat.le_of_eq g107.symm)
        have z_b107 : h0.size ≤ b107 := Nat.le_trans (Nat.le_refl _) (Nat.le_of_eq g107.symm)
        have F107_coder : Fld Z h107 b107 "java/lang/String" "coder" "B" (.int (0 : Int32)) := D107 (Or.inr (hw _ (List.mem_of_getElem? (i := 31) rfl))) (ty := .byte) (by decide)
        have F107_value : Fld Z h107 b107 "java/lang/String" "value" "[B" .null := D107 (Or.inr (hw _ (List.mem_of_getElem? (i := 33) rfl))) (ty := (.array .byte)) (by decide)
        refine Go.dup (pc' := 134) C X107 at_133 rfl rfl ?_
        refine Go.iconst (z := (3 : Int32)) (pc' := 135) C X107 at_134 rfl rfl ?_
        have O109 : Ext Z.heap h107 := (Ext.trans O0 E107)
        refine Go.newP (aty := .char) (cap := 3) (vs := [(.int (0 : Int32)), (.int (0 : Int32)), (.int (0 : Int32))]) (ad := "[C") (pc' := 137) C X107 (by decide) (hw _ (List.mem_of_getElem? (i := 7) rfl)) e107 (by decide) (by decide) (by decide) (by decide) (by decide) rfl at_135 rfl ?_
        intro T108 h108 b108 k108 X108 e108 g108 E108 A108 Ea108
        have n_b108 : Z.heap.size ≤ b108 := Nat.le_trans O109.1 (Nat.le_of_eq g108.symm)
        have z_b108 : h0.size ≤ b108 := Nat.le_trans (Nat.le_trans (Nat.le_refl _) E107.1) (Nat.le_of_eq g108.symm)
        have A108 : AL Z h108 b108 k108 .char [(.int (0 : Int32)), (.int (0 : Int32)), (.int (0 : Int32))] := A108
        refine Go.dup (pc' := 138) C X108 at_137 rfl rfl ?_
        refine Go.iconst (z := (0 : Int32)) (pc' := 139) C X108 at_138 rfl rfl ?_
        refine Go.iloadN (pc' := 140) C X108 at_139 rfl rfl ?_
        refine Go.iconst (z := (0 : Int32)) (pc' := 141) C X108 at_140 rfl rfl ?_
        have O111 : Ext Z.heap h108 := (Ext.trans O109 E108)
        refine Go.callS (y := (⟨"com/example/quoteloom/quoteloom/CurrencyPairHasPinLaw", "ch", "(II)C"⟩ : MethodName)) (pc' := 144) C X108 (hw _ (List.mem_of_getElem? (i := 0) rfl)) (hw _ (List.mem_of_getElem? (i := 1) rfl)) (by decide) (rm_ch l Z a0 hw p1 ((0 : Int32)) h108 O111 ) (hw _ (List.mem_of_getElem? (i := 3) rfl)) (hw _ (List.mem_of_getElem? (i := 2) rfl)) e108 (argsL := [(.int p1), (.int (0 : Int32))]) (rest := [(.int (0 : Int32)), (.ref b108), (.ref b108), (.ref b107), (.ref b107)]) (W := 5) rfl rfl pd_7 rfl (Nat.le_of_eq rfl) rfl (by decide) (by decide) (by decide) (by decide) at_141 rfl ?_
        intro T110 v110 L110 X110 q110
        obtain ⟨rfl, rfl, e110⟩ := q110
        have N110 := Fr.app N106 (Fr.nil _)
        refine Go.stC (i := 0) (x' := (chv p1 (0 : Int32))) (vs' := [(.int (chv p1 (0 : Int32))), (.int (0 : Int32)), (.int (0 : Int32))]) (pc' := 145) C X110 e110 A108 (by decide) (by decide) (by simp) (own_narc (own_chv _ _)) rfl at_144 rfl ?_
        intro T112 h112 X112 e112 W112 A112
        have N112 := Fr.snoc X112 N110 n_b108
        refine Go.dup (pc' := 146) C X112 at_145 rfl rfl ?_
        refine Go.iconst (z := (1 : Int32)) (pc' := 147) C X112 at_146 rfl rfl ?_
        refine Go.iloadN (pc' := 148) C X112 at_147 rfl rfl ?_
        refine Go.iconst (z := (1 : Int32)) (pc' := 149) C X112 at_148 rfl rfl ?_
        have O114 : Ext Z.heap h112 := (Ext.wr O111 W112 n_b108)
        refine Go.callS (y := (⟨"com/example/quoteloom/quoteloom/CurrencyPairHasPinLaw", "ch", "(II)C"⟩ : MethodName)) (pc' := 152) C X112 (hw _ (List.mem_of_getElem? (i := 0) rfl)) (hw _ (List.mem_of_getElem? (i := 1) rfl)) (by decide) (rm_ch l Z a0 hw p1 ((1 : Int32)) h112 O114 ) (hw _ (List.mem_of_getElem? (i := 3) rfl)) (hw _ (List.mem_of_getElem? (i := 2) rfl)) e112 (argsL := [(.int p1), (.int (1 : Int32))]) (rest := [(.int (1 : Int32)), (.ref b108), (.ref b108), (.ref b107), (.ref b107)]) (W := 5) rfl rfl pd_7 rfl (Nat.le_of_eq rfl) rfl (by decide) (by decide) (by decide) (by decide) at_149 rfl ?_
        intro T113 v113 L113 X113 q113
        obtain ⟨rfl, rfl, e113⟩ := q113
        have N113 := Fr.app N112 (Fr.nil _)
        refine Go.stC (i := 1) (x' := (chv p1 (1 : Int32))) (vs' := [(.int (chv p1 (0 : Int32))), (.int (chv p1 (1 : Int32))), (.int (0 : Int32))]) (pc' := 153) C X113 e113 A112 (by decide) (by decide) (by simp) (own_narc (own_chv _ _)) rfl at_152 rfl ?_
        intro T115 h115 X115 e115 W115 A115
        have N115 := Fr.snoc X115 N113 n_b108
        refine Go.dup (pc' := 154) C X115 at_153 rfl rfl ?_
        refine Go.iconst (z := (2 : Int32)) (pc' := 155) C X115 at_154 rfl rfl ?_
        refine Go.iloadN (pc' := 156) C X115 at_155 rfl rfl ?_
        refine Go.iconst (z := (2 : Int32)) (pc' := 157) C X115 at_156 rfl rfl ?_
        have O117 : Ext Z.heap h115 := (Ext.wr O114 W115 n_b108)
        refine Go.callS (y := (⟨"com/example/quoteloom/quoteloom/CurrencyPairHasPinLaw", "ch", "(II)C"⟩ : MethodName)) (pc' := 160) C X115 (hw _ (List.mem_of_getElem? (i := 0) rfl)) (hw _ (List.mem_of_getElem? (i := 1) rfl)) (by decide) (rm_ch l Z a0 hw p1 ((2 : Int32)) h115 O117 ) (hw _ (List.mem_of_getElem? (i := 3) rfl)) (hw _ (List.mem_of_getElem? (i := 2) rfl)) e115 (argsL := [(.int p1), (.int (2 : Int32))]) (rest := [(.int (2 : Int32)), (.ref b108), (.ref b108), (.ref b107), (.ref b107)]) (W := 5) rfl rfl pd_7 rfl (Nat.le_of_eq rfl) rfl (by decide) (by decide) (by decide) (by decide) at_157 rfl ?_
        intro T116 v116 L116 X116 q116
        obtain ⟨rfl, rfl, e116⟩ := q116
        have N116 := Fr.app N115 (Fr.nil _)
        refine Go.stC (i := 2) (x' := (chv p1 (2 : Int32))) (vs' := [(.int (chv p1 (0 : Int32))), (.int (chv p1 (1 : Int32))), (.int (chv p1 (2 : Int32)))]) (pc' := 161) C X116 e116 A115 (by decide) (by decide) (by simp) (own_narc (own_chv _ _)) rfl at_160 rfl ?_
        intro T118 h118 X118 e118 W118 A118
        have N118 := Fr.snoc X118 N116 n_b108
        have c120 : Exa Z h118 b107 "java/lang/String" := (Exa.wr W118 (Exa.wr W115 (Exa.wr W112 (Exa.ext E108 A107))))
        have ne121 : b107 ≠ b108 := Nat.ne_of_lt (Nat.lt_of_lt_of_le A107.lt (Nat.le_trans (Nat.le_refl _) (Nat.le_of_eq g108.symm)))
        have c122 : Fld Z h118 b107 "java/lang/String" "value" "[B" .null := (Fld.other W118 (Fld.other W115 (Fld.other W112 (Fld.ext E108 F107_value) (Or.inl ne121)) (Or.inl ne121)) (Or.inl ne121))
        have c123 : Fld Z h118 b107 "java/lang/String" "coder" "B" (.int (0 : Int32)) := (Fld.other W118 (Fld.other W115 (Fld.other W112 (Fld.ext E108 F107_coder) (Or.inl ne121)) (Or.inl ne121)) (Or.inl ne121))
        have O124 : Ext Z.heap h118 := (Ext.wr O117 W118 n_b108)
        refine Go.callI (y := (⟨"java/lang/String", "<init>", "([C)V"⟩ : MethodName)) (a := b107) (pc' := 164) C X118 rfl (hw _ (List.mem_of_getElem? (i := 8) rfl)) (hw _ (List.mem_of_getElem? (i := 9) rfl)) (by decide) (rm_sI1 l Z a0 hw b107 b108 k108 ([(chv p1 (0 : Int32)), (chv p1 (1 : Int32)), (chv p1 (2 : Int32))]) cP h118 O124 c120 c122 c123 (show AL Z h118 b108 k108 .char (ch16 [(chv p1 (0 : Int32)), (chv p1 (1 : Int32)), (chv p1 (2 : Int32))]) from A118) SC (own_h3 (own_chv _ _) (own_chv _ _) (own_chv _ _)) (show (3 : Nat) < 2 ^ 31 from by decide) (show (3 : Nat) ≤ 3 from by decide) (show ¬ (3 : Nat).toInt32 = (0 : Int32) from by decide) hP n_b107) (hw _ (List.mem_of_getElem? (i := 10) rfl)) (hw _ (List.mem_of_getElem? (i := 6) rfl)) e118 (argsL := [(.ref b108)]) (rest := [(.ref b107)]) (W := 1) rfl rfl pd_8 rfl (Nat.le_of_eq rfl) rfl (by decide) (by decide) (by decide) (by decide) rfl at_161 rfl ?_
        intro T119 v119 L119 X119 q119
        obtain ⟨v_119, kv_119, rfl, N119q, K119, B119_0, P119_0, P119_1, P119_2⟩ := q119
        have N119 := Fr.app N118 N119q
        have n_v_119 : Z.heap.size ≤ v_119 := Nat.le_trans O124.1 B119_0
        have z_v_119 : h0.size ≤ v_119 := Nat.le_trans (Nat.le_trans (Nat.le_trans (Nat.le_trans (Nat.le_trans (Nat.le_trans (Nat.le_refl _) E107.1) E108.1) (Nat.le_of_eq W112.size.symm)) (Nat.le_of_eq W115.size.symm)) (Nat.le_of_eq W118.size.symm)) B119_0
        refine Go.astore (Ls' := #[.val (.int p1), .val (.int p2), .val (.int p3), .val (.int p4), .val (.int (p4 &&& (3 : Int32))), .val (.int src), .val (.int (((p4.toUInt32 >>> ((2 : Int32) &&& 31).toUInt32).toInt32) &&& (3 : Int32))), .val (.int (((p4.toUInt32 >>> ((4 : Int32) &&& 31).toUInt32).toInt32) &&& (255 : Int32))), .val (.int c0), .val (.int c1), .val (.int c2), .val (.int sh), .val (.ref b107), .unset, .unset, .unset, .unset, .unset]) (pc' := 166) C X119 at_164 rfl rfl rfl ?_
        have O126 : Ext Z.heap T119.heap := (Ext.keep O124 K119 (allS n_b107 all0))
        refine Go.newO (pc' := 169) C X119 (hw _ (List.mem_of_getElem? (i := 4) rfl)) (hw _ (List.mem_of_getElem? (i := 5) rfl)) (hw _ (List.mem_of_getElem? (i := 6) rfl)) rfl (by decide) (by decide) at_166 rfl ?_
        intro T125 h125 b125 X125 e125 g125 E125 A125 D125
        have n_b125 : Z.heap.size ≤ b125 := Nat.le_trans O126.1 (Nat.le_of_eq g125.symm)
        have z_b125 : h0.size ≤ b125 := Nat.le_trans (Nat.le_trans (Nat.le_trans (Nat.le_trans (Nat.le_trans (Nat.le_trans (Nat.le_trans (Nat.le_refl _) E107.1) E108.1) (Nat.le_of_eq W112.size.symm)) (Nat.le_of_eq W115.size.symm)) (Nat.le_of_eq W118.size.symm)) K119.1) (Nat.le_of_eq g125.symm)
        have F125_coder : Fld Z h125 b125 "java/lang/String" "coder" "B" (.int (0 : Int32)) := D125 (Or.inr (hw _ (List.mem_of_getElem? (i := 31) rfl))) (ty := .byte) (by decide)
        have F125_value : Fld Z h125 b125 "java/lang/String" "value" "[B" .null := D125 (Or.inr (hw _ (List.mem_of_getElem? (i := 33) rfl))) (ty := (.array .byte)) (by decide)
        refine Go.dup (pc' := 170) C X125 at_169 rfl rfl ?_
        refine Go.iconst (z := (3 : Int32)) (pc' := 171) C X125 at_170 rfl rfl ?_
        have O128 : Ext Z.heap h125 := (Ext.trans O126 E125)
        refine Go.newP (aty := .char) (cap := 3) (vs := [(.int (0 : Int32)), (.int (0 : Int32)), (.int (0 : Int32))]) (ad := "[C") (pc' := 173) C X125 (by decide) (hw _ (List.mem_of_getElem? (i := 7) rfl)) e125 (by decide) (by decide) (by decide) (by decide) (by decide) rfl at_171 rfl ?_
        intro T127 h127 b127 k127 X127 e127 g127 E127 A127 Ea127
        have n_b127 : Z.heap.size ≤ b127 := Nat.le_trans O128.1 (Nat.le_of_eq g127.symm)
        have z_b127 : h0.size ≤ b127 := Nat.le_trans (Nat.le_trans (Nat.le_trans (Nat.le_trans (Nat.le_trans (Nat.le_trans (Nat.le_trans (Nat.le_trans (Nat.le_refl _) E107.1) E108.1) (Nat.le_of_eq W112.size.symm)) (Nat.le_of_eq W115.size.symm)) (Nat.le_of_eq W118.size.symm)) K119.1) E125.1) (Nat.le_of_eq g127.symm)
        have A127 : AL Z h127 b127 k127 .char [(.int (0 : Int32)), (.int (0 : Int32)), (.int (0 : Int32))] := A127
        refine Go.dup (pc' := 174) C X127 at_173 rfl rfl ?_
        refine Go.iconst (z := (0 : Int32)) (pc' := 175) C X127 at_174 rfl rfl ?_
        refine Go.iloadN (pc' := 176) C X127 at_175 rfl rfl ?_
        refine Go.iconst (z := (0 : Int32)) (pc' := 177) C X127 at_176 rfl rfl ?_
        have O130 : Ext Z.heap h127 := (Ext.trans O128 E127)
        refine Go.callS (y := (⟨"com/example/quoteloom/quoteloom/CurrencyPairHasPinLaw", "ch", "(II)C"⟩ : MethodName)) (pc' := 180) C X127 (hw _ (List.mem_of_getElem? (i := 0) rfl)) (hw _ (List.mem_of_getElem? (i := 1) rfl)) (by decide) (rm_ch l Z a0 hw p2 ((0 : Int32)) h127 O130 ) (hw _ (List.mem_of_getElem? (i := 3) rfl)) (hw _ (List.mem_of_getElem? (i := 2) rfl)) e127 (argsL := [(.int p2), (.int (0 : Int32))]) (rest := [(.int (0 : Int32)), (.ref b127), (.ref b127), (.ref b125), (.ref b125)]) (W := 5) rfl rfl pd_7 rfl (Nat.le_of_eq rfl) rfl (by decide) (by decide) (by decide) (by decide) at_177 rfl ?_
        intro T129 v129 L129 X129 q129
        obtain ⟨rfl, rfl, e129⟩ := q129
        have N129 := Fr.app N119 (Fr.nil _)
        refine Go.stC (i := 0) (x' := (chv p2 (0 : Int32))) (vs' := [(.int (chv p2 (0 : Int32))), (.int (0 : Int32)), (.int (0 : Int32))]) (pc' := 181) C X129 e129 A127 (by decide) (by decide) (by simp) (own_narc (own_chv _ _)) rfl at_180 rfl ?_
        intro T131 h131 X131 e131 W131 A131
        have N131 := Fr.snoc X131 N129 n_b127
        refine Go.dup (pc' := 182) C X131 at_181 rfl rfl ?_
        refine Go.iconst (z := (1 : Int32)) (pc' := 183) C X131 at_182 rfl rfl ?_
        refine Go.iloadN (pc' := 184) C X131 at_183 rfl rfl ?_
        refine Go.iconst (z := (1 : Int32)) (pc' := 185) C X131 at_184 rfl rfl ?_
        have O133 : Ext Z.heap h131 := (Ext.wr O130 W131 n_b127)
        refine Go.callS (y := (⟨"com/example/quoteloom/quoteloom/CurrencyPairHasPinLaw", "ch", "(II)C"⟩ : MethodName)) (pc' := 188) C X131 (hw _ (List.mem_of_getElem? (i := 0) rfl)) (hw _ (List.mem_of_getElem? (i := 1) rfl)) (by decide) (rm_ch l Z a0 hw p2 ((1 : Int32)) h131 O133 ) (hw _ (List.mem_of_getElem? (i := 3) rfl)) (hw _ (List.mem_of_getElem? (i := 2) rfl)) e131 (argsL := [(.int p2), (.int (1 : Int32))]) (rest := [(.int (1 : Int32)), (.ref b127), (.ref b127), (.ref b125), (.ref b125)]) (W := 5) rfl rfl pd_7 rfl (Nat.le_of_eq rfl) rfl (by decide) (by decide) (by decide) (by decide) at_185 rfl ?_
        intro T132 v132 L132 X132 q132
        obtain ⟨rfl, rfl, e132⟩ := q132
        have N132 := Fr.app N131 (Fr.nil _)
        refine Go.stC (i := 1) (x' := (chv p2 (1 : Int32))) (vs' := [(.int (chv p2 (0 : Int32))), (.int (chv p2 (1 : Int32))), (.int (0 : Int32))]) (pc' := 189) C X132 e132 A131 (by decide) (by decide) (by simp) (own_narc (own_chv _ _)) rfl at_188 rfl ?_
        intro T134 h134 X134 e134 W134 A134
        have N134 := Fr.snoc X134 N132 n_b127
        refine Go.dup (pc' := 190) C X134 at_189 rfl rfl ?_
        refine Go.iconst (z := (2 : Int32)) (pc' := 191) C X134 at_190 rfl rfl ?_
        refine Go.iloadN (pc' := 192) C X134 at_191 rfl rfl ?_
        refine Go.iconst (z := (2 : Int32)) (pc' := 193) C X134 at_192 rfl rfl ?_
        have O136 : Ext Z.heap h134 := (Ext.wr O133 W134 n_b127)
        refine Go.callS (y := (⟨"com/example/quoteloom/quoteloom/CurrencyPairHasPinLaw", "ch", "(II)C"⟩ : MethodName)) (pc' := 196) C X134 (hw _ (List.mem_of_getElem? (i := 0) rfl)) (hw _ (List.mem_of_getElem? (i := 1) rfl)) (by decide) (rm_ch l Z a0 hw p2 ((2 : Int32)) h134 O136 ) (hw _ (List.mem_of_getElem? (i := 3) rfl)) (hw _ (List.mem_of_getElem? (i := 2) rfl)) e134 (argsL := [(.int p2), (.int (2 : Int32))]) (rest := [(.int (2 : Int32)), (.ref b127), (.ref b127), (.ref b125), (.ref b125)]) (W := 5) rfl rfl pd_7 rfl (Nat.le_of_eq rfl) rfl (by decide) (by decide) (by decide) (by decide) at_193 rfl ?_
        intro T135 v135 L135 X135 q135
        obtain ⟨rfl, rfl, e135⟩ := q135
        have N135 := Fr.app N134 (Fr.nil _)
        refine Go.stC (i := 2) (x' := (chv p2 (2 : Int32))) (vs' := [(.int (chv p2 (0 : Int32))), (.int (chv p2 (1 : Int32))), (.int (chv p2 (2 : Int32)))]) (pc' := 197) C X135 e135 A134 (by decide) (by decide) (by simp) (own_narc (own_chv _ _)) rfl at_196 rfl ?_
        intro T137 h137 X137 e137 W137 A137
        have N137 := Fr.snoc X137 N135 n_b127
        have c139 : Exa Z h137 b125 "java/lang/String" := (Exa.wr W137 (Exa.wr W134 (Exa.wr W131 (Exa.ext E127 A125))))
        have ne140 : b125 ≠ b127 := Nat.ne_of_lt (Nat.lt_of_lt_of_le A125.lt (Nat.le_trans (Nat.le_refl _) (Nat.le_of_eq g127.symm)))
        have c141 : Fld Z h137 b125 "java/lang/String" "value" "[B" .null := (Fld.other W137 (Fld.other W134 (Fld.other W131 (Fld.ext E127 F125_value) (Or.inl ne140)) (Or.inl ne140)) (Or.inl ne140))
        have c142 : Fld Z h137 b125 "java/lang/String" "coder" "B" (.int (0 : Int32)) := (Fld.other W137 (Fld.other W134 (Fld.other W131 (Fld.ext E127 F125_coder) (Or.inl ne140)) (Or.inl ne140)) (Or.inl ne140))
        have O143 : Ext Z.heap h137 := (Ext.wr O136 W137 n_b127)
        refine Go.callI (y := (⟨"java/lang/String", "<init>", "([C)V"⟩ : MethodName)) (a := b125) (pc' := 200) C X137 rfl (hw _ (List.mem_of_getElem? (i := 8) rfl)) (hw _ (List.mem_of_getElem? (i := 9) rfl)) (by decide) (rm_sI1 l Z a0 hw b125 b127 k127 ([(chv p2 (0 : Int32)), (chv p2 (1 : Int32)), (chv p2 (2 : Int32))]) cP h137 O143 c139 c141 c142 (show AL Z h137 b127 k127 .char (ch16 [(chv p2 (0 : Int32)), (chv p2 (1 : Int32)), (chv p2 (2 : Int32))]) from A137) SC (own_h3 (own_chv _ _) (own_chv _ _) (own_chv _ _)) (show (3 : Nat) < 2 ^ 31 from by decide) (show (3 : Nat) ≤ 3 from by decide) (show ¬ (3 : Nat).toInt32 = (0 : Int32) from by decide) hP n_b125) (hw _ (List.mem_of_getElem? (i := 10) rfl)) (hw _ (List.mem_of_getElem? (i := 6) rfl)) e137 (argsL := [(.ref b127)]) (rest := [(.ref b125)]) (W := 1) rfl rfl pd_8 rfl (Nat.le_of_eq rfl) rfl (by decide) (by decide) (by decide) (by decide) rfl at_197 rfl ?_
        intro T138 v138 L138 X138 q138
        obtain ⟨v_138, kv_138, rfl, N138q, K138, B138_0, P138_0, P138_1, P138_2⟩ := q138
        have N138 := Fr.app N137 N138q
        have n_v_138 : Z.heap.size ≤ v_138 := Nat.le_trans O143.1 B138_0
        have z_v_138 : h0.size ≤ v_138 := Nat.le_trans (Nat.le_trans (Nat.le_trans (Nat.le_trans (Nat.le_trans (Nat.le_trans (Nat.le_trans (Nat.le_trans (Nat.le_trans (Nat.le_trans (Nat.le_trans (Nat.le_trans (Nat.le_refl _) E107.1) E108.1) (Nat.le_of_eq W112.size.symm)) (Nat.le_of_eq W115.size.symm)) (Nat.le_of_eq W118.size.symm)) K119.1) E125.1) E127.1) (Nat.le_of_eq W131.size.symm)) (Nat.le_of_eq W134.size.symm)) (Nat.le_of_eq W137.size.symm)) B138_0
        refine Go.astore (Ls' := #[.val (.int p1), .val (.int p2), .val (.int p3), .val (.int p4), .val (.int (p4 &&& (3 : Int32))), .val (.int src), .val (.int (((p4.toUInt32 >>> ((2 : Int32) &&& 31).toUInt32).toInt32) &&& (3 : Int32))), .val (.int (((p4.toUInt32 >>> ((4 : Int32) &&& 31).toUInt32).toInt32) &&& (255 : Int32))), .val (.int c0), .val (.int c1), .val (.int c2), .val (.int sh), .val (.ref b107), .val (.ref b125), .unset, .unset, .unset, .unset]) (pc' := 202) C X138 at_200 rfl rfl rfl ?_
        refine Go.iload (pc' := 204) C X138 at_202 rfl rfl ?_
        refine Go.iconst (z := (3 : Int32)) (pc' := 205) C X138 at_204 rfl rfl ?_
        by_cases hc205_144 : (p4 &&& (3 : Int32)) = (3 : Int32)
        · refine Go.icmpNo (pc' := 208) C X138 at_205 (teq (x := (p4 &&& (3 : Int32))) (y := (3 : Int32)) hc205_144).2 rfl ?_
          refine Go.aconstNull (pc' := 209) C X138 at_208 rfl ?_
          refine Go.astore (Ls' := #[.val (.int p1), .val (.int p2), .val (.int p3), .val (.int p4), .val (.int (p4 &&& (3 : Int32))), .val (.int src), .val (.int (((p4.toUInt32 >>> ((2 : Int32) &&& 31).toUInt32).toInt32) &&& (3 : Int32))), .val (.int (((p4.toUInt32 >>> ((4 : Int32) &&& 31).toUInt32).toInt32) &&& (255 : Int32))), .val (.int c0), .val (.int c1), .val (.int c2), .val (.int sh), .val (.ref b107), .val (.ref b125), .val .null, .unset, .unset, .unset]) (pc' := 211) C X138 at_209 rfl rfl rfl ?_
          refine Go.goto (pc' := 271) C X138 at_211 (by decide) (by decide) ?_
          refine Go.iload (pc' := 273) C X138 at_271 rfl rfl ?_
          refine Go.iconst (z := (3 : Int32)) (pc' := 274) C X138 at_273 rfl rfl ?_
          refine Go.icmpYes (pc' := 282) C X138 at_274 (teq (x := (p4 &&& (3 : Int32))) (y := (3 : Int32)) hc205_144).1 (by decide) (by decide) ?_
          refine Go.iconst (z := (0 : Int32)) (pc' := 283) C X138 at_282 rfl rfl ?_
          refine Go.istore (Ls' := #[.val (.int p1), .val (.int p2), .val (.int p3), .val (.int p4), .val (.int (p4 &&& (3 : Int32))), .val (.int src), .val (.int (((p4.toUInt32 >>> ((2 : Int32) &&& 31).toUInt32).toInt32) &&& (3 : Int32))), .val (.int (((p4.toUInt32 >>> ((4 : Int32) &&& 31).toUInt32).toInt32) &&& (255 : Int32))), .val (.int c0), .val (.int c1), .val (.int c2), .val (.int sh), .val (.ref b107), .val (.ref b125), .val .null, .val (.int (0 : Int32)), .unset, .unset]) (pc' := 285) C X138 at_283 rfl rfl ?_
          refine Go.goto (pc' := 379) C X138 at_285 (by decide) (by decide) ?_
          have O147 : Ext Z.heap T138.heap := (Ext.keep O143 K138 (allS n_b125 all0))
          refine Go.newO (pc' := 382) C X138 (hw _ (List.mem_of_getElem? (i := 34) rfl)) (hw _ (List.mem_of_getElem? (i := 35) rfl)) (hw _ (List.mem_of_getElem? (i := 36) rfl)) rfl (by decide) (by decide) at_379 rfl ?_
          intro T146 h146 b146 X146 e146 g146 E146 A146 D146
          have n_b146 : Z.heap.size ≤ b146 := Nat.le_trans O147.1 (Nat.le_of_eq g146.symm)
          have z_b146 : h0.size ≤ b146 := Nat.le_trans (Nat.le_trans (Nat.le_trans (Nat.le_trans (Nat.le_trans (Nat.le_trans (Nat.le_trans (Nat.le_trans (Nat.le_trans (Nat.le_trans (Nat.le_trans (Nat.le_trans (Nat.le_trans (Nat.le_refl _) E107.1) E108.1) (Nat.le_of_eq W112.size.symm)) (Nat.le_of_eq W115.size.symm)) (Nat.le_of_eq W118.size.symm)) K119.1) E125.1) E127.1) (Nat.le_of_eq W131.size.symm)) (Nat.le_of_eq W134.size.symm)) (Nat.le_of_eq W137.size.symm)) K138.1) (Nat.le_of_eq g146.symm)
          have F146_base : Fld Z h146 b146 "com/example/quoteloom/quoteloom/CurrencyPair" "base" "Ljava/lang/String;" .null := D146 (Or.inr (hw _ (List.mem_of_getElem? (i := 47) rfl))) (ty := (.object "java/lang/String")) (by decide)
          have F146_quote : Fld Z h146 b146 "com/example/quoteloom/quoteloom/CurrencyPair" "quote" "Ljava/lang/String;" .null := D146 (Or.inr (hw _ (List.mem_of_getElem? (i := 49) rfl))) (ty := (.object "java/lang/String")) (by decide)
          refine Go.dup (pc' := 383) C X146 at_382 rfl rfl ?_
          refine Go.aload (pc' := 385) C X146 at_383 rfl rfl rfl ?_
          refine Go.aload (pc' := 387) C X146 at_385 rfl rfl rfl ?_
          have O149 : Ext Z.heap h146 := (Ext.trans O147 E146)
          refine Go.callI (y := (⟨"com/example/quoteloom/quoteloom/CurrencyPair", "<init>", "(Ljava/lang/String;Ljava/lang/String;)V"⟩ : MethodName)) (a := b146) (pc' := 390) C X146 rfl (hw _ (List.mem_of_getElem? (i := 37) rfl)) (hw _ (List.mem_of_getElem? (i := 38) rfl)) (by decide) (rm_cp l Z a0 hw b146 b107 b125 h146 O149 A146 F146_base F146_quote n_b146) (hw _ (List.mem_of_getElem? (i := 39) rfl)) (hw _ (List.mem_of_getElem? (i := 36) rfl)) e146 (argsL := [(.ref b107), (.ref b125)]) (rest := [(.ref b146)]) (W := 1) rfl rfl pd_9 rfl (Nat.le_of_eq rfl) rfl (by decide) (by decide) (by decide) (by decide) rfl at_387 rfl ?_
          intro T148 v148 L148 X148 q148
          obtain ⟨rfl, N148q, K148, P148_0, P148_1⟩ := q148
          have N148 := Fr.app N138 N148q
          refine Go.astore (Ls' := #[.val (.int p1), .val (.int p2), .val (.int p3), .val (.int p4), .val (.int (p4 &&& (3 : Int32))), .val (.int src), .val (.int (((p4.toUInt32 >>> ((2 : Int32) &&& 31).toUInt32).toInt32) &&& (3 : Int32))), .val (.int (((p4.toUInt32 >>> ((4 : Int32) &&& 31).toUInt32).toInt32) &&& (255 : Int32))), .val (.int c0), .val (.int c1), .val (.int c2), .val (.int sh), .val (.ref b107), .val (.ref b125), .val .null, .val (.int (0 : Int32)), .val (.ref b146), .unset]) (pc' := 392) C X148 at_390 rfl rfl rfl ?_
          refine Go.aload (pc' := 394) C X148 at_392 rfl rfl rfl ?_
          refine Go.aload (pc' := 396) C X148 at_394 rfl rfl rfl ?_
          have c151 : Exa Z T148.heap b107 "java/lang/String" := (Exa.keep (Exa.ext E146 (Exa.keep (Exa.wr W137 (Exa.wr W134 (Exa.wr W131 (Exa.ext E127 (Exa.ext E125 (Exa.keep c120 K119)))))) K138)) K148)
          have c152 : Exa Z T148.heap b125 "java/lang/String" := (Exa.keep (Exa.ext E146 (Exa.keep c139 K138)) K148)
          have O153 : Ext Z.heap T148.heap := (Ext.keep O149 K148 (allS n_b146 all0))
          have c154 : Exa Z T148.heap b146 "com/example/quoteloom/quoteloom/CurrencyPair" := (Exa.keep A146 K148)
          refine Go.callV (y := (⟨"com/example/quoteloom/quoteloom/CurrencyPair", "has", "(Ljava/lang/String;)Z"⟩ : MethodName)) (z := (⟨"com/example/quoteloom/quoteloom/CurrencyPair", "has", "(Ljava/lang/String;)Z"⟩ : MethodName)) (a := b146) (pc' := 399) C X148 (hw _ (List.mem_of_getElem? (i := 50) rfl)) (hw _ (List.mem_of_getElem? (i := 51) rfl)) (notFace_at C.2.1 (hw _ (List.mem_of_getElem? (i := 53) rfl))) (hw _ (List.mem_of_getElem? (i := 53) rfl)) (hw _ (List.mem_of_getElem? (i := 52) rfl)) c154 (by decide) (rm_hasN l Z a0 hw b146 b107 b125 T148.heap O153 P148_0 P148_1 c151 c152) (hw _ (List.mem_of_getElem? (i := 54) rfl)) (hw _ (List.mem_of_getElem? (i := 36) rfl)) rfl (argsL := [.null]) (rest := []) (W := 0) rfl rfl pd_10 rfl (Nat.le_of_eq rfl) rfl (by decide) (by decide) (by decide) (by decide) at_396 rfl ?_
          intro T150 v150 L150 X150 q150
          obtain ⟨rfl, rfl, e150⟩ := q150
          have N150 := Fr.app N148 (Fr.nil _)
          refine Go.iload (pc' := 401) C X150 at_399 rfl rfl ?_
          refine Go.icmpNo (pc' := 404) C X150 at_401 (teq (x := (0 : Int32)) (y := (0 : Int32)) (by decide)).2 rfl ?_
          refine Go.iconst (z := (1 : Int32)) (pc' := 405) C X150 at_404 rfl rfl ?_
          refine Go.goto (pc' := 409) C X150 at_405 (by decide) (by decide) ?_
          have K156 : Keep h0 T148.heap [] := (((((((((((((((Keep.refl h0 []).ext E107).ext E108).wr W112 (Or.inr z_b108)).wr W115 (Or.inr z_b108)).wr W118 (Or.inr z_b108)).trans K119 (allS (Or.inr z_b107) all0)).ext E125).ext E127).wr W131 (Or.inr z_b127)).wr W134 (Or.inr z_b127)).wr W137 (Or.inr z_b127)).trans K138 (allS (Or.inr z_b125) all0)).ext E146).trans K148 (allS (Or.inr z_b146) all0))
          exact Go.retN C X150 rfl at_409 (by simp) (by rw [e150]; exact ⟨rfl, N150, K156⟩) (by decide) (by decide)
        · refine Go.icmpYes (pc' := 214) C X138 at_205 (feq (x := (p4 &&& (3 : Int32))) (y := (3 : Int32)) hc205_144).2 (by decide) (by decide) ?_
          refine Go.iload (pc' := 216) C X138 at_214 rfl rfl ?_
          by_cases hc216_157 : sh = (0 : Int32)
          · refine Go.ifYes (pc' := 244) C X138 at_216 ((if0 _ _).trans (teq (x := sh) (y := (0 : Int32)) hc216_157).1) (by decide) (by decide) ?_
            have O159 : Ext Z.heap T138.heap := (Ext.keep O143 K138 (allS n_b125 all0))
            refine Go.newO (pc' := 247) C X138 (hw _ (List.mem_of_getElem? (i := 4) rfl)) (hw _ (List.mem_of_getElem? (i := 5) rfl)) (hw _ (List.mem_of_getElem? (i := 6) rfl)) rfl (by decide) (by decide) at_244 rfl ?_
            intro T158 h158 b158 X158 e158 g158 E158 A158 D158
            have n_b158 : Z.heap.size ≤ b158 := Nat.le_trans O159.1 (Nat.le_of_eq g158.symm)
            have z_b158 : h0.size ≤ b158 := Nat.le_trans (Nat.le_trans (Nat.le_trans (Nat.le_trans (Nat.le_trans (Nat.le_trans (Nat.le_trans (Nat.le_trans (Nat.le_trans (Nat.le_trans (Nat.le_trans (Nat.le_trans (Nat.le_trans (Nat.le_refl _) E107.1) E108.1) (Nat.le_of_eq W112.size.symm)) (Nat.le_of_eq W115.size.symm)) (Nat.le_of_eq W118.size.symm)) K119.1) E125.1) E127.1) (Nat.le_of_eq W131.size.symm)) (Nat.le_of_eq W134.size.symm)) (Nat.le_of_eq W137.size.symm)) K138.1) (Nat.le_of_eq g158.symm)
            have F158_coder : Fld Z h158 b158 "java/lang/String" "coder" "B" (.int (0 : Int32)) := D158 (Or.inr (hw _ (List.mem_of_getElem? (i := 31) rfl))) (ty := .byte) (by decide)
            have F158_value : Fld Z h158 b158 "java/lang/String" "value" "[B" .null := D158 (Or.inr (hw _ (List.mem_of_getElem? (i := 33) rfl))) (ty := (.array .byte)) (by decide)
            refine Go.dup (pc' := 248) C X158 at_247 rfl rfl ?_
            refine Go.iconst (z := (3 : Int32)) (pc' := 249) C X158 at_248 rfl rfl ?_
            have O161 : Ext Z.heap h158 := (Ext.trans O159 E158)
            refine Go.newP (aty := .char) (cap := 3) (vs := [(.int (0 : Int32)), (.int (0 : Int32)), (.int (0 : Int32))]) (ad := "[C") (pc' := 251) C X158 (by decide) (hw _ (List.mem_of_getElem? (i := 7) rfl)) e158 (by decide) (by decide) (by decide) (by decide) (by decide) rfl at_249 rfl ?_
            intro T160 h160 b160 k160 X160 e160 g160 E160 A160 Ea160
            have n_b160 : Z.heap.size ≤ b160 := Nat.le_trans O161.1 (Nat.le_of_eq g160.symm)
            have z_b160 : h0.size ≤ b160 := Nat.le_trans (Nat.le_trans (Nat.le_trans (Nat.le_trans (Nat.le_trans (Nat.le_trans (Nat.le_trans (Nat.le_trans (Nat.le_trans (Nat.le_trans (Nat.le_trans (Nat.le_trans (Nat.le_trans (Nat.le_trans (Nat.le_refl _) E107.1) E108.1) (Nat.le_of_eq W112.size.symm)) (Nat.le_of_eq W115.size.symm)) (Nat.le_of_eq W118.size.symm)) K119.1) E125.1) E127.1) (Nat.le_of_eq W131.size.symm)) (Nat.le_of_eq W134.size.symm)) (Nat.le_of_eq W137.size.symm)) K138.1) E158.1) (Nat.le_of_eq g160.symm)
            have A160 : AL Z h160 b160 k160 .char [(.int (0 : Int32)), (.int (0 : Int32)), (.int (0 : Int32))] := A160
            refine Go.dup (pc' := 252) C X160 at_251 rfl rfl ?_
            refine Go.iconst (z := (0 : Int32)) (pc' := 253) C X160 at_252 rfl rfl ?_
            refine Go.iload (pc' := 255) C X160 at_253 rfl rfl ?_
            refine Go.stC (i := 0) (x' := c0) (vs' := [(.int c0), (.int (0 : Int32)), (.int (0 : Int32))]) (pc' := 256) C X160 e160 A160 (by decide) (by decide) (by simp) (own_narc rc0) rfl at_255 rfl ?_
            intro T162 h162 X162 e162 W162 A162
            have N162 := Fr.snoc X162 N138 n_b160
            refine Go.dup (pc' := 257) C X162 at_256 rfl rfl ?_
            refine Go.iconst (z := (1 : Int32)) (pc' := 258) C X162 at_257 rfl rfl ?_
            refine Go.iload (pc' := 260) C X162 at_258 rfl rfl ?_
            refine Go.stC (i := 1) (x' := c1) (vs' := [(.int c0), (.int c1), (.int (0 : Int32))]) (pc' := 261) C X162 e162 A162 (by decide) (by decide) (by simp) (own_narc rc1) rfl at_260 rfl ?_
            intro T163 h163 X163 e163 W163 A163
            have N163 := Fr.snoc X163 N162 n_b160
            refine Go.dup (pc' := 262) C X163 at_261 rfl rfl ?_
            refine Go.iconst (z := (2 : Int32)) (pc' := 263) C X163 at_262 rfl rfl ?_
            refine Go.iload (pc' := 265) C X163 at_263 rfl rfl ?_
            refine Go.stC (i := 2) (x' := c2) (vs' := [(.int c0), (.int c1), (.int c2)]) (pc' := 266) C X163 e163 A163 (by decide) (by decide) (by simp) (own_narc rc2) rfl at_265 rfl ?_
            intro T164 h164 X164 e164 W164 A164
            have N164 := Fr.snoc X164 N163 n_b160
            have c166 : Exa Z h164 b158 "java/lang/String" := (Exa.wr W164 (Exa.wr W163 (Exa.wr W162 (Exa.ext E160 A158))))
            have ne167 : b158 ≠ b160 := Nat.ne_of_lt (Nat.lt_of_lt_of_le A158.lt (Nat.le_trans (Nat.le_refl _) (Nat.le_of_eq g160.symm)))
            have c168 : Fld Z h164 b158 "java/lang/String" "value" "[B" .null := (Fld.other W164 (Fld.other W163 (Fld.other W162 (Fld.ext E160 F158_value) (Or.inl ne167)) (Or.inl ne167)) (Or.inl ne167))
            have c169 : Fld Z h164 b158 "java/lang/String" "coder" "B" (.int (0 : Int32)) := (Fld.other W164 (Fld.other W163 (Fld.other W162 (Fld.ext E160 F158_coder) (Or.inl ne167)) (Or.inl ne167)) (Or.inl ne167))
            have O170 : Ext Z.heap h164 := (Ext.wr (Ext.wr (Ext.wr (Ext.trans O161 E160) W162 n_b160) W163 n_b160) W164 n_b160)
            refine Go.callI (y := (⟨"java/lang/String", "<init>", "([C)V"⟩ : MethodName)) (a := b158) (pc' := 269) C X164 rfl (hw _ (List.mem_of_getElem? (i := 8) rfl)) (hw _ (List.mem_of_getElem? (i := 9) rfl)) (by decide) (rm_sI1 l Z a0 hw b158 b160 k160 ([c0, c1, c2]) cP h164 O170 c166 c168 c169 (show AL Z h164 b160 k160 .char (ch16 [c0, c1, c2]) from A164) SC (own_h3 rc0 rc1 rc2) (show (3 : Nat) < 2 ^ 31 from by decide) (show (3 : Nat) ≤ 3 from by decide) (show ¬ (3 : Nat).toInt32 = (0 : Int32) from by decide) hP n_b158) (hw _ (List.mem_of_getElem? (i := 10) rfl)) (hw _ (List.mem_of_getElem? (i := 6) rfl)) e164 (argsL := [(.ref b160)]) (rest := [(.ref b158)]) (W := 1) rfl rfl pd_8 rfl (Nat.le_of_eq rfl) rfl (by decide) (by decide) (by decide) (by decide) rfl at_266 rfl ?_
            intro T165 v165 L165 X165 q165
            obtain ⟨v_165, kv_165, rfl, N165q, K165, B165_0, P165_0, P165_1, P165_2⟩ := q165
            have N165 := Fr.app N164 N165q
            have n_v_165 : Z.heap.size ≤ v_165 := Nat.le_trans O170.1 B165_0
            have z_v_165 : h0.size ≤ v_165 := Nat.le_trans (Nat.le_trans (Nat.le_trans (Nat.le_trans (Nat.le_trans (Nat.le_trans (Nat.le_trans (Nat.le_trans (Nat.le_trans (Nat.le_trans (Nat.le_trans (Nat.le_trans (Nat.le_trans (Nat.le_trans (Nat.le_trans (Nat.le_trans (Nat.le_trans (Nat.le_trans (Nat.le_refl _) E107.1) E108.1) (Nat.le_of_eq W112.size.symm)) (Nat.le_of_eq W115.size.symm)) (Nat.le_of_eq W118.size.symm)) K119.1) E125.1) E127.1) (Nat.le_of_eq W131.size.symm)) (Nat.le_of_eq W134.size.symm)) (Nat.le_of_eq W137.size.symm)) K138.1) E158.1) E160.1) (Nat.le_of_eq W162.size.symm)) (Nat.le_of_eq W163.size.symm)) (Nat.le_of_eq W164.size.symm)) B165_0
            refine Go.astore (Ls' := #[.val (.int p1), .val (.int p2), .val (.int p3), .val (.int p4), .val (.int (p4 &&& (3 : Int32))), .val (.int src), .val (.int (((p4.toUInt32 >>> ((2 : Int32) &&& 31).toUInt32).toInt32) &&& (3 : Int32))), .val (.int (((p4.toUInt32 >>> ((4 : Int32) &&& 31).toUInt32).toInt32) &&& (255 : Int32))), .val (.int c0), .val (.int c1), .val (.int c2), .val (.int sh), .val (.ref b107), .val (.ref b125), .val (.ref b158), .unset, .unset, .unset]) (pc' := 271) C X165 at_269 rfl rfl rfl ?_
            refine Go.iload (pc' := 273) C X165 at_271 rfl rfl ?_
            refine Go.iconst (z := (3 : Int32)) (pc' := 274) C X165 at_273 rfl rfl ?_
            refine Go.icmpNo (pc' := 277) C X165 at_274 (feq (x := (p4 &&& (3 : Int32))) (y := (3 : Int32)) hc205_144).1 rfl ?_
            refine Go.iload (pc' := 279) C X165 at_277 rfl rfl ?_
            refine Go.ifYes (pc' := 288) C X165 at_279 ((if0 _ _).trans (teq (x := sh) (y := (0 : Int32)) hc216_157).1) (by decide) (by decide) ?_
            have K379 : ∀ (T173 : State) (L173 : List Loc), Stand p l e room_1 s m #[(.int p1), (.int p2), (.int p3), (.int p4)] below meth c T173 L173 9 30 → T173.heap = T165.heap → Fr Z.heap.size L173 → ∀ (ex : Int32) (s16 : Slot) (s17 : Slot), (ex = (if by8 [(chv p1 (0 : Int32)), (chv p1 (1 : Int32)), (chv p1 (2 : Int32))] = by8 [c0, c1, c2] ∨ by8 [(chv p2 (0 : Int32)), (chv p2 (1 : Int32)), (chv p2 (2 : Int32))] = by8 [c0, c1, c2] then (1 : Int32) else 0)) → (One s16) → (One s17) → Go p e below (Fn s room_1.cells room_1.slots (Q_law Z p1 p2 p3 p4 cP h0)) T173 (mkF m 379 #[.val (.int p1), .val (.int p2), .val (.int p3), .val (.int p4), .val (.int (p4 &&& (3 : Int32))), .val (.int src), .val (.int (((p4.toUInt32 >>> ((2 : Int32) &&& 31).toUInt32).toInt32) &&& (3 : Int32))), .val (.int (((p4.toUInt32 >>> ((4 : Int32) &&& 31).toUInt32).toInt32) &&& (255 : Int32))), .val (.int c0), .val (.int c1), .val (.int c2), .val (.int sh), .val (.ref b107), .val (.ref b125), .val (.ref b158), .val (.int ex), s16, s17] []) := by
              intro T173 L173 X173 e173 N173 ex s16 s17 hex o16 o17
              have O175 : Ext Z.heap T165.heap := (Ext.keep O170 K165 (allS n_b158 all0))
              refine Go.newO (pc' := 382) C X173 (hw _ (List.mem_of_getElem? (i := 34) rfl)) (hw _ (List.mem_of_getElem? (i := 35) rfl)) (hw _ (List.mem_of_getElem? (i := 36) rfl)) e173 (by decide) (by decide) at_379 rfl ?_
              intro T174 h174 b174 X174 e174 g174 E174 A174 D174
              have n_b174 : Z.heap.size ≤ b174 := Nat.le_trans O175.1 (Nat.le_of_eq g174.symm)
              have z_b174 : h0.size ≤ b174 := Nat.le_trans (Nat.le_trans (Nat.le_trans (Nat.le_trans (Nat.le_trans (Nat.le_trans (Nat.le_trans (Nat.le_trans (Nat.le_trans (Nat.le_trans (Nat.le_trans (Nat.le_trans (Nat.le_trans (Nat.le_trans (Nat.le_trans (Nat.le_trans (Nat.le_trans (Nat.le_trans (Nat.le_trans (Nat.le_refl _) E107.1) E108.1) (Nat.le_of_eq W112.size.symm)) (Nat.le_of_eq W115.size.symm)) (Nat.le_of_eq W118.size.symm)) K119.1) E125.1) E127.1) (Nat.le_of_eq W131.size.symm)) (Nat.le_of_eq W134.size.symm)) (Nat.le_of_eq W137.size.symm)) K138.1) E158.1) E160.1) (Nat.le_of_eq W162.size.symm)) (Nat.le_of_eq W163.size.symm)) (Nat.le_of_eq W164.size.symm)) K165.1) (Nat.le_of_eq g174.symm)
              have F174_base : Fld Z h174 b174 "com/example/quoteloom/quoteloom/CurrencyPair" "base" "Ljava/lang/String;" .null := D174 (Or.inr (hw _ (List.mem_of_getElem? (i := 47) rfl))) (ty := (.object "java/lang/String")) (by decide)
              have F174_quote : Fld Z h174 b174 "com/example/quoteloom/quoteloom/CurrencyPair" "quote" "Ljava/lang/String;" .null := D174 (Or.inr (hw _ (List.mem_of_getElem? (i := 49) rfl))) (ty := (.object "java/lang/String")) (by decide)
              refine Go.dup (pc' := 383) C X174 at_382 rfl rfl ?_
              refine Go.aload (pc' := 385) C X174 at_383 rfl rfl rfl ?_
              refine Go.aload (pc' := 387) C X174 at_385 rfl rfl rfl ?_
              have O177 : Ext Z.heap h174 := (Ext.trans O175 E174)
              refine Go.callI (y := (⟨"com/example/quoteloom/quoteloom/CurrencyPair", "<init>", "(Ljava/lang/String;Ljava/lang/String;)V"⟩ : MethodName)) (a := b174) (pc' := 390) C X174 rfl (hw _ (List.mem_of_getElem? (i := 37) rfl)) (hw _ (List.mem_of_getElem? (i := 38) rfl)) (by decide) (rm_cp l Z a0 hw b174 b107 b125 h174 O177 A174 F174_base F174_quote n_b174) (hw _ (List.mem_of_getElem? (i := 39) rfl)) (hw _ (List.mem_of_getElem? (i := 36) rfl)) e174 (argsL := [(.ref b107), (.ref b125)]) (rest := [(.ref b174)]) (W := 1) rfl rfl pd_9 rfl (Nat.le_of_eq rfl) rfl (by decide) (by decide) (by decide) (by decide) rfl at_387 rfl ?_
              intro T176 v176 L176 X176 q176
              obtain ⟨rfl, N176q, K176, P176_0, P176_1⟩ := q176
              have N176 := Fr.app N173 N176q
              refine Go.astore (Ls' := #[.val (.int p1), .val (.int p2), .val (.int p3), .val (.int p4), .val (.int (p4 &&& (3 : Int32))), .val (.int src), .val (.int (((p4.toUInt32 >>> ((2 : Int32) &&& 31).toUInt32).toInt32) &&& (3 : Int32))), .val (.int (((p4.toUInt32 >>> ((4 : Int32) &&& 31).toUInt32).toInt32) &&& (255 : Int32))), .val (.int c0), .val (.int c1), .val (.int c2), .val (.int sh), .val (.ref b107), .val (.ref b125), .val (.ref b158), .val (.int ex), .val (.ref b174), s17]) (pc' := 392) C X176 at_390 rfl (XS.store1 (o := s16) rfl o16 rfl) rfl ?_
              refine Go.aload (pc' := 394) C X176 at_392 rfl rfl rfl ?_
              refine Go.aload (pc' := 396) C X176 at_394 rfl rfl rfl ?_
              have c179 : Exa Z T176.heap b107 "java/lang/String" := (Exa.keep (Exa.ext E174 (Exa.keep (Exa.wr W164 (Exa.wr W163 (Exa.wr W162 (Exa.ext E160 (Exa.ext E158 (Exa.keep (Exa.wr W137 (Exa.wr W134 (Exa.wr W131 (Exa.ext E127 (Exa.ext E125 (Exa.keep c120 K119)))))) K138)))))) K165)) K176)
              have ne180 : b107 ≠ b127 := Nat.ne_of_lt (Nat.lt_of_lt_of_le A107.lt (Nat.le_trans (Nat.le_trans (Nat.le_trans (Nat.le_trans (Nat.le_trans (Nat.le_trans (Nat.le_trans (Nat.le_refl _) E108.1) (Nat.le_of_eq W112.size.symm)) (Nat.le_of_eq W115.size.symm)) (Nat.le_of_eq W118.size.symm)) K119.1) E125.1) (Nat.le_of_eq g127.symm)))
              have ne181 : b107 ≠ b125 := Nat.ne_of_lt (Nat.lt_of_lt_of_le A107.lt (Nat.le_trans (Nat.le_trans (Nat.le_trans (Nat.le_trans (Nat.le_trans (Nat.le_trans (Nat.le_refl _) E108.1) (Nat.le_of_eq W112.size.symm)) (Nat.le_of_eq W115.size.symm)) (Nat.le_of_eq W118.size.symm)) K119.1) (Nat.le_of_eq g125.symm)))
              have ne182 : b107 ≠ b160 := Nat.ne_of_lt (Nat.lt_of_lt_of_le A107.lt (Nat.le_trans (Nat.le_trans (Nat.le_trans (Nat.le_trans (Nat.le_trans (Nat.le_trans (Nat.le_trans (Nat.le_trans (Nat.le_trans (Nat.le_trans (Nat.le_trans (Nat.le_trans (Nat.le_trans (Nat.le_refl _) E108.1) (Nat.le_of_eq W112.size.symm)) (Nat.le_of_eq W115.size.symm)) (Nat.le_of_eq W118.size.symm)) K119.1) E125.1) E127.1) (Nat.le_of_eq W131.size.symm)) (Nat.le_of_eq W134.size.symm)) (Nat.le_of_eq W137.size.symm)) K138.1) E158.1) (Nat.le_of_eq g160.symm)))
              have ne183 : b107 ≠ b158 := Nat.ne_of_lt (Nat.lt_of_lt_of_le A107.lt (Nat.le_trans (Nat.le_trans (Nat.le_trans (Nat.le_trans (Nat.le_trans (Nat.le_trans (Nat.le_trans (Nat.le_trans (Nat.le_trans (Nat.le_trans (Nat.le_trans (Nat.le_trans (Nat.le_refl _) E108.1) (Nat.le_of_eq W112.size.symm)) (Nat.le_of_eq W115.size.symm)) (Nat.le_of_eq W118.size.symm)) K119.1) E125.1) E127.1) (Nat.le_of_eq W131.size.symm)) (Nat.le_of_eq W134.size.symm)) (Nat.le_of_eq W137.size.symm)) K138.1) (Nat.le_of_eq g158.symm)))
              have ne184 : b107 ≠ b174 := Nat.ne_of_lt (Nat.lt_of_lt_of_le A107.lt (Nat.le_trans (Nat.le_trans (Nat.le_trans (Nat.le_trans (Nat.le_trans (Nat.le_trans (Nat.le_trans (Nat.le_trans (Nat.le_trans (Nat.le_trans (Nat.le_trans (Nat.le_trans (Nat.le_trans (Nat.le_trans (Nat.le_trans (Nat.le_trans (Nat.le_trans (Nat.le_trans (Nat.le_refl _) E108.1) (Nat.le_of_eq W112.size.symm)) (Nat.le_of_eq W115.size.symm)) (Nat.le_of_eq W118.size.symm)) K119.1) E125.1) E127.1) (Nat.le_of_eq W131.size.symm)) (Nat.le_of_eq W134.size.symm)) (Nat.le_of_eq W137.size.symm)) K138.1) E158.1) E160.1) (Nat.le_of_eq W162.size.symm)) (Nat.le_of_eq W163.size.symm)) (Nat.le_of_eq W164.size.symm)) K165.1) (Nat.le_of_eq g174.symm)))
              have c185 : Fld Z T176.heap b107 "java/lang/String" "value" "[B" (.ref v_119) := (Fld.keep (Fld.ext E174 (Fld.keep (Fld.other W164 (Fld.other W163 (Fld.other W162 (Fld.ext E160 (Fld.ext E158 (Fld.keep (Fld.other W137 (Fld.other W134 (Fld.other W131 (Fld.ext E127 (Fld.ext E125 P119_0)) (Or.inl ne180)) (Or.inl ne180)) (Or.inl ne180)) K138 (ninS ne181 nin0)))) (Or.inl ne182)) (Or.inl ne182)) (Or.inl ne182)) K165 (ninS ne183 nin0))) K176 (ninS ne184 nin0))
              have c186 : Fld Z T176.heap b107 "java/lang/String" "coder" "B" (.int (0 : Int32)) := (Fld.keep (Fld.ext E174 (Fld.keep (Fld.other W164 (Fld.other W163 (Fld.other W162 (Fld.ext E160 (Fld.ext E158 (Fld.keep (Fld.other W137 (Fld.other W134 (Fld.other W131 (Fld.ext E127 (Fld.ext E125 P119_1)) (Or.inl ne180)) (Or.inl ne180)) (Or.inl ne180)) K138 (ninS ne181 nin0)))) (Or.inl ne182)) (Or.inl ne182)) (Or.inl ne182)) K165 (ninS ne183 nin0))) K176 (ninS ne184 nin0))
              have ne187 : v_119 ≠ b127 := Nat.ne_of_lt (Nat.lt_of_lt_of_le P119_2.lt (Nat.le_trans (Nat.le_trans (Nat.le_refl _) E125.1) (Nat.le_of_eq g127.symm)))
              have ne188 : v_119 ≠ b125 := Nat.ne_of_lt (Nat.lt_of_lt_of_le P119_2.lt (Nat.le_trans (Nat.le_refl _) (Nat.le_of_eq g125.symm)))
              have ne189 : v_119 ≠ b160 := Nat.ne_of_lt (Nat.lt_of_lt_of_le P119_2.lt (Nat.le_trans (Nat.le_trans (Nat.le_trans (Nat.le_trans (Nat.le_trans (Nat.le_trans (Nat.le_trans (Nat.le_trans (Nat.le_refl _) E125.1) E127.1) (Nat.le_of_eq W131.size.symm)) (Nat.le_of_eq W134.size.symm)) (Nat.le_of_eq W137.size.symm)) K138.1) E158.1) (Nat.le_of_eq g160.symm)))
              have ne190 : v_119 ≠ b158 := Nat.ne_of_lt (Nat.lt_of_lt_of_le P119_2.lt (Nat.le_trans (Nat.le_trans (Nat.le_trans (Nat.le_trans (Nat.le_trans (Nat.le_trans (Nat.le_trans (Nat.le_refl _) E125.1) E127.1) (Nat.le_of_eq W131.size.symm)) (Nat.le_of_eq W134.size.symm)) (Nat.le_of_eq W137.size.symm)) K138.1) (Nat.le_of_eq g158.symm)))
              have ne191 : v_119 ≠ b174 := Nat.ne_of_lt (Nat.lt_of_lt_of_le P119_2.lt (Nat.le_trans (Nat.le_trans (Nat.le_trans (Nat.le_trans (Nat.le_trans (Nat.le_trans (Nat.le_trans (Nat.le_trans (Nat.le_trans (Nat.le_trans (Nat.le_trans (Nat.le_trans (Nat.le_trans (Nat.le_refl _) E125.1) E127.1) (Nat.le_of_eq W131.size.symm)) (Nat.le_of_eq W134.size.symm)) (Nat.le_of_eq W137.size.symm)) K138.1) E158.1) E160.1) (Nat.le_of_eq W162.size.symm)) (Nat.le_of_eq W163.size.symm)) (Nat.le_of_eq W164.size.symm)) K165.1) (Nat.le_of_eq g174.symm)))
              have c192 : AL Z T176.heap v_119 kv_119 .byte (by8 [(chv p1 (0 : Int32)), (chv p1 (1 : Int32)), (chv p1 (2 : Int32))]) := (AL.keep (AL.ext E174 (AL.keep (AL.other W164 (AL.other W163 (AL.other W162 (AL.ext E160 (AL.ext E158 (AL.keep (AL.other W137 (AL.other W134 (AL.other W131 (AL.ext E127 (AL.ext E125 P119_2)) ne187) ne187) ne187) K138 (ninS ne188 nin0)))) ne189) ne189) ne189) K165 (ninS ne190 nin0))) K176 (ninS ne191 nin0))
              have c193 : Exa Z T176.heap b125 "java/lang/String" := (Exa.keep (Exa.ext E174 (Exa.keep (Exa.wr W164 (Exa.wr W163 (Exa.wr W162 (Exa.ext E160 (Exa.ext E158 (Exa.keep c139 K138)))))) K165)) K176)
              have ne194 : b125 ≠ b160 := Nat.ne_of_lt (Nat.lt_of_lt_of_le A125.lt (Nat.le_trans (Nat.le_trans (Nat.le_trans (Nat.le_trans (Nat.le_trans (Nat.le_trans (Nat.le_trans (Nat.le_refl _) E127.1) (Nat.le_of_eq W131.size.symm)) (Nat.le_of_eq W134.size.symm)) (Nat.le_of_eq W137.size.symm)) K138.1) E158.1) (Nat.le_of_eq g160.symm)))
              have ne195 : b125 ≠ b158 := Nat.ne_of_lt (Nat.lt_of_lt_of_le A125.lt (Nat.le_trans (Nat.le_trans (Nat.le_trans (Nat.le_trans (Nat.le_trans (Nat.le_trans (Nat.le_refl _) E127.1) (Nat.le_of_eq W131.size.symm)) (Nat.le_of_eq W134.size.symm)) (Nat.le_of_eq W137.size.symm)) K138.1) (Nat.le_of_eq g158.symm)))
              have ne196 : b125 ≠ b174 := Nat.ne_of_lt (Nat.lt_of_lt_of_le A125.lt (Nat.le_trans (Nat.le_trans (Nat.le_trans (Nat.le_trans (Nat.le_trans (Nat.le_trans (Nat.le_trans (Nat.le_trans (Nat.le_trans (Nat.le_trans (Nat.le_trans (Nat.le_trans (Nat.le_refl _) E127.1) (Nat.le_of_eq W131.size.symm)) (Nat.le_of_eq W134.size.symm)) (Nat.le_of_eq W137.size.symm)) K138.1) E158.1) E160.1) (Nat.le_of_eq W162.size.symm)) (Nat.le_of_eq W163.size.symm)) (Nat.le_of_eq W164.size.symm)) K165.1) (Nat.le_of_eq g174.symm)))
              have c197 : Fld Z T176.heap b125 "java/lang/String" "value" "[B" (.ref v_138) := (Fld.keep (Fld.ext E174 (Fld.keep (Fld.other W164 (Fld.other W163 (Fld.other W162 (Fld.ext E160 (Fld.ext E158 P138_0)) (Or.inl ne194)) (Or.inl ne194)) (Or.inl ne194)) K165 (ninS ne195 nin0))) K176 (ninS ne196 nin0))
              have c198 : Fld Z T176.heap b125 "java/lang/String" "coder" "B" (.int (0 : Int32)) := (Fld.keep (Fld.ext E174 (Fld.keep (Fld.other W164 (Fld.other W163 (Fld.other W162 (Fld.ext E160 (Fld.ext E158 P138_1)) (Or.inl ne194)) (Or.inl ne194)) (Or.inl ne194)) K165 (ninS ne195 nin0))) K176 (ninS ne196 nin0))
              have ne199 : v_138 ≠ b160 := Nat.ne_of_lt (Nat.lt_of_lt_of_le P138_2.lt (Nat.le_trans (Nat.le_trans (Nat.le_refl _) E158.1) (Nat.le_of_eq g160.symm)))
              have ne200 : v_138 ≠ b158 := Nat.ne_of_lt (Nat.lt_of_lt_of_le P138_2.lt (Nat.le_trans (Nat.le_refl _) (Nat.le_of_eq g158.symm)))
              have ne201 : v_138 ≠ b174 := Nat.ne_of_lt (Nat.lt_of_lt_of_le P138_2.lt (Nat.le_trans (Nat.le_trans (Nat.le_trans (Nat.le_trans (Nat.le_trans (Nat.le_trans (Nat.le_trans (Nat.le_refl _) E158.1) E160.1) (Nat.le_of_eq W162.size.symm)) (Nat.le_of_eq W163.size.symm)) (Nat.le_of_eq W164.size.symm)) K165.1) (Nat.le_of_eq g174.symm)))
              have c202 : AL Z T176.heap v_138 kv_138 .byte (by8 [(chv p2 (0 : Int32)), (chv p2 (1 : Int32)), (chv p2 (2 : Int32))]) := (AL.keep (AL.ext E174 (AL.keep (AL.other W164 (AL.other W163 (AL.other W162 (AL.ext E160 (AL.ext E158 P138_2)) ne199) ne199) ne199) K165 (ninS ne200 nin0))) K176 (ninS ne201 nin0))
              have c203 : Exa Z T176.heap b158 "java/lang/String" := (Exa.keep (Exa.ext E174 (Exa.keep c166 K165)) K176)
              have ne204 : b158 ≠ b174 := Nat.ne_of_lt (Nat.lt_of_lt_of_le A158.lt (Nat.le_trans (Nat.le_trans (Nat.le_trans (Nat.le_trans (Nat.le_trans (Nat.le_trans (Nat.le_refl _) E160.1) (Nat.le_of_eq W162.size.symm)) (Nat.le_of_eq W163.size.symm)) (Nat.le_of_eq W164.size.symm)) K165.1) (Nat.le_of_eq g174.symm)))
              have c205 : Fld Z T176.heap b158 "java/lang/String" "value" "[B" (.ref v_165) := (Fld.keep (Fld.ext E174 P165_0) K176 (ninS ne204 nin0))
              have c206 : Fld Z T176.heap b158 "java/lang/String" "coder" "B" (.int (0 : Int32)) := (Fld.keep (Fld.ext E174 P165_1) K176 (ninS ne204 nin0))
              have ne207 : v_165 ≠ b174 := Nat.ne_of_lt (Nat.lt_of_lt_of_le P165_2.lt (Nat.le_trans (Nat.le_refl _) (Nat.le_of_eq g174.symm)))
              have c208 : AL Z T176.heap v_165 kv_165 .byte (by8 [c0, c1, c2]) := (AL.keep (AL.ext E174 P165_2) K176 (ninS ne207 nin0))
              have O209 : Ext Z.heap T176.heap := (Ext.keep O177 K176 (allS n_b174 all0))
              have c210 : Exa Z T176.heap b174 "com/example/quoteloom/quoteloom/CurrencyPair" := (Exa.keep A174 K176)
              refine Go.callV (y := (⟨"com/example/quoteloom/quoteloom/CurrencyPair", "has", "(Ljava/lang/String;)Z"⟩ : MethodName)) (z := (⟨"com/example/quoteloom/quoteloom/CurrencyPair", "has", "(Ljava/lang/String;)Z"⟩ : MethodName)) (a := b174) (pc' := 399) C X176 (hw _ (List.mem_of_getElem? (i := 50) rfl)) (hw _ (List.mem_of_getElem? (i := 51) rfl)) (notFace_at C.2.1 (hw _ (List.mem_of_getElem? (i := 53) rfl))) (hw _ (List.mem_of_getElem? (i := 53) rfl)) (hw _ (List.mem_of_getElem? (i := 52) rfl)) c210 (by decide) (rm_hasS l Z a0 hw b174 b107 b125 b158 v_119 v_138 v_165 kv_119 kv_138 kv_165 ([(chv p1 (0 : Int32)), (chv p1 (1 : Int32)), (chv p1 (2 : Int32))]) ([(chv p2 (0 : Int32)), (chv p2 (1 : Int32)), (chv p2 (2 : Int32))]) ([c0, c1, c2]) cP T176.heap O209 P176_0 P176_1 SC c179 c185 c186 c192 c193 c197 c198 c202 c203 c205 c206 c208 ne183 ne195 hP (show (3 : Nat) < 2 ^ 31 from by decide) (show (3 : Nat) < 2 ^ 31 from by decide) (show (3 : Nat) < 2 ^ 31 from by decide)) (hw _ (List.mem_of_getElem? (i := 54) rfl)) (hw _ (List.mem_of_getElem? (i := 36) rfl)) rfl (argsL := [(.ref b158)]) (rest := []) (W := 0) rfl rfl pd_10 rfl (Nat.le_of_eq rfl) rfl (by decide) (by decide) (by decide) (by decide) at_396 rfl ?_
              intro T178 v178 L178 X178 q178
              obtain ⟨rfl, rfl, e178⟩ := q178
              have N178 := Fr.app N176 (Fr.nil _)
              refine Go.iload (pc' := 401) C X178 at_399 rfl rfl ?_
              refine Go.icmpNo (pc' := 404) C X178 at_401 (teq (x := (if by8 [(chv p1 (0 : Int32)), (chv p1 (1 : Int32)), (chv p1 (2 : Int32))] = by8 [c0, c1, c2] ∨ by8 [(chv p2 (0 : Int32)), (chv p2 (1 : Int32)), (chv p2 (2 : Int32))] = by8 [c0, c1, c2] then (1 : Int32) else 0)) (y := ex) hex.symm).2 rfl ?_
              refine Go.iconst (z := (1 : Int32)) (pc' := 405) C X178 at_404 rfl rfl ?_
              refine Go.goto (pc' := 409) C X178 at_405 (by decide) (by decide) ?_
              have K212 : Keep h0 T176.heap [] := (((((((((((((((((((((Keep.refl h0 []).ext E107).ext E108).wr W112 (Or.inr z_b108)).wr W115 (Or.inr z_b108)).wr W118 (Or.inr z_b108)).trans K119 (allS (Or.inr z_b107) all0)).ext E125).ext E127).wr W131 (Or.inr z_b127)).wr W134 (Or.inr z_b127)).wr W137 (Or.inr z_b127)).trans K138 (allS (Or.inr z_b125) all0)).ext E158).ext E160).wr W162 (Or.inr z_b160)).wr W163 (Or.inr z_b160)).wr W164 (Or.inr z_b160)).trans K165 (allS (Or.inr z_b158) all0)).ext E174).trans K176 (allS (Or.inr z_b174) all0))
              exact Go.retN C X178 rfl at_409 (by simp) (by rw [e178]; exact ⟨rfl, N178, K212⟩) (by decide) (by decide)
            have K362 : ∀ (T213 : State) (L213 : List Loc), Stand p l e room_1 s m #[(.int p1), (.int p2), (.int p3), (.int p4)] below meth c T213 L213 9 30 → T213.heap = T165.heap → Fr Z.heap.size L213 → ∀ (isb : Int32) (isq : Int32), (isb = (if by8 [(chv p1 (0 : Int32)), (chv p1 (1 : Int32)), (chv p1 (2 : Int32))] = by8 [c0, c1, c2] then (1 : Int32) else 0)) → (isq = (if by8 [(chv p2 (0 : Int32)), (chv p2 (1 : Int32)), (chv p2 (2 : Int32))] = by8 [c0, c1, c2] then (1 : Int32) else 0)) → Go p e below (Fn s room_1.cells room_1.slots (Q_law Z p1 p2 p3 p4 cP h0)) T213 (mkF m 362 #[.val (.int p1), .val (.int p2), .val (.int p3), .val (.int p4), .val (.int (p4 &&& (3 : Int32))), .val (.int src), .val (.int (((p4.toUInt32 >>> ((2 : Int32) &&& 31).toUInt32).toInt32) &&& (3 : Int32))), .val (.int (((p4.toUInt32 >>> ((4 : Int32) &&& 31).toUInt32).toInt32) &&& (255 : Int32))), .val (.int c0), .val (.int c1), .val (.int c2), .val (.int sh), .val (.ref b107), .val (.ref b125), .val (.ref b158), .unset, .val (.int isb), .val (.int isq)] []) := by
              intro T213 L213 X213 e213 N213 isb isq hb hq
              refine Go.iload (pc' := 364) C X213 at_362 rfl rfl ?_
              by_cases hc364_214 : isb = (0 : Int32)
              · refine Go.ifNo (pc' := 367) C X213 at_364 ((if0 _ _).trans (teq (x := isb) (y := (0 : Int32)) hc364_214).2) rfl ?_
                refine Go.iload (pc' := 369) C X213 at_367 rfl rfl ?_
                by_cases hc369_215 : isq = (0 : Int32)
                · refine Go.ifYes (pc' := 376) C X213 at_369 ((if0 _ _).trans (teq (x := isq) (y := (0 : Int32)) hc369_215).1) (by decide) (by decide) ?_
                  refine Go.iconst (z := (0 : Int32)) (pc' := 377) C X213 at_376 rfl rfl ?_
                  refine Go.istore (Ls' := #[.val (.int p1), .val (.int p2), .val (.int p3), .val (.int p4), .val (.int (p4 &&& (3 : Int32))), .val (.int src), .val (.int (((p4.toUInt32 >>> ((2 : Int32) &&& 31).toUInt32).toInt32) &&& (3 : Int32))), .val (.int (((p4.toUInt32 >>> ((4 : Int32) &&& 31).toUInt32).toInt32) &&& (255 : Int32))), .val (.int c0), .val (.int c1), .val (.int c2), .val (.int sh), .val (.ref b107), .val (.ref b125), .val (.ref b158), .val (.int (0 : Int32)), .val (.int isb), .val (.int isq)]) (pc' := 379) C X213 at_377 rfl rfl ?_
                  exact K379 _ _ X213 e213 N213 (0 : Int32) (.val (.int isb)) (.val (.int isq)) (by rw [if_neg (fun q => q.elim (own_ifz (hb ▸ hc364_214)) (own_ifz (hq ▸ hc369_215)))]) (One.val rfl) (One.val rfl)
                · refine Go.ifNo (pc' := 372) C X213 at_369 ((if0 _ _).trans (feq (x := isq) (y := (0 : Int32)) hc369_215).1) rfl ?_
                  refine Go.iconst (z := (1 : Int32)) (pc' := 373) C X213 at_372 rfl rfl ?_
                  refine Go.goto (pc' := 377) C X213 at_373 (by decide) (by decide) ?_
                  refine Go.istore (Ls' := #[.val (.int p1), .val (.int p2), .val (.int p3), .val (.int p4), .val (.int (p4 &&& (3 : Int32))), .val (.int src), .val (.int (((p4.toUInt32 >>> ((2 : Int32) &&& 31).toUInt32).toInt32) &&& (3 : Int32))), .val (.int (((p4.toUInt32 >>> ((4 : Int32) &&& 31).toUInt32).toInt32) &&& (255 : Int32))), .val (.int c0), .val (.int c1), .val (.int c2), .val (.int sh), .val (.ref b107), .val (.ref b125), .val (.ref b158), .val (.int (1 : Int32)), .val (.int isb), .val (.int isq)]) (pc' := 379) C X213 at_377 rfl rfl ?_
                  exact K379 _ _ X213 e213 N213 (1 : Int32) (.val (.int isb)) (.val (.int isq)) (by rw [if_pos (Or.inr (own_ifn (hq ▸ hc369_215)))]) (One.val rfl) (One.val rfl)
              · refine Go.ifYes (pc' := 372) C X213 at_364 ((if0 _ _).trans (feq (x := isb) (y := (0 : Int32)) hc364_214).2) (by decide) (by decide) ?_
                refine Go.iconst (z := (1 : Int32)) (pc' := 373) C X213 at_372 rfl rfl ?_
                refine Go.goto (pc' := 377) C X213 at_373 (by decide) (by decide) ?_
                refine Go.istore (Ls' := #[.val (.int p1), .val (.int p2), .val (.int p3), .val (.int p4), .val (.int (p4 &&& (3 : Int32))), .val (.int src), .val (.int (((p4.toUInt32 >>> ((2 : Int32) &&& 31).toUInt32).toInt32) &&& (3 : Int32))), .val (.int (((p4.toUInt32 >>> ((4 : Int32) &&& 31).toUInt32).toInt32) &&& (255 : Int32))), .val (.int c0), .val (.int c1), .val (.int c2), .val (.int sh), .val (.ref b107), .val (.ref b125), .val (.ref b158), .val (.int (1 : Int32)), .val (.int isb), .val (.int isq)]) (pc' := 379) C X213 at_377 rfl rfl ?_
                exact K379 _ _ X213 e213 N213 (1 : Int32) (.val (.int isb)) (.val (.int isq)) (by rw [if_pos (Or.inl (own_ifn (hb ▸ hc364_214)))]) (One.val rfl) (One.val rfl)
            have K325 : ∀ (T216 : State) (L216 : List Loc), Stand p l e room_1 s m #[(.int p1), (.int p2), (.int p3), (.int p4)] below meth c T216 L216 9 30 → T216.heap = T165.heap → Fr Z.heap.size L216 → ∀ (isb : Int32), (isb = (if by8 [(chv p1 (0 : Int32)), (chv p1 (1 : Int32)), (chv p1 (2 : Int32))] = by8 [c0, c1, c2] then (1 : Int32) else 0)) → Go p e below (Fn s room_1.cells room_1.slots (Q_law Z p1 p2 p3 p4 cP h0)) T216 (mkF m 325 #[.val (.int p1), .val (.int p2), .val (.int p3), .val (.int p4), .val (.int (p4 &&& (3 : Int32))), .val (.int src), .val (.int (((p4.toUInt32 >>> ((2 : Int32) &&& 31).toUInt32).toInt32) &&& (3 : Int32))), .val (.int (((p4.toUInt32 >>> ((4 : Int32) &&& 31).toUInt32).toInt32) &&& (255 : Int32))), .val (.int c0), .val (.int c1), .val (.int c2), .val (.int sh), .val (.ref b107), .val (.ref b125), .val (.ref b158), .unset, .val (.int isb), .unset] []) := by
              intro T216 L216 X216 e216 N216 isb hb
              refine Go.iload (pc' := 327) C X216 at_325 rfl rfl ?_
              refine Go.iloadN (pc' := 328) C X216 at_327 rfl rfl ?_
              refine Go.iconst (z := (0 : Int32)) (pc' := 329) C X216 at_328 rfl rfl ?_
              have O218 : Ext Z.heap T165.heap := (Ext.keep O170 K165 (allS n_b158 all0))
              refine Go.callS (y := (⟨"com/example/quoteloom/quoteloom/CurrencyPairHasPinLaw", "ch", "(II)C"⟩ : MethodName)) (pc' := 332) C X216 (hw _ (List.mem_of_getElem? (i := 0) rfl)) (hw _ (List.mem_of_getElem? (i := 1) rfl)) (by decide) (rm_ch l Z a0 hw p2 ((0 : Int32)) T165.heap O218 ) (hw _ (List.mem_of_getElem? (i := 3) rfl)) (hw _ (List.mem_of_getElem? (i := 2) rfl)) e216 (argsL := [(.int p2), (.int (0 : Int32))]) (rest := [(.int c0)]) (W := 1) rfl rfl pd_7 rfl (Nat.le_of_eq rfl) rfl (by decide) (by decide) (by decide) (by decide) at_329 rfl ?_
              intro T217 v217 L217 X217 q217
              obtain ⟨rfl, rfl, e217⟩ := q217
              have N217 := Fr.app N216 (Fr.nil _)
              by_cases hc332_219 : c0 = (chv p2 (0 : Int32))
              · refine Go.icmpNo (pc' := 335) C X217 at_332 (teq (x := c0) (y := (chv p2 (0 : Int32))) hc332_219).2 rfl ?_
                refine Go.iload (pc' := 337) C X217 at_335 rfl rfl ?_
                refine Go.iloadN (pc' := 338) C X217 at_337 rfl rfl ?_
                refine Go.iconst (z := (1 : Int32)) (pc' := 339) C X217 at_338 rfl rfl ?_
                refine Go.callS (y := (⟨"com/example/quoteloom/quoteloom/CurrencyPairHasPinLaw", "ch", "(II)C"⟩ : MethodName)) (pc' := 342) C X217 (hw _ (List.mem_of_getElem? (i := 0) rfl)) (hw _ (List.mem_of_getElem? (i := 1) rfl)) (by decide) (rm_ch l Z a0 hw p2 ((1 : Int32)) T165.heap O218 ) (hw _ (List.mem_of_getElem? (i := 3) rfl)) (hw _ (List.mem_of_getElem? (i := 2) rfl)) e217 (argsL := [(.int p2), (.int (1 : Int32))]) (rest := [(.int c1)]) (W := 1) rfl rfl pd_7 rfl (Nat.le_of_eq rfl) rfl (by decide) (by decide) (by decide) (by decide) at_339 rfl ?_
                intro T220 v220 L220 X220 q220
                obtain ⟨rfl, rfl, e220⟩ := q220
                have N220 := Fr.app N217 (Fr.nil _)
                by_cases hc342_221 : c1 = (chv p2 (1 : Int32))
                · refine Go.icmpNo (pc' := 345) C X220 at_342 (teq (x := c1) (y := (chv p2 (1 : Int32))) hc342_221).2 rfl ?_
                  refine Go.iload (pc' := 347) C X220 at_345 rfl rfl ?_
                  refine Go.iloadN (pc' := 348) C X220 at_347 rfl rfl ?_
                  refine Go.iconst (z := (2 : Int32)) (pc' := 349) C X220 at_348 rfl rfl ?_
                  refine Go.callS (y := (⟨"com/example/quoteloom/quoteloom/CurrencyPairHasPinLaw", "ch", "(II)C"⟩ : MethodName)) (pc' := 352) C X220 (hw _ (List.mem_of_getElem? (i := 0) rfl)) (hw _ (List.mem_of_getElem? (i := 1) rfl)) (by decide) (rm_ch l Z a0 hw p2 ((2 : Int32)) T165.heap O218 ) (hw _ (List.mem_of_getElem? (i := 3) rfl)) (hw _ (List.mem_of_getElem? (i := 2) rfl)) e220 (argsL := [(.int p2), (.int (2 : Int32))]) (rest := [(.int c2)]) (W := 1) rfl rfl pd_7 rfl (Nat.le_of_eq rfl) rfl (by decide) (by decide) (by decide) (by decide) at_349 rfl ?_
                  intro T222 v222 L222 X222 q222
                  obtain ⟨rfl, rfl, e222⟩ := q222
                  have N222 := Fr.app N220 (Fr.nil _)
                  by_cases hc352_223 : c2 = (chv p2 (2 : Int32))
                  · refine Go.icmpNo (pc' := 355) C X222 at_352 (teq (x := c2) (y := (chv p2 (2 : Int32))) hc352_223).2 rfl ?_
                    refine Go.iconst (z := (1 : Int32)) (pc' := 356) C X222 at_355 rfl rfl ?_
                    refine Go.goto (pc' := 360) C X222 at_356 (by decide) (by decide) ?_
                    refine Go.istore (Ls' := #[.val (.int p1), .val (.int p2), .val (.int p3), .val (.int p4), .val (.int (p4 &&& (3 : Int32))), .val (.int src), .val (.int (((p4.toUInt32 >>> ((2 : Int32) &&& 31).toUInt32).toInt32) &&& (3 : Int32))), .val (.int (((p4.toUInt32 >>> ((4 : Int32) &&& 31).toUInt32).toInt32) &&& (255 : Int32))), .val (.int c0), .val (.int c1), .val (.int c2), .val (.int sh), .val (.ref b107), .val (.ref b125), .val (.ref b158), .unset, .val (.int isb), .val (.int (1 : Int32))]) (pc' := 362) C X222 at_360 rfl rfl ?_
                    exact K362 _ _ X222 e222 N222 isb (1 : Int32) hb (by rw [if_pos ((own_l3 (own_chv _ _) (own_chv _ _) (own_chv _ _) rc0 rc1 rc2).mpr ⟨hc332_219, hc342_221, hc352_223⟩)])
                  · refine Go.icmpYes (pc' := 359) C X222 at_352 (feq (x := c2) (y := (chv p2 (2 : Int32))) hc352_223).2 (by decide) (by decide) ?_
                    refine Go.iconst (z := (0 : Int32)) (pc' := 360) C X222 at_359 rfl rfl ?_
                    refine Go.istore (Ls' := #[.val (.int p1), .val (.int p2), .val (.int p3), .val (.int p4), .val (.int (p4 &&& (3 : Int32))), .val (.int src), .val (.int (((p4.toUInt32 >>> ((2 : Int32) &&& 31).toUInt32).toInt32) &&& (3 : Int32))), .val (.int (((p4.toUInt32 >>> ((4 : Int32) &&& 31).toUInt32).toInt32) &&& (255 : Int32))), .val (.int c0), .val (.int c1), .val (.int c2), .val (.int sh), .val (.ref b107), .val (.ref b125), .val (.ref b158), .unset, .val (.int isb), .val (.int (0 : Int32))]) (pc' := 362) C X222 at_360 rfl rfl ?_
                    exact K362 _ _ X222 e222 N222 isb (0 : Int32) hb (by rw [if_neg (fun q => hc352_223 ((own_l3 (own_chv _ _) (own_chv _ _) (own_chv _ _) rc0 rc1 rc2).mp q).2.2)])
                · refine Go.icmpYes (pc' := 359) C X220 at_342 (feq (x := c1) (y := (chv p2 (1 : Int32))) hc342_221).2 (by decide) (by decide) ?_
                  refine Go.iconst (z := (0 : Int32)) (pc' := 360) C X220 at_359 rfl rfl ?_
                  refine Go.istore (Ls' := #[.val (.int p1), .val (.int p2), .val (.int p3), .val (.int p4), .val (.int (p4 &&& (3 : Int32))), .val (.int src), .val (.int (((p4.toUInt32 >>> ((2 : Int32) &&& 31).toUInt32).toInt32) &&& (3 : Int32))), .val (.int (((p4.toUInt32 >>> ((4 : Int32) &&& 31).toUInt32).toInt32) &&& (255 : Int32))), .val (.int c0), .val (.int c1), .val (.int c2), .val (.int sh), .val (.ref b107), .val (.ref b125), .val (.ref b158), .unset, .val (.int isb), .val (.int (0 : Int32))]) (pc' := 362) C X220 at_360 rfl rfl ?_
                  exact K362 _ _ X220 e220 N220 isb (0 : Int32) hb (by rw [if_neg (fun q => hc342_221 ((own_l3 (own_chv _ _) (own_chv _ _) (own_chv _ _) rc0 rc1 rc2).mp q).2.1)])
              · refine Go.icmpYes (pc' := 359) C X217 at_332 (feq (x := c0) (y := (chv p2 (0 : Int32))) hc332_219).2 (by decide) (by decide) ?_
                refine Go.iconst (z := (0 : Int32)) (pc' := 360) C X217 at_359 rfl rfl ?_
                refine Go.istore (Ls' := #[.val (.int p1), .val (.int p2), .val (.int p3), .val (.int p4), .val (.int (p4 &&& (3 : Int32))), .val (.int src), .val (.int (((p4.toUInt32 >>> ((2 : Int32) &&& 31).toUInt32).toInt32) &&& (3 : Int32))), .val (.int (((p4.toUInt32 >>> ((4 : Int32) &&& 31).toUInt32).toInt32) &&& (255 : Int32))), .val (.int c0), .val (.int c1), .val (.int c2), .val (.int sh), .val (.ref b107), .val (.ref b125), .val (.ref b158), .unset, .val (.int isb), .val (.int (0 : Int32))]) (pc' := 362) C X217 at_360 rfl rfl ?_
                exact K362 _ _ X217 e217 N217 isb (0 : Int32) hb (by rw [if_neg (fun q => hc332_219 ((own_l3 (own_chv _ _) (own_chv _ _) (own_chv _ _) rc0 rc1 rc2).mp q).1)])
            refine Go.iload (pc' := 290) C X165 at_288 rfl rfl ?_
            refine Go.iloadN (pc' := 291) C X165 at_290 rfl rfl ?_
            refine Go.iconst (z := (0 : Int32)) (pc' := 292) C X165 at_291 rfl rfl ?_
            have O225 : Ext Z.heap T165.heap := (Ext.keep O170 K165 (allS n_b158 all0))
            refine Go.callS (y := (⟨"com/example/quoteloom/quoteloom/CurrencyPairHasPinLaw", "ch", "(II)C"⟩ : MethodName)) (pc' := 295) C X165 (hw _ (List.mem_of_getElem? (i := 0) rfl)) (hw _ (List.mem_of_getElem? (i := 1) rfl)) (by decide) (rm_ch l Z a0 hw p1 ((0 : Int32)) T165.heap O225 ) (hw _ (List.mem_of_getElem? (i := 3) rfl)) (hw _ (List.mem_of_getElem? (i := 2) rfl)) rfl (argsL := [(.int p1), (.int (0 : Int32))]) (rest := [(.int c0)]) (W := 1) rfl rfl pd_7 rfl (Nat.le_of_eq rfl) rfl (by decide) (by decide) (by decide) (by decide) at_292 rfl ?_
            intro T224 v224 L224 X224 q224
            obtain ⟨rfl, rfl, e224⟩ := q224
            have N224 := Fr.app N165 (Fr.nil _)
            by_cases hc295_226 : c0 = (chv p1 (0 : Int32))
            · refine Go.icmpNo (pc' := 298) C X224 at_295 (teq (x := c0) (y := (chv p1 (0 : Int32))) hc295_226).2 rfl ?_
              refine Go.iload (pc' := 300) C X224 at_298 rfl rfl ?_
              refine Go.iloadN (pc' := 301) C X224 at_300 rfl rfl ?_
              refine Go.iconst (z := (1 : Int32)) (pc' := 302) C X224 at_301 rfl rfl ?_
              refine Go.callS (y := (⟨"com/example/quoteloom/quoteloom/CurrencyPairHasPinLaw", "ch", "(II)C"⟩ : MethodName)) (pc' := 305) C X224 (hw _ (List.mem_of_getElem? (i := 0) rfl)) (hw _ (List.mem_of_getElem? (i := 1) rfl)) (by decide) (rm_ch l Z a0 hw p1 ((1 : Int32)) T165.heap O225 ) (hw _ (List.mem_of_getElem? (i := 3) rfl)) (hw _ (List.mem_of_getElem? (i := 2) rfl)) e224 (argsL := [(.int p1), (.int (1 : Int32))]) (rest := [(.int c1)]) (W := 1) rfl rfl pd_7 rfl (Nat.le_of_eq rfl) rfl (by decide) (by decide) (by decide) (by decide) at_302 rfl ?_
              intro T227 v227 L227 X227 q227
              obtain ⟨rfl, rfl, e227⟩ := q227
              have N227 := Fr.app N224 (Fr.nil _)
              by_cases hc305_228 : c1 = (chv p1 (1 : Int32))
              · refine Go.icmpNo (pc' := 308) C X227 at_305 (teq (x := c1) (y := (chv p1 (1 : Int32))) hc305_228).2 rfl ?_
                refine Go.iload (pc' := 310) C X227 at_308 rfl rfl ?_
                refine Go.iloadN (pc' := 311) C X227 at_310 rfl rfl ?_
                refine Go.iconst (z := (2 : Int32)) (pc' := 312) C X227 at_311 rfl rfl ?_
                refine Go.callS (y := (⟨"com/example/quoteloom/quoteloom/CurrencyPairHasPinLaw", "ch", "(II)C"⟩ : MethodName)) (pc' := 315) C X227 (hw _ (List.mem_of_getElem? (i := 0) rfl)) (hw _ (List.mem_of_getElem? (i := 1) rfl)) (by decide) (rm_ch l Z a0 hw p1 ((2 : Int32)) T165.heap O225 ) (hw _ (List.mem_of_getElem? (i := 3) rfl)) (hw _ (List.mem_of_getElem? (i := 2) rfl)) e227 (argsL := [(.int p1), (.int (2 : Int32))]) (rest := [(.int c2)]) (W := 1) rfl rfl pd_7 rfl (Nat.le_of_eq rfl) rfl (by decide) (by decide) (by decide) (by decide) at_312 rfl ?_
                intro T229 v229 L229 X229 q229
                obtain ⟨rfl, rfl, e229⟩ := q229
                have N229 := Fr.app N227 (Fr.nil _)
                by_cases hc315_230 : c2 = (chv p1 (2 : Int32))
                · refine Go.icmpNo (pc' := 318) C X229 at_315 (teq (x := c2) (y := (chv p1 (2 : Int32))) hc315_230).2 rfl ?_
                  refine Go.iconst (z := (1 : Int32)) (pc' := 319) C X229 at_318 rfl rfl ?_
                  refine Go.goto (pc' := 323) C X229 at_319 (by decide) (by decide) ?_
                  refine Go.istore (Ls' := #[.val (.int p1), .val (.int p2), .val (.int p3), .val (.int p4), .val (.int (p4 &&& (3 : Int32))), .val (.int src), .val (.int (((p4.toUInt32 >>> ((2 : Int32) &&& 31).toUInt32).toInt32) &&& (3 : Int32))), .val (.int (((p4.toUInt32 >>> ((4 : Int32) &&& 31).toUInt32).toInt32) &&& (255 : Int32))), .val (.int c0), .val (.int c1), .val (.int c2), .val (.int sh), .val (.ref b107), .val (.ref b125), .val (.ref b158), .unset, .val (.int (1 : Int32)), .unset]) (pc' := 325) C X229 at_323 rfl rfl ?_
                  exact K325 _ _ X229 e229 N229 (1 : Int32) (by rw [if_pos ((own_l3 (own_chv _ _) (own_chv _ _) (own_chv _ _) rc0 rc1 rc2).mpr ⟨hc295_226, hc305_228, hc315_230⟩)])
                · refine Go.icmpYes (pc' := 322) C X229 at_315 (feq (x := c2) (y := (chv p1 (2 : Int32))) hc315_230).2 (by decide) (by decide) ?_
                  refine Go.iconst (z := (0 : Int32)) (pc' := 323) C X229 at_322 rfl rfl ?_
                  refine Go.istore (Ls' := #[.val (.int p1), .val (.int p2), .val (.int p3), .val (.int p4), .val (.int (p4 &&& (3 : Int32))), .val (.int src), .val (.int (((p4.toUInt32 >>> ((2 : Int32) &&& 31).toUInt32).toInt32) &&& (3 : Int32))), .val (.int (((p4.toUInt32 >>> ((4 : Int32) &&& 31).toUInt32).toInt32) &&& (255 : Int32))), .val (.int c0), .val (.int c1), .val (.int c2), .val (.int sh), .val (.ref b107), .val (.ref b125), .val (.ref b158), .unset, .val (.int (0 : Int32)), .unset]) (pc' := 325) C X229 at_323 rfl rfl ?_
                  exact K325 _ _ X229 e229 N229 (0 : Int32) (by rw [if_neg (fun q => hc315_230 ((own_l3 (own_chv _ _) (own_chv _ _) (own_chv _ _) rc0 rc1 rc2).mp q).2.2)])
              · refine Go.icmpYes (pc' := 322) C X227 at_305 (feq (x := c1) (y := (chv p1 (1 : Int32))) hc305_228).2 (by decide) (by decide) ?_
                refine Go.iconst (z := (0 : Int32)) (pc' := 323) C X227 at_322 rfl rfl ?_
                refine Go.istore (Ls' := #[.val (.int p1), .val (.int p2), .val (.int p3), .val (.int p4), .val (.int (p4 &&& (3 : Int32))), .val (.int src), .val (.int (((p4.toUInt32 >>> ((2 : Int32) &&& 31).toUInt32).toInt32) &&& (3 : Int32))), .val (.int (((p4.toUInt32 >>> ((4 : Int32) &&& 31).toUInt32).toInt32) &&& (255 : Int32))), .val (.int c0), .val (.int c1), .val (.int c2), .val (.int sh), .val (.ref b107), .val (.ref b125), .val (.ref b158), .unset, .val (.int (0 : Int32)), .unset]) (pc' := 325) C X227 at_323 rfl rfl ?_
                exact K325 _ _ X227 e227 N227 (0 : Int32) (by rw [if_neg (fun q => hc305_228 ((own_l3 (own_chv _ _) (own_chv _ _) (own_chv _ _) rc0 rc1 rc2).mp q).2.1)])
            · refine Go.icmpYes (pc' := 322) C X224 at_295 (feq (x := c0) (y := (chv p1 (0 : Int32))) hc295_226).2 (by decide) (by decide) ?_
              refine Go.iconst (z := (0 : Int32)) (pc' := 323) C X224 at_322 rfl rfl ?_
              refine Go.istore (Ls' := #[.val (.int p1), .val (.int p2), .val (.int p3), .val (.int p4), .val (.int (p4 &&& (3 : Int32))), .val (.int src), .val (.int (((p4.toUInt32 >>> ((2 : Int32) &&& 31).toUInt32).toInt32) &&& (3 : Int32))), .val (.int (((p4.toUInt32 >>> ((4 : Int32) &&& 31).toUInt32).toInt32) &&& (255 : Int32))), .val (.int c0), .val (.int c1), .val (.int c2), .val (.int sh), .val (.ref b107), .val (.ref b125), .val (.ref b158), .unset, .val (.int (0 : Int32)), .unset]) (pc' := 325) C X224 at_323 rfl rfl ?_
              exact K325 _ _ X224 e224 N224 (0 : Int32) (by rw [if_neg (fun q => hc295_226 ((own_l3 (own_chv _ _) (own_chv _ _) (own_chv _ _) rc0 rc1 rc2).mp q).1)])
          · refine Go.ifNo (pc' := 219) C X138 at_216 ((if0 _ _).trans (feq (x := sh) (y := (0 : Int32)) hc216_157).1) rfl ?_
            have O232 : Ext Z.heap T138.heap := (Ext.keep O143 K138 (allS n_b125 all0))
            refine Go.newO (pc' := 222) C X138 (hw _ (List.mem_of_getElem? (i := 4) rfl)) (hw _ (List.mem_of_getElem? (i := 5) rfl)) (hw _ (List.mem_of_getElem? (i := 6) rfl)) rfl (by decide) (by decide) at_219 rfl ?_
            intro T231 h231 b231 X231 e231 g231 E231 A231 D231
            have n_b231 : Z.heap.size ≤ b231 := Nat.le_trans O232.1 (Nat.le_of_eq g231.symm)
            have z_b231 : h0.size ≤ b231 := Nat.le_trans (Nat.le_trans (Nat.le_trans (Nat.le_trans (Nat.le_trans (Nat.le_trans (Nat.le_trans (Nat.le_trans (Nat.le_trans (Nat.le_trans (Nat.le_trans (Nat.le_trans (Nat.le_trans (Nat.le_refl _) E107.1) E108.1) (Nat.le_of_eq W112.size.symm)) (Nat.le_of_eq W115.size.symm)) (Nat.le_of_eq W118.size.symm)) K119.1) E125.1) E127.1) (Nat.le_of_eq W131.size.symm)) (Nat.le_of_eq W134.size.symm)) (Nat.le_of_eq W137.size.symm)) K138.1) (Nat.le_of_eq g231.symm)
            have F231_coder : Fld Z h231 b231 "java/lang/String" "coder" "B" (.int (0 : Int32)) := D231 (Or.inr (hw _ (List.mem_of_getElem? (i := 31) rfl))) (ty := .byte) (by decide)
            have F231_value : Fld Z h231 b231 "java/lang/String" "value" "[B" .null := D231 (Or.inr (hw _ (List.mem_of_getElem? (i := 33) rfl))) (ty := (.array .byte)) (by decide)
            refine Go.dup (pc' := 223) C X231 at_222 rfl rfl ?_
            refine Go.iconst (z := (2 : Int32)) (pc' := 224) C X231 at_223 rfl rfl ?_
            have O234 : Ext Z.heap h231 := (Ext.trans O232 E231)
            refine Go.newP (aty := .char) (cap := 2) (vs := [(.int (0 : Int32)), (.int (0 : Int32))]) (ad := "[C") (pc' := 226) C X231 (by decide) (hw _ (List.mem_of_getElem? (i := 7) rfl)) e231 (by decide) (by decide) (by decide) (by decide) (by decide) rfl at_224 rfl ?_
            intro T233 h233 b233 k233 X233 e233 g233 E233 A233 Ea233
            have n_b233 : Z.heap.size ≤ b233 := Nat.le_trans O234.1 (Nat.le_of_eq g233.symm)
            have z_b233 : h0.size ≤ b233 := Nat.le_trans (Nat.le_trans (Nat.le_trans (Nat.le_trans (Nat.le_trans (Nat.le_trans (Nat.le_trans (Nat.le_trans (Nat.le_trans (Nat.le_trans (Nat.le_trans (Nat.le_trans (Nat.le_trans (Nat.le_trans (Nat.le_refl _) E107.1) E108.1) (Nat.le_of_eq W112.size.symm)) (Nat.le_of_eq W115.size.symm)) (Nat.le_of_eq W118.size.symm)) K119.1) E125.1) E127.1) (Nat.le_of_eq W131.size.symm)) (Nat.le_of_eq W134.size.symm)) (Nat.le_of_eq W137.size.symm)) K138.1) E231.1) (Nat.le_of_eq g233.symm)
            have A233 : AL Z h233 b233 k233 .char [(.int (0 : Int32)), (.int (0 : Int32))] := A233
            refine Go.dup (pc' := 227) C X233 at_226 rfl rfl ?_
            refine Go.iconst (z := (0 : Int32)) (pc' := 228) C X233 at_227 rfl rfl ?_
            refine Go.iload (pc' := 230) C X233 at_228 rfl rfl ?_
            refine Go.stC (i := 0) (x' := c0) (vs' := [(.int c0), (.int (0 : Int32))]) (pc' := 231) C X233 e233 A233 (by decide) (by decide) (by simp) (own_narc rc0) rfl at_230 rfl ?_
            intro T235 h235 X235 e235 W235 A235
            have N235 := Fr.snoc X235 N138 n_b233
            refine Go.dup (pc' := 232) C X235 at_231 rfl rfl ?_
            refine Go.iconst (z := (1 : Int32)) (pc' := 233) C X235 at_232 rfl rfl ?_
            refine Go.iload (pc' := 235) C X235 at_233 rfl rfl ?_
            refine Go.stC (i := 1) (x' := c1) (vs' := [(.int c0), (.int c1)]) (pc' := 236) C X235 e235 A235 (by decide) (by decide) (by simp) (own_narc rc1) rfl at_235 rfl ?_
            intro T236 h236 X236 e236 W236 A236
            have N236 := Fr.snoc X236 N235 n_b233
            have c238 : Exa Z h236 b231 "java/lang/String" := (Exa.wr W236 (Exa.wr W235 (Exa.ext E233 A231)))
            have ne239 : b231 ≠ b233 := Nat.ne_of_lt (Nat.lt_of_lt_of_le A231.lt (Nat.le_trans (Nat.le_refl _) (Nat.le_of_eq g233.symm)))
            have c240 : Fld Z h236 b231 "java/lang/String" "value" "[B" .null := (Fld.other W236 (Fld.other W235 (Fld.ext E233 F231_value) (Or.inl ne239)) (Or.inl ne239))
            have c241 : Fld Z h236 b231 "java/lang/String" "coder" "B" (.int (0 : Int32)) := (Fld.other W236 (Fld.other W235 (Fld.ext E233 F231_coder) (Or.inl ne239)) (Or.inl ne239))
            have O242 : Ext Z.heap h236 := (Ext.wr (Ext.wr (Ext.trans O234 E233) W235 n_b233) W236 n_b233)
            refine Go.callI (y := (⟨"java/lang/String", "<init>", "([C)V"⟩ : MethodName)) (a := b231) (pc' := 239) C X236 rfl (hw _ (List.mem_of_getElem? (i := 8) rfl)) (hw _ (List.mem_of_getElem? (i := 9) rfl)) (by decide) (rm_sI1 l Z a0 hw b231 b233 k233 ([c0, c1]) cP h236 O242 c238 c240 c241 (show AL Z h236 b233 k233 .char (ch16 [c0, c1]) from A236) SC (own_h2 rc0 rc1) (show (2 : Nat) < 2 ^ 31 from by decide) (show (2 : Nat) ≤ 3 from by decide) (show ¬ (2 : Nat).toInt32 = (0 : Int32) from by decide) hP n_b231) (hw _ (List.mem_of_getElem? (i := 10) rfl)) (hw _ (List.mem_of_getElem? (i := 6) rfl)) e236 (argsL := [(.ref b233)]) (rest := [(.ref b231)]) (W := 1) rfl rfl pd_8 rfl (Nat.le_of_eq rfl) rfl (by decide) (by decide) (by decide) (by decide) rfl at_236 rfl ?_
            intro T237 v237 L237 X237 q237
            obtain ⟨v_237, kv_237, rfl, N237q, K237, B237_0, P237_0, P237_1, P237_2⟩ := q237
            have N237 := Fr.app N236 N237q
            have n_v_237 : Z.heap.size ≤ v_237 := Nat.le_trans O242.1 B237_0
            have z_v_237 : h0.size ≤ v_237 := Nat.le_trans (Nat.le_trans (Nat.le_trans (Nat.le_trans (Nat.le_trans (Nat.le_trans (Nat.le_trans (Nat.le_trans (Nat.le_trans (Nat.le_trans (Nat.le_trans (Nat.le_trans (Nat.le_trans (Nat.le_trans (Nat.le_trans (Nat.le_trans (Nat.le_trans (Nat.le_refl _) E107.1) E108.1) (Nat.le_of_eq W112.size.symm)) (Nat.le_of_eq W115.size.symm)) (Nat.le_of_eq W118.size.symm)) K119.1) E125.1) E127.1) (Nat.le_of_eq W131.size.symm)) (Nat.le_of_eq W134.size.symm)) (Nat.le_of_eq W137.size.symm)) K138.1) E231.1) E233.1) (Nat.le_of_eq W235.size.symm)) (Nat.le_of_eq W236.size.symm)) B237_0
            refine Go.astore (Ls' := #[.val (.int p1), .val (.int p2), .val (.int p3), .val (.int p4), .val (.int (p4 &&& (3 : Int32))), .val (.int src), .val (.int (((p4.toUInt32 >>> ((2 : Int32) &&& 31).toUInt32).toInt32) &&& (3 : Int32))), .val (.int (((p4.toUInt32 >>> ((4 : Int32) &&& 31).toUInt32).toInt32) &&& (255 : Int32))), .val (.int c0), .val (.int c1), .val (.int c2), .val (.int sh), .val (.ref b107), .val (.ref b125), .val (.ref b231), .unset, .unset, .unset]) (pc' := 241) C X237 at_239 rfl rfl rfl ?_
            refine Go.goto (pc' := 271) C X237 at_241 (by decide) (by decide) ?_
            refine Go.iload (pc' := 273) C X237 at_271 rfl rfl ?_
            refine Go.iconst (z := (3 : Int32)) (pc' := 274) C X237 at_273 rfl rfl ?_
            refine Go.icmpNo (pc' := 277) C X237 at_274 (feq (x := (p4 &&& (3 : Int32))) (y := (3 : Int32)) hc205_144).1 rfl ?_
            refine Go.iload (pc' := 279) C X237 at_277 rfl rfl ?_
            refine Go.ifNo (pc' := 282) C X237 at_279 ((if0 _ _).trans (feq (x := sh) (y := (0 : Int32)) hc216_157).1) rfl ?_
            refine Go.iconst (z := (0 : Int32)) (pc' := 283) C X237 at_282 rfl rfl ?_
            refine Go.istore (Ls' := #[.val (.int p1), .val (.int p2), .val (.int p3), .val (.int p4), .val (.int (p4 &&& (3 : Int32))), .val (.int src), .val (.int (((p4.toUInt32 >>> ((2 : Int32) &&& 31).toUInt32).toInt32) &&& (3 : Int32))), .val (.int (((p4.toUInt32 >>> ((4 : Int32) &&& 31).toUInt32).toInt32) &&& (255 : Int32))), .val (.int c0), .val (.int c1), .val (.int c2), .val (.int sh), .val (.ref b107), .val (.ref b125), .val (.ref b231), .val (.int (0 : Int32)), .unset, .unset]) (pc' := 285) C X237 at_283 rfl rfl ?_
            refine Go.goto (pc' := 379) C X237 at_285 (by decide) (by decide) ?_
            have O246 : Ext Z.heap T237.heap := (Ext.keep O242 K237 (allS n_b231 all0))
            refine Go.newO (pc' := 382) C X237 (hw _ (List.mem_of_getElem? (i := 34) rfl)) (hw _ (List.mem_of_getElem? (i := 35) rfl)) (hw _ (List.mem_of_getElem? (i := 36) rfl)) rfl (by decide) (by decide) at_379 rfl ?_
            intro T245 h245 b245 X245 e245 g245 E245 A245 D245
            have n_b245 : Z.heap.size ≤ b245 := Nat.le_trans O246.1 (Nat.le_of_eq g245.symm)
            have z_b245 : h0.size ≤ b245 := Nat.le_trans (Nat.le_trans (Nat.le_trans (Nat.le_trans (Nat.le_trans (Nat.le_trans (Nat.le_trans (Nat.le_trans (Nat.le_trans (Nat.le_trans (Nat.le_trans (Nat.le_trans (Nat.le_trans (Nat.le_trans (Nat.le_trans (Nat.le_trans (Nat.le_trans (Nat.le_trans (Nat.le_refl _) E107.1) E108.1) (Nat.le_of_eq W112.size.symm)) (Nat.le_of_eq W115.size.symm)) (Nat.le_of_eq W118.size.symm)) K119.1) E125.1) E127.1) (Nat.le_of_eq W131.size.symm)) (Nat.le_of_eq W134.size.symm)) (Nat.le_of_eq W137.size.symm)) K138.1) E231.1) E233.1) (Nat.le_of_eq W235.size.symm)) (Nat.le_of_eq W236.size.symm)) K237.1) (Nat.le_of_eq g245.symm)
            have F245_base : Fld Z h245 b245 "com/example/quoteloom/quoteloom/CurrencyPair" "base" "Ljava/lang/String;" .null := D245 (Or.inr (hw _ (List.mem_of_getElem? (i := 47) rfl))) (ty := (.object "java/lang/String")) (by decide)
            have F245_quote : Fld Z h245 b245 "com/example/quoteloom/quoteloom/CurrencyPair" "quote" "Ljava/lang/String;" .null := D245 (Or.inr (hw _ (List.mem_of_getElem? (i := 49) rfl))) (ty := (.object "java/lang/String")) (by decide)
            refine Go.dup (pc' := 383) C X245 at_382 rfl rfl ?_
            refine Go.aload (pc' := 385) C X245 at_383 rfl rfl rfl ?_
            refine Go.aload (pc' := 387) C X245 at_385 rfl rfl rfl ?_
            have O248 : Ext Z.heap h245 := (Ext.trans O246 E245)
            refine Go.callI (y := (⟨"com/example/quoteloom/quoteloom/CurrencyPair", "<init>", "(Ljava/lang/String;Ljava/lang/String;)V"⟩ : MethodName)) (a := b245) (pc' := 390) C X245 rfl (hw _ (List.mem_of_getElem? (i := 37) rfl)) (hw _ (List.mem_of_getElem? (i := 38) rfl)) (by decide) (rm_cp l Z a0 hw b245 b107 b125 h245 O248 A245 F245_base F245_quote n_b245) (hw _ (List.mem_of_getElem? (i := 39) rfl)) (hw _ (List.mem_of_getElem? (i := 36) rfl)) e245 (argsL := [(.ref b107), (.ref b125)]) (rest := [(.ref b245)]) (W := 1) rfl rfl pd_9 rfl (Nat.le_of_eq rfl) rfl (by decide) (by decide) (by decide) (by decide) rfl at_387 rfl ?_
            intro T247 v247 L247 X247 q247
            obtain ⟨rfl, N247q, K247, P247_0, P247_1⟩ := q247
            have N247 := Fr.app N237 N247q
            refine Go.astore (Ls' := #[.val (.int p1), .val (.int p2), .val (.int p3), .val (.int p4), .val (.int (p4 &&& (3 : Int32))), .val (.int src), .val (.int (((p4.toUInt32 >>> ((2 : Int32) &&& 31).toUInt32).toInt32) &&& (3 : Int32))), .val (.int (((p4.toUInt32 >>> ((4 : Int32) &&& 31).toUInt32).toInt32) &&& (255 : Int32))), .val (.int c0), .val (.int c1), .val (.int c2), .val (.int sh), .val (.ref b107), .val (.ref b125), .val (.ref b231), .val (.int (0 : Int32)), .val (.ref b245), .unset]) (pc' := 392) C X247 at_390 rfl rfl rfl ?_
            refine Go.aload (pc' := 394) C X247 at_392 rfl rfl rfl ?_
            refine Go.aload (pc' := 396) C X247 at_394 rfl rfl rfl ?_
            have c250 : Exa Z T247.heap b107 "java/lang/String" := (Exa.keep (Exa.ext E245 (Exa.keep (Exa.wr W236 (Exa.wr W235 (Exa.ext E233 (Exa.ext E231 (Exa.keep (Exa.wr W137 (Exa.wr W134 (Exa.wr W131 (Exa.ext E127 (Exa.ext E125 (Exa.keep c120 K119)))))) K138))))) K237)) K247)
            have ne251 : b107 ≠ b127 := Nat.ne_of_lt (Nat.lt_of_lt_of_le A107.lt (Nat.le_trans (Nat.le_trans (Nat.le_trans (Nat.le_trans (Nat.le_trans (Nat.le_trans (Nat.le_trans (Nat.le_refl _) E108.1) (Nat.le_of_eq W112.size.symm)) (Nat.le_of_eq W115.size.symm)) (Nat.le_of_eq W118.size.symm)) K119.1) E125.1) (Nat.le_of_eq g127.symm)))
            have ne252 : b107 ≠ b125 := Nat.ne_of_lt (Nat.lt_of_lt_of_le A107.lt (Nat.le_trans (Nat.le_trans (Nat.le_trans (Nat.le_trans (Nat.le_trans (Nat.le_trans (Nat.le_refl _) E108.1) (Nat.le_of_eq W112.size.symm)) (Nat.le_of_eq W115.size.symm)) (Nat.le_of_eq W118.size.symm)) K119.1) (Nat.le_of_eq g125.symm)))
            have ne253 : b107 ≠ b233 := Nat.ne_of_lt (Nat.lt_of_lt_of_le A107.lt (Nat.le_trans (Nat.le_trans (Nat.le_trans (Nat.le_trans (Nat.le_trans (Nat.le_trans (Nat.le_trans (Nat.le_trans (Nat.le_trans (Nat.le_trans (Nat.le_trans (Nat.le_trans (Nat.le_trans (Nat.le_refl _) E108.1) (Nat.le_of_eq W112.size.symm)) (Nat.le_of_eq W115.size.symm)) (Nat.le_of_eq W118.size.symm)) K119.1) E125.1) E127.1) (Nat.le_of_eq W131.size.symm)) (Nat.le_of_eq W134.size.symm)) (Nat.le_of_eq W137.size.symm)) K138.1) E231.1) (Nat.le_of_eq g233.symm)))
            have ne254 : b107 ≠ b231 := Nat.ne_of_lt (Nat.lt_of_lt_of_le A107.lt (Nat.le_trans (Nat.le_trans (Nat.le_trans (Nat.le_trans (Nat.le_trans (Nat.le_trans (Nat.le_trans (Nat.le_trans (Nat.le_trans (Nat.le_trans (Nat.le_trans (Nat.le_trans (Nat.le_refl _) E108.1) (Nat.le_of_eq W112.size.symm)) (Nat.le_of_eq W115.size.symm)) (Nat.le_of_eq W118.size.symm)) K119.1) E125.1) E127.1) (Nat.le_of_eq W131.size.symm)) (Nat.le_of_eq W134.size.symm)) (Nat.le_of_eq W137.size.symm)) K138.1) (Nat.le_of_eq g231.symm)))
            have ne255 : b107 ≠ b245 := Nat.ne_of_lt (Nat.lt_of_lt_of_le A107.lt (Nat.le_trans (Nat.le_trans (Nat.le_trans (Nat.le_trans (Nat.le_trans (Nat.le_trans (Nat.le_trans (Nat.le_trans (Nat.le_trans (Nat.le_trans (Nat.le_trans (Nat.le_trans (Nat.le_trans (Nat.le_trans (Nat.le_trans (Nat.le_trans (Nat.le_trans (Nat.le_refl _) E108.1) (Nat.le_of_eq W112.size.symm)) (Nat.le_of_eq W115.size.symm)) (Nat.le_of_eq W118.size.symm)) K119.1) E125.1) E127.1) (Nat.le_of_eq W131.size.symm)) (Nat.le_of_eq W134.size.symm)) (Nat.le_of_eq W137.size.symm)) K138.1) E231.1) E233.1) (Nat.le_of_eq W235.size.symm)) (Nat.le_of_eq W236.size.symm)) K237.1) (Nat.le_of_eq g245.symm)))
            have c256 : Fld Z T247.heap b107 "java/lang/String" "value" "[B" (.ref v_119) := (Fld.keep (Fld.ext E245 (Fld.keep (Fld.other W236 (Fld.other W235 (Fld.ext E233 (Fld.ext E231 (Fld.keep (Fld.other W137 (Fld.other W134 (Fld.other W131 (Fld.ext E127 (Fld.ext E125 P119_0)) (Or.inl ne251)) (Or.inl ne251)) (Or.inl ne251)) K138 (ninS ne252 nin0)))) (Or.inl ne253)) (Or.inl ne253)) K237 (ninS ne254 nin0))) K247 (ninS ne255 nin0))
            have c257 : Fld Z T247.heap b107 "java/lang/String" "coder" "B" (.int (0 : Int32)) := (Fld.keep (Fld.ext E245 (Fld.keep (Fld.other W236 (Fld.other W235 (Fld.ext E233 (Fld.ext E231 (Fld.keep (Fld.other W137 (Fld.other W134 (Fld.other W131 (Fld.ext E127 (Fld.ext E125 P119_1)) (Or.inl ne251)) (Or.inl ne251)) (Or.inl ne251)) K138 (ninS ne252 nin0)))) (Or.inl ne253)) (Or.inl ne253)) K237 (ninS ne254 nin0))) K247 (ninS ne255 nin0))
            have ne258 : v_119 ≠ b127 := Nat.ne_of_lt (Nat.lt_of_lt_of_le P119_2.lt (Nat.le_trans (Nat.le_trans (Nat.le_refl _) E125.1) (Nat.le_of_eq g127.symm)))
            have ne259 : v_119 ≠ b125 := Nat.ne_of_lt (Nat.lt_of_lt_of_le P119_2.lt (Nat.le_trans (Nat.le_refl _) (Nat.le_of_eq g125.symm)))
            have ne260 : v_119 ≠ b233 := Nat.ne_of_lt (Nat.lt_of_lt_of_le P119_2.lt (Nat.le_trans (Nat.le_trans (Nat.le_trans (Nat.le_trans (Nat.le_trans (Nat.le_trans (Nat.le_trans (Nat.le_trans (Nat.le_refl _) E125.1) E127.1) (Nat.le_of_eq W131.size.symm)) (Nat.le_of_eq W134.size.symm)) (Nat.le_of_eq W137.size.symm)) K138.1) E231.1) (Nat.le_of_eq g233.symm)))
            have ne261 : v_119 ≠ b231 := Nat.ne_of_lt (Nat.lt_of_lt_of_le P119_2.lt (Nat.le_trans (Nat.le_trans (Nat.le_trans (Nat.le_trans (Nat.le_trans (Nat.le_trans (Nat.le_trans (Nat.le_refl _) E125.1) E127.1) (Nat.le_of_eq W131.size.symm)) (Nat.le_of_eq W134.size.symm)) (Nat.le_of_eq W137.size.symm)) K138.1) (Nat.le_of_eq g231.symm)))
            have ne262 : v_119 ≠ b245 := Nat.ne_of_lt (Nat.lt_of_lt_of_le P119_2.lt (Nat.le_trans (Nat.le_trans (Nat.le_trans (Nat.le_trans (Nat.le_trans (Nat.le_trans (Nat.le_trans (Nat.le_trans (Nat.le_trans (Nat.le_trans (Nat.le_trans (Nat.le_trans (Nat.le_refl _) E125.1) E127.1) (Nat.le_of_eq W131.size.symm)) (Nat.le_of_eq W134.size.symm)) (Nat.le_of_eq W137.size.symm)) K138.1) E231.1) E233.1) (Nat.le_of_eq W235.size.symm)) (Nat.le_of_eq W236.size.symm)) K237.1) (Nat.le_of_eq g245.symm)))
            have c263 : AL Z T247.heap v_119 kv_119 .byte (by8 [(chv p1 (0 : Int32)), (chv p1 (1 : Int32)), (chv p1 (2 : Int32))]) := (AL.keep (AL.ext E245 (AL.keep (AL.other W236 (AL.other W235 (AL.ext E233 (AL.ext E231 (AL.keep (AL.other W137 (AL.other W134 (AL.other W131 (AL.ext E127 (AL.ext E125 P119_2)) ne258) ne258) ne258) K138 (ninS ne259 nin0)))) ne260) ne260) K237 (ninS ne261 nin0))) K247 (ninS ne262 nin0))
            have c264 : Exa Z T247.heap b125 "java/lang/String" := (Exa.keep (Exa.ext E245 (Exa.keep (Exa.wr W236 (Exa.wr W235 (Exa.ext E233 (Exa.ext E231 (Exa.keep c139 K138))))) K237)) K247)
            have ne265 : b125 ≠ b233 := Nat.ne_of_lt (Nat.lt_of_lt_of_le A125.lt (Nat.le_trans (Nat.le_trans (Nat.le_trans (Nat.le_trans (Nat.le_trans (Nat.le_trans (Nat.le_trans (Nat.le_refl _) E127.1) (Nat.le_of_eq W131.size.symm)) (Nat.le_of_eq W134.size.symm)) (Nat.le_of_eq W137.size.symm)) K138.1) E231.1) (Nat.le_of_eq g233.symm)))
            have ne266 : b125 ≠ b231 := Nat.ne_of_lt (Nat.lt_of_lt_of_le A125.lt (Nat.le_trans (Nat.le_trans (Nat.le_trans (Nat.le_trans (Nat.le_trans (Nat.le_trans (Nat.le_refl _) E127.1) (Nat.le_of_eq W131.size.symm)) (Nat.le_of_eq W134.size.symm)) (Nat.le_of_eq W137.size.symm)) K138.1) (Nat.le_of_eq g231.symm)))
            have ne267 : b125 ≠ b245 := Nat.ne_of_lt (Nat.lt_of_lt_of_le A125.lt (Nat.le_trans (Nat.le_trans (Nat.le_trans (Nat.le_trans (Nat.le_trans (Nat.le_trans (Nat.le_trans (Nat.le_trans (Nat.le_trans (Nat.le_trans (Nat.le_trans (Nat.le_refl _) E127.1) (Nat.le_of_eq W131.size.symm)) (Nat.le_of_eq W134.size.symm)) (Nat.le_of_eq W137.size.symm)) K138.1) E231.1) E233.1) (Nat.le_of_eq W235.size.symm)) (Nat.le_of_eq W236.size.symm)) K237.1) (Nat.le_of_eq g245.symm)))
            have c268 : Fld Z T247.heap b125 "java/lang/String" "value" "[B" (.ref v_138) := (Fld.keep (Fld.ext E245 (Fld.keep (Fld.other W236 (Fld.other W235 (Fld.ext E233 (Fld.ext E231 P138_0)) (Or.inl ne265)) (Or.inl ne265)) K237 (ninS ne266 nin0))) K247 (ninS ne267 nin0))
            have c269 : Fld Z T247.heap b125 "java/lang/String" "coder" "B" (.int (0 : Int32)) := (Fld.keep (Fld.ext E245 (Fld.keep (Fld.other W236 (Fld.other W235 (Fld.ext E233 (Fld.ext E231 P138_1)) (Or.inl ne265)) (Or.inl ne265)) K237 (ninS ne266 nin0))) K247 (ninS ne267 nin0))
            have ne270 : v_138 ≠ b233 := Nat.ne_of_lt (Nat.lt_of_lt_of_le P138_2.lt (Nat.le_trans (Nat.le_trans (Nat.le_refl _) E231.1) (Nat.le_of_eq g233.symm)))
            have ne271 : v_138 ≠ b231 := Nat.ne_of_lt (Nat.lt_of_lt_of_le P138_2.lt (Nat.le_trans (Nat.le_refl _) (Nat.le_of_eq g231.symm)))
            have ne272 : v_138 ≠ b245 := Nat.ne_of_lt (Nat.lt_of_lt_of_le P138_2.lt (Nat.le_trans (Nat.le_trans (Nat.le_trans (Nat.le_trans (Nat.le_trans (Nat.le_trans (Nat.le_refl _) E231.1) E233.1) (Nat.le_of_eq W235.size.symm)) (Nat.le_of_eq W236.size.symm)) K237.1) (Nat.le_of_eq g245.symm)))
            have c273 : AL Z T247.heap v_138 kv_138 .byte (by8 [(chv p2 (0 : Int32)), (chv p2 (1 : Int32)), (chv p2 (2 : Int32))]) := (AL.keep (AL.ext E245 (AL.keep (AL.other W236 (AL.other W235 (AL.ext E233 (AL.ext E231 P138_2)) ne270) ne270) K237 (ninS ne271 nin0))) K247 (ninS ne272 nin0))
            have c274 : Exa Z T247.heap b231 "java/lang/String" := (Exa.keep (Exa.ext E245 (Exa.keep c238 K237)) K247)
            have ne275 : b231 ≠ b245 := Nat.ne_of_lt (Nat.lt_of_lt_of_le A231.lt (Nat.le_trans (Nat.le_trans (Nat.le_trans (Nat.le_trans (Nat.le_trans (Nat.le_refl _) E233.1) (Nat.le_of_eq W235.size.symm)) (Nat.le_of_eq W236.size.symm)) K237.1) (Nat.le_of_eq g245.symm)))
            have c276 : Fld Z T247.heap b231 "java/lang/String" "value" "[B" (.ref v_237) := (Fld.keep (Fld.ext E245 P237_0) K247 (ninS ne275 nin0))
            have c277 : Fld Z T247.heap b231 "java/lang/String" "coder" "B" (.int (0 : Int32)) := (Fld.keep (Fld.ext E245 P237_1) K247 (ninS ne275 nin0))
            have ne278 : v_237 ≠ b245 := Nat.ne_of_lt (Nat.lt_of_lt_of_le P237_2.lt (Nat.le_trans (Nat.le_refl _) (Nat.le_of_eq g245.symm)))
            have c279 : AL Z T247.heap v_237 kv_237 .byte (by8 [c0, c1]) := (AL.keep (AL.ext E245 P237_2) K247 (ninS ne278 nin0))
            have O280 : Ext Z.heap T247.heap := (Ext.keep O248 K247 (allS n_b245 all0))
            have c281 : Exa Z T247.heap b245 "com/example/quoteloom/quoteloom/CurrencyPair" := (Exa.keep A245 K247)
            refine Go.callV (y := (⟨"com/example/quoteloom/quoteloom/CurrencyPair", "has", "(Ljava/lang/String;)Z"⟩ : MethodName)) (z := (⟨"com/example/quoteloom/quoteloom/CurrencyPair", "has", "(Ljava/lang/String;)Z"⟩ : MethodName)) (a := b245) (pc' := 399) C X247 (hw _ (List.mem_of_getElem? (i := 50) rfl)) (hw _ (List.mem_of_getElem? (i := 51) rfl)) (notFace_at C.2.1 (hw _ (List.mem_of_getElem? (i := 53) rfl))) (hw _ (List.mem_of_getElem? (i := 53) rfl)) (hw _ (List.mem_of_getElem? (i := 52) rfl)) c281 (by decide) (rm_hasS l Z a0 hw b245 b107 b125 b231 v_119 v_138 v_237 kv_119 kv_138 kv_237 ([(chv p1 (0 : Int32)), (chv p1 (1 : Int32)), (chv p1 (2 : Int32))]) ([(chv p2 (0 : Int32)), (chv p2 (1 : Int32)), (chv p2 (2 : Int32))]) ([c0, c1]) cP T247.heap O280 P247_0 P247_1 SC c250 c256 c257 c263 c264 c268 c269 c273 c274 c276 c277 c279 ne254 ne266 hP (show (3 : Nat) < 2 ^ 31 from by decide) (show (3 : Nat) < 2 ^ 31 from by decide) (show (2 : Nat) < 2 ^ 31 from by decide)) (hw _ (List.mem_of_getElem? (i := 54) rfl)) (hw _ (List.mem_of_getElem? (i := 36) rfl)) rfl (argsL := [(.ref b231)]) (rest := []) (W := 0) rfl rfl pd_10 rfl (Nat.le_of_eq rfl) rfl (by decide) (by decide) (by decide) (by decide) at_396 rfl ?_
            intro T249 v249 L249 X249 q249
            obtain ⟨rfl, rfl, e249⟩ := q249
            have N249 := Fr.app N247 (Fr.nil _)
            refine Go.iload (pc' := 401) C X249 at_399 rfl rfl ?_
            refine Go.icmpNo (pc' := 404) C X249 at_401 (teq (x := (if by8 [(chv p1 (0 : Int32)), (chv p1 (1 : Int32)), (chv p1 (2 : Int32))] = by8 [c0, c1] ∨ by8 [(chv p2 (0 : Int32)), (chv p2 (1 : Int32)), (chv p2 (2 : Int32))] = by8 [c0, c1] then (1 : Int32) else 0)) (y := (0 : Int32)) (if_neg (fun q => q.elim (by simp [by8]) (by simp [by8])))).2 rfl ?_
            refine Go.iconst (z := (1 : Int32)) (pc' := 405) C X249 at_404 rfl rfl ?_
            refine Go.goto (pc' := 409) C X249 at_405 (by decide) (by decide) ?_
            have K283 : Keep h0 T247.heap [] := ((((((((((((((((((((Keep.refl h0 []).ext E107).ext E108).wr W112 (Or.inr z_b108)).wr W115 (Or.inr z_b108)).wr W118 (Or.inr z_b108)).trans K119 (allS (Or.inr z_b107) all0)).ext E125).ext E127).wr W131 (Or.inr z_b127)).wr W134 (Or.inr z_b127)).wr W137 (Or.inr z_b127)).trans K138 (allS (Or.inr z_b125) all0)).ext E231).ext E233).wr W235 (Or.inr z_b233)).wr W236 (Or.inr z_b233)).trans K237 (allS (Or.inr z_b231) all0)).ext E245).trans K247 (allS (Or.inr z_b245) all0))
            exact Go.retN C X249 rfl at_409 (by simp) (by rw [e249]; exact ⟨rfl, N249, K283⟩) (by decide) (by decide)
      refine Go.iloadN (pc' := 115) C X105 at_114 rfl rfl ?_
      refine Go.bipush (z := (12 : Int32)) (pc' := 117) C X105 at_115 rfl rfl ?_
      refine Go.iushr (pc' := 118) C X105 at_117 rfl ?_
      refine Go.iconst (z := (1 : Int32)) (pc' := 119) C X105 at_118 rfl rfl ?_
      refine Go.iand (pc' := 120) C X105 at_119 rfl ?_
      by_cases hc120_284 : (((p4.toUInt32 >>> ((12 : Int32) &&& 31).toUInt32).toInt32) &&& (1 : Int32)) = (0 : Int32)
      · refine Go.ifYes (pc' := 127) C X105 at_120 ((if0 _ _).trans (teq (x := (((p4.toUInt32 >>> ((12 : Int32) &&& 31).toUInt32).toInt32) &&& (1 : Int32))) (y := (0 : Int32)) hc120_284).1) (by decide) (by decide) ?_
        refine Go.iconst (z := (0 : Int32)) (pc' := 128) C X105 at_127 rfl rfl ?_
        refine Go.istore (Ls' := #[.val (.int p1), .val (.int p2), .val (.int p3), .val (.int p4), .val (.int (p4 &&& (3 : Int32))), .val (.int src), .val (.int (((p4.toUInt32 >>> ((2 : Int32) &&& 31).toUInt32).toInt32) &&& (3 : Int32))), .val (.int (((p4.toUInt32 >>> ((4 : Int32) &&& 31).toUInt32).toInt32) &&& (255 : Int32))), .val (.int c0), .val (.int c1), .val (.int c2), .val (.int (0 : Int32)), .unset, .unset, .unset, .unset, .unset, .unset]) (pc' := 130) C X105 at_128 rfl rfl ?_
        exact K130 _ _ X105 e105 N105 (0 : Int32) 
      · refine Go.ifNo (pc' := 123) C X105 at_120 ((if0 _ _).trans (feq (x := (((p4.toUInt32 >>> ((12 : Int32) &&& 31).toUInt32).toInt32) &&& (1 : Int32))) (y := (0 : Int32)) hc120_284).1) rfl ?_
        refine Go.iconst (z := (1 : Int32)) (pc' := 124) C X105 at_123 rfl rfl ?_
        refine Go.goto (pc' := 128) C X105 at_124 (by decide) (by decide) ?_
        refine Go.istore (Ls' := #[.val (.int p1), .val (.int p2), .val (.int p3), .val (.int p4), .val (.int (p4 &&& (3 : Int32))), .val (.int src), .val (.int (((p4.toUInt32 >>> ((2 : Int32) &&& 31).toUInt32).toInt32) &&& (3 : Int32))), .val (.int (((p4.toUInt32 >>> ((4 : Int32) &&& 31).toUInt32).toInt32) &&& (255 : Int32))), .val (.int c0), .val (.int c1), .val (.int c2), .val (.int (1 : Int32)), .unset, .unset, .unset, .unset, .unset, .unset]) (pc' := 130) C X105 at_128 rfl rfl ?_
        exact K130 _ _ X105 e105 N105 (1 : Int32) 
    refine Go.iload (pc' := 69) C X104 at_67 rfl rfl ?_
    by_cases hc69_285 : (((p4.toUInt32 >>> ((2 : Int32) &&& 31).toUInt32).toInt32) &&& (3 : Int32)) = (0 : Int32)
    · refine Go.ifNo (pc' := 72) C X104 at_69 ((if0 _ _).trans (teq (x := (((p4.toUInt32 >>> ((2 : Int32) &&& 31).toUInt32).toInt32) &&& (3 : Int32))) (y := (0 : Int32)) hc69_285).2) rfl ?_
      refine Go.iload (pc' := 74) C X104 at_72 rfl rfl ?_
      refine Go.iload (pc' := 76) C X104 at_74 rfl rfl ?_
      refine Go.ixor (pc' := 77) C X104 at_76 rfl ?_
      refine Go.i2c (pc' := 78) C X104 at_77 rfl ?_
      refine Go.istore (Ls' := #[.val (.int p1), .val (.int p2), .val (.int p3), .val (.int p4), .val (.int (p4 &&& (3 : Int32))), .val (.int src), .val (.int (((p4.toUInt32 >>> ((2 : Int32) &&& 31).toUInt32).toInt32) &&& (3 : Int32))), .val (.int (((p4.toUInt32 >>> ((4 : Int32) &&& 31).toUInt32).toInt32) &&& (255 : Int32))), .val (.int (((chv src (0 : Int32)) ^^^ (((p4.toUInt32 >>> ((4 : Int32) &&& 31).toUInt32).toInt32) &&& (255 : Int32))).toUInt32.toUInt16.toUInt32.toInt32)), .val (.int (chv src (1 : Int32))), .val (.int (chv src (2 : Int32))), .unset, .unset, .unset, .unset, .unset, .unset, .unset]) (pc' := 80) C X104 at_78 rfl rfl ?_
      refine Go.goto (pc' := 114) C X104 at_80 (by decide) (by decide) ?_
      exact K114 _ _ X104 e104 N104 (((chv src (0 : Int32)) ^^^ (((p4.toUInt32 >>> ((4 : Int32) &&& 31).toUInt32).toInt32) &&& (255 : Int32))).toUInt32.toUInt16.toUInt32.toInt32) (chv src (1 : Int32)) (chv src (2 : Int32)) (own_xr (own_chv _ _) (own_255 _)) (own_chv _ _) (own_chv _ _)
    · refine Go.ifYes (pc' := 83) C X104 at_69 ((if0 _ _).trans (feq (x := (((p4.toUInt32 >>> ((2 : Int32) &&& 31).toUInt32).toInt32) &&& (3 : Int32))) (y := (0 : Int32)) hc69_285).2) (by decide) (by decide) ?_
      refine Go.iload (pc' := 85) C X104 at_83 rfl rfl ?_
      refine Go.iconst (z := (1 : Int32)) (pc' := 86) C X104 at_85 rfl rfl ?_
      by_cases hc86_286 : (((p4.toUInt32 >>> ((2 : Int32) &&& 31).toUInt32).toInt32) &&& (3 : Int32)) = (1 : Int32)
      · refine Go.icmpNo (pc' := 89) C X104 at_86 (teq (x := (((p4.toUInt32 >>> ((2 : Int32) &&& 31).toUInt32).toInt32) &&& (3 : Int32))) (y := (1 : Int32)) hc86_286).2 rfl ?_
        refine Go.iload (pc' := 91) C X104 at_89 rfl rfl ?_
        refine Go.iload (pc' := 93) C X104 at_91 rfl rfl ?_
        refine Go.ixor (pc' := 94) C X104 at_93 rfl ?_
        refine Go.i2c (pc' := 95) C X104 at_94 rfl ?_
        refine Go.istore (Ls' := #[.val (.int p1), .val (.int p2), .val (.int p3), .val (.int p4), .val (.int (p4 &&& (3 : Int32))), .val (.int src), .val (.int (((p4.toUInt32 >>> ((2 : Int32) &&& 31).toUInt32).toInt32) &&& (3 : Int32))), .val (.int (((p4.toUInt32 >>> ((4 : Int32) &&& 31).toUInt32).toInt32) &&& (255 : Int32))), .val (.int (chv src (0 : Int32))), .val (.int (((chv src (1 : Int32)) ^^^ (((p4.toUInt32 >>> ((4 : Int32) &&& 31).toUInt32).toInt32) &&& (255 : Int32))).toUInt32.toUInt16.toUInt32.toInt32)), .val (.int (chv src (2 : Int32))), .unset, .unset, .unset, .unset, .unset, .unset, .unset]) (pc' := 97) C X104 at_95 rfl rfl ?_
        refine Go.goto (pc' := 114) C X104 at_97 (by decide) (by decide) ?_
        exact K114 _ _ X104 e104 N104 (chv src (0 : Int32)) (((chv src (1 : Int32)) ^^^ (((p4.toUInt32 >>> ((4 : Int32) &&& 31).toUInt32).toInt32) &&& (255 : Int32))).toUInt32.toUInt16.toUInt32.toInt32) (chv src (2 : Int32)) (own_chv _ _) (own_xr (own_chv _ _) (own_255 _)) (own_chv _ _)
      · refine Go.icmpYes (pc' := 100) C X104 at_86 (feq (x := (((p4.toUInt32 >>> ((2 : Int32) &&& 31).toUInt32).toInt32) &&& (3 : Int32))) (y := (1 : Int32)) hc86_286).2 (by decide) (by decide) ?_
        refine Go.iload (pc' := 102) C X104 at_100 rfl rfl ?_
        refine Go.iconst (z := (2 : Int32)) (pc' := 103) C X104 at_102 rfl rfl ?_
        by_cases hc103_287 : (((p4.toUInt32 >>> ((2 : Int32) &&& 31).toUInt32).toInt32) &&& (3 : Int32)) = (2 : Int32)
        · refine Go.icmpNo (pc' := 106) C X104 at_103 (teq (x := (((p4.toUInt32 >>> ((2 : Int32) &&& 31).toUInt32).toInt32) &&& (3 : Int32))) (y := (2 : Int32)) hc103_287).2 rfl ?_
          refine Go.iload (pc' := 108) C X104 at_106 rfl rfl ?_
          refine Go.iload (pc' := 110) C X104 at_108 rfl rfl ?_
          refine Go.ixor (pc' := 111) C X104 at_110 rfl ?_
          refine Go.i2c (pc' := 112) C X104 at_111 rfl ?_
          refine Go.istore (Ls' := #[.val (.int p1), .val (.int p2), .val (.int p3), .val (.int p4), .val (.int (p4 &&& (3 : Int32))), .val (.int src), .val (.int (((p4.toUInt32 >>> ((2 : Int32) &&& 31).toUInt32).toInt32) &&& (3 : Int32))), .val (.int (((p4.toUInt32 >>> ((4 : Int32) &&& 31).toUInt32).toInt32) &&& (255 : Int32))), .val (.int (chv src (0 : Int32))), .val (.int (chv src (1 : Int32))), .val (.int (((chv src (2 : Int32)) ^^^ (((p4.toUInt32 >>> ((4 : Int32) &&& 31).toUInt32).toInt32) &&& (255 : Int32))).toUInt32.toUInt16.toUInt32.toInt32)), .unset, .unset, .unset, .unset, .unset, .unset, .unset]) (pc' := 114) C X104 at_112 rfl rfl ?_
          exact K114 _ _ X104 e104 N104 (chv src (0 : Int32)) (chv src (1 : Int32)) (((chv src (2 : Int32)) ^^^ (((p4.toUInt32 >>> ((4 : Int32) &&& 31).toUInt32).toInt32) &&& (255 : Int32))).toUInt32.toUInt16.toUInt32.toInt32) (own_chv _ _) (own_chv _ _) (own_xr (own_chv _ _) (own_255 _))
        · refine Go.icmpYes (pc' := 114) C X104 at_103 (feq (x := (((p4.toUInt32 >>> ((2 : Int32) &&& 31).toUInt32).toInt32) &&& (3 : Int32))) (y := (2 : Int32)) hc103_287).2 (by decide) (by decide) ?_
          exact K114 _ _ X104 e104 N104 (chv src (0 : Int32)) (chv src (1 : Int32)) (chv src (2 : Int32)) (own_chv _ _) (own_chv _ _) (own_chv _ _)
  refine Go.istore (Ls' := #[.val (.int p1), .val (.int p2), .val (.int p3), .val (.int p4), .val (.int (p4 &&& (3 : Int32))), .unset, .unset, .unset, .unset, .unset, .unset, .unset, .unset, .unset, .unset, .unset, .unset, .unset]) (pc' := 5) C X0 at_3 rfl rfl ?_
  refine Go.iload (pc' := 7) C X0 at_5 rfl rfl ?_
  by_cases hc7_288 : (p4 &&& (3 : Int32)) = (0 : Int32)
  · refine Go.ifNo (pc' := 10) C X0 at_7 ((if0 _ _).trans (teq (x := (p4 &&& (3 : Int32))) (y := (0 : Int32)) hc7_288).2) rfl ?_
    refine Go.iloadN (pc' := 11) C X0 at_10 rfl rfl ?_
    refine Go.goto (pc' := 25) C X0 at_11 (by decide) (by decide) ?_
    refine Go.istore (Ls' := #[.val (.int p1), .val (.int p2), .val (.int p3), .val (.int p4), .val (.int (p4 &&& (3 : Int32))), .val (.int p1), .unset, .unset, .unset, .unset, .unset, .unset, .unset, .unset, .unset, .unset, .unset, .unset]) (pc' := 27) C X0 at_25 rfl rfl ?_
    exact K27 _ _ X0 e0 N0 p1 
  · refine Go.ifYes (pc' := 14) C X0 at_7 ((if0 _ _).trans (feq (x := (p4 &&& (3 : Int32))) (y := (0 : Int32)) hc7_288).2) (by decide) (by decide) ?_
    refine Go.iload (pc' := 16) C X0 at_14 rfl rfl ?_
    refine Go.iconst (z := (1 : Int32)) (pc' := 17) C X0 at_16 rfl rfl ?_
    by_cases hc17_289 : (p4 &&& (3 : Int32)) = (1 : Int32)
    · refine Go.icmpNo (pc' := 20) C X0 at_17 (teq (x := (p4 &&& (3 : Int32))) (y := (1 : Int32)) hc17_289).2 rfl ?_
      refine Go.iloadN (pc' := 21) C X0 at_20 rfl rfl ?_
      refine Go.goto (pc' := 25) C X0 at_21 (by decide) (by decide) ?_
      refine Go.istore (Ls' := #[.val (.int p1), .val (.int p2), .val (.int p3), .val (.int p4), .val (.int (p4 &&& (3 : Int32))), .val (.int p2), .unset, .unset, .unset, .unset, .unset, .unset, .unset, .unset, .unset, .unset, .unset, .unset]) (pc' := 27) C X0 at_25 rfl rfl ?_
      exact K27 _ _ X0 e0 N0 p2 
    · refine Go.icmpYes (pc' := 24) C X0 at_17 (feq (x := (p4 &&& (3 : Int32))) (y := (1 : Int32)) hc17_289).2 (by decide) (by decide) ?_
      refine Go.iloadN (pc' := 25) C X0 at_24 rfl rfl ?_
      refine Go.istore (Ls' := #[.val (.int p1), .val (.int p2), .val (.int p3), .val (.int p4), .val (.int (p4 &&& (3 : Int32))), .val (.int p3), .unset, .unset, .unset, .unset, .unset, .unset, .unset, .unset, .unset, .unset, .unset, .unset]) (pc' := 27) C X0 at_25 rfl rfl ?_
      exact K27 _ _ X0 e0 N0 p3 
theorem eqI_v {args : Array Value} {Z : State} {t : Term} {x n : Int32} (h : t.eval args Z none [] Z = some (.int x)) : (Jvm.Cond.eq t (.int n)).value args Z none Z [] = some (decide (x = n)) := by simp [Cond.value, Term.eval, h]
set_option maxRecDepth 65536 in
set_option maxHeartbeats 40000000 in
theorem comes_1 {Post : Tables → Env → Array Value → State → Outcome → State → Prop} (hpost : ∀ tb e args s v u, (limb_1_1.after args s (.returned v) u = true ∧ limb_1_2.after args s (.returned v) u = true ∧ True) → FrameEnd s (.returned v) u (Jvm.fieldLocs frame_1_writes args s ++ Jvm.arrayLocs frame_1_arrays args s ++ Jvm.staticLocs frame_1_statics s) 32 128 → Post tb e args s (.returned v) u) :
    ArmFor flags0 classFile x code maxLocals ret World_1 tables_1 room_1 Calls_1 rest_1 Pre_1 Post := by
  intro l hfl _ _ p e ha hc hk s m args below hf hA hF happ hP
  obtain ⟨hcalls, hrest, hpre⟩ := hP
  obtain ⟨-, -, -, hnamed, -, -, -, hat⟩ := (Spec.applies_iff hf).mp happ
  obtain ⟨hg, hn⟩ := and_e (Cond.before_iff.mp (show (Jvm.Cond.and given_1 narrow_1).before args s = true from hpre))
  obtain ⟨g1, g2⟩ := and_e hg
  obtain ⟨g3, g4⟩ := and_e g2
  obtain ⟨g5, g6⟩ := and_e g4
  obtain ⟨g7, g8⟩ := and_e g6
  obtain ⟨w0, w1, w2, w3, rfl⟩ : ∃ w0 w1 w2 w3 : Value, args = #[w0, w1, w2, w3] := by
    have hs : args.size = 4 := by simpa [Cond.value, given_1] using g1
    obtain ⟨L⟩ := args
    match L, hs with
    | [w0, w1, w2, w3], _ => exact ⟨w0, w1, w2, w3, rfl⟩
  have hw := fun d (hd : d ∈ tables_1) => atoms_spec (ws := Jvm.Cond.code x code maxLocals ret :: tables_1) hat d (List.mem_cons_of_mem _ hd)
  have hfit : Fit s := fun {y c} hc i hi => by
    obtain ⟨ha, rfl⟩ := Array.getElem?_eq_some_iff.mp hc
    have q := List.all_eq_true.mp ((Array.all_eq_true_iff_forall_mem.mp hF) _ (Array.getElem_mem ha)) i (List.mem_range.mpr hi)
    simpa [Array.getElem?_eq_getElem hi] using q
  obtain ⟨hsets, hown0⟩ := atoms_of _ (rest_1_c_eq ▸ (show rest_1_c.before _ s = true from hrest))
  obtain ⟨i0, ei0⟩ := is_v g3
  obtain rfl : w0 = (.int i0) := Option.some.inj ei0
  obtain ⟨i1, ei1⟩ := is_v g5
  obtain rfl : w1 = (.int i1) := Option.some.inj ei1
  obtain ⟨i2, ei2⟩ := is_v g7
  obtain rfl : w2 = (.int i2) := Option.some.inj ei2
  obtain ⟨i3, ei3⟩ := is_v g8
  obtain rfl : w3 = (.int i3) := Option.some.inj ei3
  obtain ⟨cP, vP⟩ := is_v (Cond.before_iff.mp (hsets _ (List.mem_of_getElem? (i := 1) rfl)))
  have SP := Sta.start vP (Or.inl (hsets _ (List.mem_of_getElem? (i := 0) rfl)))
  have hP : ¬ cP = (0 : Int32) := gotF (eqI_v vP) (not_v (Cond.before_iff.mp (hsets _ (List.mem_of_getElem? (i := 2) rfl))))
  obtain ⟨n, o, h1, h2, h3, _, L, rfl, ⟨rfl, N, -⟩, hq⟩ := rm_law l s _ hw i0 i1 i2 i3 cP s.heap (Ext.refl _) SP hP tables_1 p e ha hc hk s m _ below hf ((Spec.applies_iff_loose hf).mp happ).1 ⟨rfl, State.Warmed39.refl s, rfl⟩ trivial
  refine ⟨n, _, h1, h2, h3, hpost _ _ _ _ _ _ ⟨Cond.after_iff.mpr rfl, Cond.after_iff.mpr (eq_i res_at (Term.int_eval (1)) rfl), trivial⟩ ⟨hq.1, hq.2.1, (hq.2.2.sift fun y hy => Or.inr (N y hy)).mono (by decide) (by decide)⟩⟩
theorem main_1_1 : Claimed_1_1 := comes_1 fun _ _ _ _ _ _ h hF => ⟨h.1, hF⟩
theorem main_1_2 : Claimed_1_2 := comes_1 fun _ _ _ _ _ _ h hF => ⟨h.2.1, hF⟩
end Jvm.Pilot.@@N@@
namespace Jvm.Pilot.@@N@@
open Jvm Jvm.ClassFile Sem Op Lib Jvm.Free Jvm.Stand Jvm.Pilot.@@N@@.Jvm.D
/-! MADE BY PROGRAM (witnessworld.py) out of the Statement's table words and the real class files: 21 classes; the members and pool entries that the words name. The judged class is class 1, her method 2. -/
namespace start1
open Jvm.ClassFile
def u (s : String) : CpInfo := .utf8 (stringToUtf16 s)
/-- a pool by its gaps: so many unusable entries, then the entry; so many at the end -/
def gap : Nat → List CpInfo → List CpInfo
  | 0, r => r
  | n + 1, r => .unusable :: gap n r
def poolList (es : List (Nat × CpInfo)) (last : Nat) : List CpInfo := es.foldr (fun e r => gap e.1 (e.2 :: r)) (gap last [])
def pool (es : List (Nat × CpInfo)) (last : Nat) : Array CpInfo := ⟨poolList es last⟩
def fileOf (pool : Array CpInfo) (this : Nat) (attrs : Array Attribute := #[]) (ms : Array MethodInfo := #[]) (fl : Nat := 33) (sup : Nat := 0) (ifs : Array Nat := #[]) (fds : Array FieldInfo := #[]) : ClassFile where
  minorVersion := 0
  majorVersion := 65
  constantPool := pool
  accessFlags := fl
  thisClass := this
  superClass := sup
  interfaces := ifs
  fields := fds
  methods := ms
  attributes := attrs
def plain (name : String) (sup : Option ClassId) : Class where
  name := name
  kind := .ordinary
  loader := none
  accessFlags := 33
  super := sup
  interfaces := #[]
  cf := none
  fields := #[]
  methods := #[]
  instanceTypes := #[]
  staticTypes := #[]
  resolved := #[]
  callSites := []
  init := .initialized
  statics := none
  mirror := none

def pool0 : Array CpInfo := pool [(5, u "<init>"), (0, u "()V"), (1, .class_ 10), (1, u "java/lang/Object")] 113

def k0c0 : Code := { maxStack := 0, maxLocals := 1, code := object_method_1_code, exceptionTable := #[], attributes := #[] }
def k0m0 : Method := { name := "<init>", desc := "()V", sig := { parameters := [], returnType := none }, accessFlags := 1, code := some k0c0 }
/-- java/lang/Object -/
def k0 : Class := { plain "java/lang/Object" none with
  accessFlags := 33
  interfaces := #[]
  cf := some (fileOf pool0 8 #[] #[{ accessFlags := 1, nameIndex := 5, descriptorIndex := 6, attributes := #[] }] 33 0 #[] #[])
  fields := #[]
  methods := #[k0m0]
  instanceTypes := #[]
  staticTypes := #[]
  resolved := Array.replicate 124 none
  statics := none }

def pool1 : Array CpInfo := pool [(2, .class_ 4), (1, u "java/lang/Object"), (0, u "<init>"), (0, u "()V"), (0, .methodref 8 9), (0, .class_ 10), (0, .nameAndType 11 12), (0, u "com/example/quoteloom/quoteloom/CurrencyPairHasPinLaw"), (0, u "ch"), (0, u "(II)C"), (0, .class_ 14), (0, u "java/lang/String"), (0, .methodref 13 16), (0, .nameAndType 5 17), (0, u "([C)V"), (0, .class_ 19), (0, u "com/example/quoteloom/quoteloom/CurrencyPair"), (0, .methodref 18 21), (0, .nameAndType 5 22), (0, u "(Ljava/lang/String;Ljava/lang/String;)V"), (0, .methodref 18 24), (0, .nameAndType 25 26), (0, u "has"), (0, u "(Ljava/lang/String;)Z"), (2, u "law"), (0, u "(IIII)Z")] 3

def k1m0 : Method := { name := "<init>", desc := "()V", sig := { parameters := [], returnType := none }, accessFlags := 1, code := none }
def k1c1 : Code := { maxStack := 3, maxLocals := 2, code := method_2_code, exceptionTable := #[], attributes := #[] }
def k1m1 : Method := { name := "ch", desc := "(II)C", sig := { parameters := [.int, .int], returnType := some .char }, accessFlags := 10, code := some k1c1 }
def k1c2 : Code := { maxStack := 7, maxLocals := 18, code := code, exceptionTable := #[], attributes := #[] }
def k1m2 : Method := { name := "law", desc := "(IIII)Z", sig := { parameters := [.int, .int, .int, .int], returnType := some .boolean }, accessFlags := 9, code := some k1c2 }
/-- com/example/quoteloom/quoteloom/CurrencyPairHasPinLaw -/
def k1 : Class := { plain "com/example/quoteloom/quoteloom/CurrencyPairHasPinLaw" (some 0) with
  accessFlags := 49
  interfaces := #[]
  cf := some (fileOf pool1 8 #[] #[{ accessFlags := 1, nameIndex := 5, descriptorIndex := 6, attributes := #[] }, { accessFlags := 10, nameIndex := 11, descriptorIndex := 12, attributes := #[] }, { accessFlags := 9, nameIndex := 29, descriptorIndex := 30, attributes := #[] }] 49 2 #[] #[])
  fields := #[]
  methods := #[k1m0, k1m1, k1m2]
  instanceTypes := #[]
  staticTypes := #[]
  resolved := Array.replicate 34 none
  statics := none }

def pool2 : Array CpInfo := pool [(1, .class_ 2), (0, u "java/io/Serializable"), (0, .class_ 4), (0, u "java/lang/Object")] 2

/-- java/io/Serializable -/
def k2 : Class := { plain "java/io/Serializable" (some 0) with
  accessFlags := 1537
  interfaces := #[]
  cf := some (fileOf pool2 1 #[] #[] 1537 3 #[] #[])
  fields := #[]
  methods := #[]
  instanceTypes := #[]
  staticTypes := #[]
  resolved := Array.replicate 7 none
  statics := none }

def pool3 : Array CpInfo := pool [(1, .class_ 2), (0, u "java/lang/Comparable"), (0, .class_ 4), (0, u "java/lang/Object")] 7

/-- java/lang/Comparable -/
def k3 : Class := { plain "java/lang/Comparable" (some 0) with
  accessFlags := 1537
  interfaces := #[]
  cf := some (fileOf pool3 1 #[] #[] 1537 3 #[] #[])
  fields := #[]
  methods := #[]
  instanceTypes := #[]
  staticTypes := #[]
  resolved := Array.replicate 12 none
  statics := none }

def pool4 : Array CpInfo := pool [(2, .class_ 4), (1, u "java/lang/CharSequence"), (42, .class_ 48), (0, u "java/lang/CharSequence$1CodePointIterator"), (10, .class_ 60), (0, u "java/lang/CharSequence$1CharIterator"), (5, .class_ 67), (0, u "java/lang/Object")] 63

/-- java/lang/CharSequence -/
def k4 : Class := { plain "java/lang/CharSequence" (some 0) with
  accessFlags := 1537
  interfaces := #[]
  cf := some (fileOf pool4 2 #[.nestMembers #[47, 59]] #[] 1537 66 #[] #[])
  fields := #[]
  methods := #[]
  instanceTypes := #[]
  staticTypes := #[]
  resolved := Array.replicate 131 none
  statics := none }

def pool5 : Array CpInfo := pool [(1, .class_ 2), (0, u "java/lang/constant/Constable"), (0, .class_ 4), (0, u "java/lang/Object")] 6

/-- java/lang/constant/Constable -/
def k5 : Class := { plain "java/lang/constant/Constable" (some 0) with
  accessFlags := 1537
  interfaces := #[]
  cf := some (fileOf pool5 1 #[] #[] 1537 3 #[] #[])
  fields := #[]
  methods := #[]
  instanceTypes := #[]
  staticTypes := #[]
  resolved := Array.replicate 11 none
  statics := none }

def pool6 : Array CpInfo := pool [(1, .class_ 2), (0, u "java/lang/constant/ConstantDesc"), (0, .class_ 4), (0, u "java/lang/Object")] 32

/-- java/lang/constant/ConstantDesc -/
def k6 : Class := { plain "java/lang/constant/ConstantDesc" (some 0) with
  accessFlags := 1537
  interfaces := #[]
  cf := some (fileOf pool6 1 #[] #[] 1537 3 #[] #[])
  fields := #[]
  methods := #[]
  instanceTypes := #[]
  staticTypes := #[]
  resolved := Array.replicate 37 none
  statics := none }

def pool7 : Array CpInfo := pool [(1, .methodref 2 3), (0, .class_ 4), (0, .nameAndType 5 6), (0, u "java/lang/Object"), (0, u "<init>"), (0, u "()V"), (2, .fieldref 10 11), (0, .class_ 12), (0, .nameAndType 13 14), (0, u "java/lang/String"), (0, u "value"), (0, u "[B"), (0, .fieldref 10 16), (0, .nameAndType 17 18), (0, u "coder"), (0, u "B"), (2, u "hash"), (0, u "I"), (2, u "hashIsZero"), (0, u "Z"), (0, .methodref 10 28), (0, .nameAndType 5 29), (0, u "([CIILjava/lang/Void;)V"), (8, .fieldref 10 39), (0, .nameAndType 40 26), (0, u "COMPACT_STRINGS"), (1, .class_ 44), (1, u "java/lang/StringUTF16"), (0, u "compress"), (1, .methodref 42 48), (0, .nameAndType 49 50), (0, u "coderFromArrayLen"), (0, u "([BI)B"), (56, .class_ 109), (1, u "java/lang/StringLatin1"), (67, .methodref 42 178), (0, .nameAndType 45 179), (0, u "([CII)[B"), (361, .methodref 107 542), (0, .nameAndType 543 544), (0, u "equals"), (0, u "([B[B)Z"), (28, u "(Ljava/lang/Object;)Z"), (1, .class_ 576), (0, u "java/lang/CharSequence"), (22, u "CASE_INSENSITIVE_ORDER"), (0, u "Ljava/util/Comparator;"), (409, u "([C)V"), (90, u "serialPersistentFields"), (0, u "[Ljava/io/ObjectStreamField;"), (0, .class_ 1104), (0, u "java/lang/String$CaseInsensitiveComparator"), (1, .class_ 1107), (0, u "java/io/Serializable"), (0, .class_ 1109), (0, u "java/lang/Comparable"), (0, .class_ 1111), (0, u "java/lang/constant/Constable"), (0, .class_ 1113), (0, u "java/lang/constant/ConstantDesc"), (2, u "serialVersionUID"), (0, u "J"), (3, u "REPL"), (0, u "C"), (2, u "LATIN1"), (1, u "UTF16")] 323

def k7m0 : Method := { name := "<init>", desc := "()V", sig := { parameters := [], returnType := none }, accessFlags := 1, code := none }
def k7c1 : Code := { maxStack := 5, maxLocals := 2, code := jdk_42_method_3_code, exceptionTable := #[], attributes := #[] }
def k7m1 : Method := { name := "<init>", desc := "([C)V", sig := { parameters := [(.array .char)], returnType := none }, accessFlags := 1, code := some k7c1 }
def k7c2 : Code := { maxStack := 2, maxLocals := 3, code := jdk_42_method_66_code, exceptionTable := #[], attributes := #[] }
def k7m2 : Method := { name := "equals", desc := "(Ljava/lang/Object;)Z", sig := { parameters := [(.object "java/lang/Object")], returnType := some .boolean }, accessFlags := 1, code := some k7c2 }
def k7c3 : Code := { maxStack := 4, maxLocals := 6, code := jdk_42_method_149_code, exceptionTable := #[], attributes := #[] }
def k7m3 : Method := { name := "<init>", desc := "([CIILjava/lang/Void;)V", sig := { parameters := [(.array .char), .int, .int, (.object "java/lang/Void")], returnType := none }, accessFlags := 2, code := some k7c3 }
/-- java/lang/String -/
def k7 : Class := { plain "java/lang/String" (some 0) with
  accessFlags := 49
  interfaces := #[2, 3, 4, 5, 6]
  cf := some (fileOf pool7 10 #[.nestMembers #[1103]] #[{ accessFlags := 1, nameIndex := 5, descriptorIndex := 6, attributes := #[] }, { accessFlags := 1, nameIndex := 5, descriptorIndex := 1010, attributes := #[] }, { accessFlags := 1, nameIndex := 543, descriptorIndex := 573, attributes := #[] }, { accessFlags := 2, nameIndex := 5, descriptorIndex := 29, attributes := #[] }] 49 2 #[1106, 1108, 575, 1110, 1112] #[{ accessFlags := 18, nameIndex := 13, descriptorIndex := 14, attributes := #[] }, { accessFlags := 18, nameIndex := 17, descriptorIndex := 18, attributes := #[] }, { accessFlags := 2, nameIndex := 21, descriptorIndex := 22, attributes := #[] }, { accessFlags := 2, nameIndex := 25, descriptorIndex := 26, attributes := #[] }, { accessFlags := 26, nameIndex := 1116, descriptorIndex := 1117, attributes := #[] }, { accessFlags := 24, nameIndex := 40, descriptorIndex := 26, attributes := #[] }, { accessFlags := 26, nameIndex := 1101, descriptorIndex := 1102, attributes := #[] }, { accessFlags := 26, nameIndex := 1121, descriptorIndex := 1122, attributes := #[] }, { accessFlags := 25, nameIndex := 599, descriptorIndex := 600, attributes := #[] }, { accessFlags := 24, nameIndex := 1125, descriptorIndex := 18, attributes := #[] }, { accessFlags := 24, nameIndex := 1127, descriptorIndex := 18, attributes := #[] }])
  fields := #[{ name := "value", type := (.array .byte), accessFlags := 18, slot := 0, constantValue := 0 }, { name := "coder", type := .byte, accessFlags := 18, slot := 1, constantValue := 0 }, { name := "hash", type := .int, accessFlags := 2, slot := 2, constantValue := 0 }, { name := "hashIsZero", type := .boolean, accessFlags := 2, slot := 3, constantValue := 0 }, { name := "serialVersionUID", type := .long, accessFlags := 26, slot := 0, constantValue := 0 }, { name := "COMPACT_STRINGS", type := .boolean, accessFlags := 24, slot := 1, constantValue := 0 }, { name := "serialPersistentFields", type := (.array (.object "java/io/ObjectStreamField")), accessFlags := 26, slot := 2, constantValue := 0 }, { name := "REPL", type := .char, accessFlags := 26, slot := 3, constantValue := 0 }, { name := "CASE_INSENSITIVE_ORDER", type := (.object "java/util/Comparator"), accessFlags := 25, slot := 4, constantValue := 0 }, { name := "LATIN1", type := .byte, accessFlags := 24, slot := 5, constantValue := 0 }, { name := "UTF16", type := .byte, accessFlags := 24, slot := 6, constantValue := 0 }]
  methods := #[k7m0, k7m1, k7m2, k7m3]
  instanceTypes := #[(.array .byte), .byte, .int, .boolean]
  staticTypes := #[.long, .boolean, (.array (.object "java/io/ObjectStreamField")), .char, (.object "java/util/Comparator"), .byte, .byte]
  resolved := Array.replicate 1451 none
  statics := some 0 }

def pool8 : Array CpInfo := pool [(6, .class_ 8), (1, u "java/lang/Object"), (0, u "<init>"), (0, u "()V"), (1, .class_ 14), (1, u "java/lang/StringUTF16"), (31, u "$assertionsDisabled"), (0, u "Z"), (13, u "HI_BYTE_SHIFT"), (0, u "I"), (2, u "LO_BYTE_SHIFT"), (49, .methodref 12 116), (0, .nameAndType 117 118), (0, u "compress"), (0, u "([CI[BII)I"), (3, u "([CII)[B"), (138, u "coderFromArrayLen"), (0, u "([BI)B"), (106, .class_ 371), (1, u "java/lang/StringUTF16$LinesSpliterator"), (58, u "MAX_LENGTH"), (196, .class_ 628), (0, u "java/lang/StringUTF16$CodePointsSpliterator"), (0, .class_ 630), (0, u "java/lang/StringUTF16$CharsSpliterator")] 4

def k8m0 : Method := { name := "<init>", desc := "()V", sig := { parameters := [], returnType := none }, accessFlags := 0, code := none }
def k8c1 : Code := { maxStack := 2, maxLocals := 2, code := jdk_52_method_15_code, exceptionTable := #[], attributes := #[] }
def k8m1 : Method := { name := "coderFromArrayLen", desc := "([BI)B", sig := { parameters := [(.array .byte), .int], returnType := some .byte }, accessFlags := 8, code := some k8c1 }
def k8c2 : Code := { maxStack := 5, maxLocals := 6, code := jdk_52_method_16_code, exceptionTable := #[], attributes := #[] }
def k8m2 : Method := { name := "compress", desc := "([CII)[B", sig := { parameters := [(.array .char), .int, .int], returnType := some (.array .byte) }, accessFlags := 9, code := some k8c2 }
def k8c3 : Code := { maxStack := 3, maxLocals := 7, code := jdk_52_method_21_code, exceptionTable := #[], attributes := #[] }
def k8m3 : Method := { name := "compress", desc := "([CI[BII)I", sig := { parameters := [(.array .char), .int, (.array .byte), .int, .int], returnType := some .int }, accessFlags := 9, code := some k8c3 }
/-- java/lang/StringUTF16 -/
def k8 : Class := { plain "java/lang/StringUTF16" (some 0) with
  accessFlags := 48
  interfaces := #[]
  cf := some (fileOf pool8 12 #[.nestMembers #[627, 629, 369]] #[{ accessFlags := 0, nameIndex := 9, descriptorIndex := 10, attributes := #[] }, { accessFlags := 8, nameIndex := 261, descriptorIndex := 262, attributes := #[] }, { accessFlags := 9, nameIndex := 117, descriptorIndex := 122, attributes := #[] }, { accessFlags := 9, nameIndex := 117, descriptorIndex := 118, attributes := #[] }] 48 6 #[] #[{ accessFlags := 26, nameIndex := 61, descriptorIndex := 62, attributes := #[] }, { accessFlags := 26, nameIndex := 65, descriptorIndex := 62, attributes := #[] }, { accessFlags := 24, nameIndex := 430, descriptorIndex := 62, attributes := #[] }, { accessFlags := 4120, nameIndex := 46, descriptorIndex := 47, attributes := #[] }])
  fields := #[{ name := "HI_BYTE_SHIFT", type := .int, accessFlags := 26, slot := 0, constantValue := 0 }, { name := "LO_BYTE_SHIFT", type := .int, accessFlags := 26, slot := 1, constantValue := 0 }, { name := "MAX_LENGTH", type := .int, accessFlags := 24, slot := 2, constantValue := 0 }, { name := "$assertionsDisabled", type := .boolean, accessFlags := 4120, slot := 3, constantValue := 0 }]
  methods := #[k8m0, k8m1, k8m2, k8m3]
  instanceTypes := #[]
  staticTypes := #[.int, .int, .int, .boolean]
  resolved := Array.replicate 635 none
  statics := none }

def pool9 : Array CpInfo := pool [(1, .methodref 2 3), (0, .class_ 4), (0, .nameAndType 5 6), (0, u "java/lang/Object"), (0, u "<init>"), (0, u "()V"), (0, .class_ 8), (0, u "java/lang/Record")] 13

def k9c0 : Code := { maxStack := 1, maxLocals := 1, code := jdk_30_method_1_code, exceptionTable := #[], attributes := #[] }
def k9m0 : Method := { name := "<init>", desc := "()V", sig := { parameters := [], returnType := none }, accessFlags := 4, code := some k9c0 }
/-- java/lang/Record -/
def k9 : Class := { plain "java/lang/Record" (some 0) with
  accessFlags := 1057
  interfaces := #[]
  cf := some (fileOf pool9 7 #[] #[{ accessFlags := 4, nameIndex := 5, descriptorIndex := 6, attributes := #[] }] 1057 2 #[] #[])
  fields := #[]
  methods := #[k9m0]
  instanceTypes := #[]
  staticTypes := #[]
  resolved := Array.replicate 22 none
  statics := none }

def pool10 : Array CpInfo := pool [(1, .methodref 2 3), (0, .class_ 4), (0, .nameAndType 5 6), (0, u "java/lang/Record"), (0, u "<init>"), (0, u "()V"), (0, .fieldref 8 9), (0, .class_ 10), (0, .nameAndType 11 12), (0, u "com/example/quoteloom/quoteloom/CurrencyPair"), (0, u "base"), (0, u "Ljava/lang/String;"), (0, .fieldref 8 14), (0, .nameAndType 15 12), (0, u "quote"), (2, u "CODES"), (0, u "Ljava/util/regex/Pattern;"), (19, .class_ 41), (1, u "java/lang/String"), (7, u "(Ljava/lang/String;Ljava/lang/String;)V"), (0, .methodref 39 51), (0, .nameAndType 52 53), (0, u "equals"), (0, u "(Ljava/lang/Object;)Z"), (51, u "ONE_DAY_SPOT_AGAINST_USD"), (0, u "Ljava/util/Set;"), (39, u "NUMBER_OF_PIPS"), (0, u "I"), (2, u "NUMBER_OF_FRACTIONAL_PIPS"), (1, u "PIPS_DECIMALS"), (16, u "has"), (0, u "(Ljava/lang/String;)Z")] 37

def k10c0 : Code := { maxStack := 2, maxLocals := 3, code := prog_14_method_1_code, exceptionTable := #[], attributes := #[] }
def k10m0 : Method := { name := "<init>", desc := "(Ljava/lang/String;Ljava/lang/String;)V", sig := { parameters := [(.object "java/lang/String"), (.object "java/lang/String")], returnType := none }, accessFlags := 0, code := some k10c0 }
def k10c1 : Code := { maxStack := 2, maxLocals := 2, code := prog_14_method_9_code, exceptionTable := #[], attributes := #[] }
def k10m1 : Method := { name := "has", desc := "(Ljava/lang/String;)Z", sig := { parameters := [(.object "java/lang/String")], returnType := some .boolean }, accessFlags := 0, code := some k10c1 }
/-- com/example/quoteloom/quoteloom/CurrencyPair -/
def k10 : Class := { plain "com/example/quoteloom/quoteloom/CurrencyPair" (some 9) with
  accessFlags := 48
  interfaces := #[]
  cf := some (fileOf pool10 8 #[] #[{ accessFlags := 0, nameIndex := 5, descriptorIndex := 49, attributes := #[] }, { accessFlags := 0, nameIndex := 169, descriptorIndex := 170, attributes := #[] }] 48 2 #[] #[{ accessFlags := 18, nameIndex := 11, descriptorIndex := 12, attributes := #[] }, { accessFlags := 18, nameIndex := 15, descriptorIndex := 12, attributes := #[] }, { accessFlags := 24, nameIndex := 146, descriptorIndex := 147, attributes := #[] }, { accessFlags := 24, nameIndex := 150, descriptorIndex := 147, attributes := #[] }, { accessFlags := 24, nameIndex := 152, descriptorIndex := 147, attributes := #[] }, { accessFlags := 26, nameIndex := 18, descriptorIndex := 19, attributes := #[] }, { accessFlags := 26, nameIndex := 105, descriptorIndex := 106, attributes := #[] }])
  fields := #[{ name := "base", type := (.object "java/lang/String"), accessFlags := 18, slot := 0, constantValue := 0 }, { name := "quote", type := (.object "java/lang/String"), accessFlags := 18, slot := 1, constantValue := 0 }, { name := "NUMBER_OF_PIPS", type := .int, accessFlags := 24, slot := 0, constantValue := 0 }, { name := "NUMBER_OF_FRACTIONAL_PIPS", type := .int, accessFlags := 24, slot := 1, constantValue := 0 }, { name := "PIPS_DECIMALS", type := .int, accessFlags := 24, slot := 2, constantValue := 0 }, { name := "CODES", type := (.object "java/util/regex/Pattern"), accessFlags := 26, slot := 3, constantValue := 0 }, { name := "ONE_DAY_SPOT_AGAINST_USD", type := (.object "java/util/Set"), accessFlags := 26, slot := 4, constantValue := 0 }]
  methods := #[k10m0, k10m1]
  instanceTypes := #[(.object "java/lang/String"), (.object "java/lang/String")]
  staticTypes := #[.int, .int, .int, (.object "java/util/regex/Pattern"), (.object "java/util/Set")]
  resolved := Array.replicate 208 none
  statics := none }

def pool11 : Array CpInfo := pool [(4, .class_ 6), (1, u "java/lang/Object"), (0, u "<init>"), (0, u "()V"), (5, .class_ 16), (1, u "java/lang/StringLatin1"), (104, u "$assertionsDisabled"), (0, u "Z"), (98, .class_ 223), (1, u "java/lang/StringLatin1$LinesSpliterator"), (57, u "equals"), (0, u "([B[B)Z"), (107, .class_ 391), (0, u "java/lang/StringLatin1$CharsSpliterator")] 3

def k11m0 : Method := { name := "<init>", desc := "()V", sig := { parameters := [], returnType := none }, accessFlags := 0, code := none }
def k11c1 : Code := { maxStack := 3, maxLocals := 3, code := jdk_43_method_13_code, exceptionTable := #[], attributes := #[] }
def k11m1 : Method := { name := "equals", desc := "([B[B)Z", sig := { parameters := [(.array .byte), (.array .byte)], returnType := some .boolean }, accessFlags := 9, code := some k11c1 }
/-- java/lang/StringLatin1 -/
def k11 : Class := { plain "java/lang/StringLatin1" (some 0) with
  accessFlags := 48
  interfaces := #[]
  cf := some (fileOf pool11 14 #[.nestMembers #[390, 221]] #[{ accessFlags := 0, nameIndex := 7, descriptorIndex := 8, attributes := #[] }, { accessFlags := 9, nameIndex := 281, descriptorIndex := 282, attributes := #[] }] 48 4 #[] #[{ accessFlags := 4120, nameIndex := 121, descriptorIndex := 122, attributes := #[] }])
  fields := #[{ name := "$assertionsDisabled", type := .boolean, accessFlags := 4120, slot := 0, constantValue := 0 }]
  methods := #[k11m0, k11m1]
  instanceTypes := #[]
  staticTypes := #[.boolean]
  resolved := Array.replicate 395 none
  statics := none }

def pool12 : Array CpInfo := pool [(2, .class_ 4), (1, u "java/lang/Object"), (0, u "<init>"), (0, u "()V"), (17, .class_ 26), (1, u "jdk/internal/util/Preconditions"), (28, .class_ 56), (0, u "jdk/internal/util/Preconditions$4"), (57, .class_ 115), (0, u "jdk/internal/util/Preconditions$1"), (7, u "SIOOBE_FORMATTER"), (0, u "Ljava/util/function/BiFunction;"), (0, .class_ 126), (0, u "jdk/internal/util/Preconditions$2"), (3, u "AIOOBE_FORMATTER"), (0, .class_ 132), (0, u "jdk/internal/util/Preconditions$3"), (3, u "IOOBE_FORMATTER")] 57

def k12m0 : Method := { name := "<init>", desc := "()V", sig := { parameters := [], returnType := none }, accessFlags := 1, code := none }
/-- jdk/internal/util/Preconditions -/
def k12 : Class := { plain "jdk/internal/util/Preconditions" (some 0) with
  accessFlags := 33
  interfaces := #[]
  cf := some (fileOf pool12 24 #[.nestMembers #[55, 131, 125, 114]] #[{ accessFlags := 1, nameIndex := 5, descriptorIndex := 6, attributes := #[] }] 33 2 #[] #[{ accessFlags := 25, nameIndex := 123, descriptorIndex := 124, attributes := #[] }, { accessFlags := 25, nameIndex := 130, descriptorIndex := 124, attributes := #[] }, { accessFlags := 25, nameIndex := 136, descriptorIndex := 124, attributes := #[] }])
  fields := #[{ name := "SIOOBE_FORMATTER", type := (.object "java/util/function/BiFunction"), accessFlags := 25, slot := 0, constantValue := 0 }, { name := "AIOOBE_FORMATTER", type := (.object "java/util/function/BiFunction"), accessFlags := 25, slot := 1, constantValue := 0 }, { name := "IOOBE_FORMATTER", type := (.object "java/util/function/BiFunction"), accessFlags := 25, slot := 2, constantValue := 0 }]
  methods := #[k12m0]
  instanceTypes := #[]
  staticTypes := #[(.object "java/util/function/BiFunction"), (.object "java/util/function/BiFunction"), (.object "java/util/function/BiFunction")]
  resolved := Array.replicate 194 none
  statics := some 1 }

def pool13 : Array CpInfo := pool [(9, u "<init>"), (6, .class_ 18), (1, u "java/lang/Object"), (0, u "()V"), (1, .class_ 23), (1, u "jdk/internal/util/ArraysSupport"), (0, u "LOG2_ARRAY_LONG_INDEX_SCALE"), (0, u "I"), (2, u "U"), (0, u "Ljdk/internal/misc/Unsafe;"), (8, u "BIG_ENDIAN"), (0, u "Z"), (8, u "LOG2_BYTE_BIT_SIZE"), (4, u "LOG2_ARRAY_INT_INDEX_SCALE"), (54, u "JLA"), (0, u "Ljdk/internal/access/JavaLangAccess;"), (11, u "LOG2_ARRAY_BOOLEAN_INDEX_SCALE"), (9, u "LOG2_ARRAY_BYTE_INDEX_SCALE"), (5, u "LOG2_ARRAY_CHAR_INDEX_SCALE"), (5, u "LOG2_ARRAY_SHORT_INDEX_SCALE"), (18, u "LOG2_ARRAY_FLOAT_INDEX_SCALE"), (24, u "LOG2_ARRAY_DOUBLE_INDEX_SCALE"), (89, u "T_BOOLEAN"), (2, u "T_CHAR"), (1, u "T_FLOAT"), (1, u "T_DOUBLE"), (1, u "T_BYTE"), (1, u "T_SHORT"), (1, u "T_INT"), (1, u "T_LONG"), (1, u "SOFT_MAX_ARRAY_LENGTH")] 83

def k13m0 : Method := { name := "<init>", desc := "()V", sig := { parameters := [], returnType := none }, accessFlags := 2, code := none }
/-- jdk/internal/util/ArraysSupport -/
def k13 : Class := { plain "jdk/internal/util/ArraysSupport" (some 0) with
  accessFlags := 33
  interfaces := #[]
  cf := some (fileOf pool13 21 #[] #[{ accessFlags := 2, nameIndex := 9, descriptorIndex := 19, attributes := #[] }] 33 16 #[] #[{ accessFlags := 24, nameIndex := 28, descriptorIndex := 29, attributes := #[] }, { accessFlags := 26, nameIndex := 38, descriptorIndex := 39, attributes := #[] }, { accessFlags := 25, nameIndex := 121, descriptorIndex := 25, attributes := #[] }, { accessFlags := 25, nameIndex := 131, descriptorIndex := 25, attributes := #[] }, { accessFlags := 25, nameIndex := 137, descriptorIndex := 25, attributes := #[] }, { accessFlags := 25, nameIndex := 143, descriptorIndex := 25, attributes := #[] }, { accessFlags := 25, nameIndex := 53, descriptorIndex := 25, attributes := #[] }, { accessFlags := 25, nameIndex := 24, descriptorIndex := 25, attributes := #[] }, { accessFlags := 25, nameIndex := 162, descriptorIndex := 25, attributes := #[] }, { accessFlags := 25, nameIndex := 187, descriptorIndex := 25, attributes := #[] }, { accessFlags := 26, nameIndex := 48, descriptorIndex := 25, attributes := #[] }, { accessFlags := 25, nameIndex := 277, descriptorIndex := 25, attributes := #[] }, { accessFlags := 25, nameIndex := 280, descriptorIndex := 25, attributes := #[] }, { accessFlags := 25, nameIndex := 282, descriptorIndex := 25, attributes := #[] }, { accessFlags := 25, nameIndex := 284, descriptorIndex := 25, attributes := #[] }, { accessFlags := 25, nameIndex := 286, descriptorIndex := 25, attributes := #[] }, { accessFlags := 25, nameIndex := 288, descriptorIndex := 25, attributes := #[] }, { accessFlags := 25, nameIndex := 290, descriptorIndex := 25, attributes := #[] }, { accessFlags := 25, nameIndex := 292, descriptorIndex := 25, attributes := #[] }, { accessFlags := 26, nameIndex := 108, descriptorIndex := 109, attributes := #[] }, { accessFlags := 25, nameIndex := 294, descriptorIndex := 25, attributes := #[] }])
  fields := #[{ name := "U", type := (.object "jdk/internal/misc/Unsafe"), accessFlags := 24, slot := 0, constantValue := 0 }, { name := "BIG_ENDIAN", type := .boolean, accessFlags := 26, slot := 1, constantValue := 0 }, { name := "LOG2_ARRAY_BOOLEAN_INDEX_SCALE", type := .int, accessFlags := 25, slot := 2, constantValue := 0 }, { name := "LOG2_ARRAY_BYTE_INDEX_SCALE", type := .int, accessFlags := 25, slot := 3, constantValue := 0 }, { name := "LOG2_ARRAY_CHAR_INDEX_SCALE", type := .int, accessFlags := 25, slot := 4, constantValue := 0 }, { name := "LOG2_ARRAY_SHORT_INDEX_SCALE", type := .int, accessFlags := 25, slot := 5, constantValue := 0 }, { name := "LOG2_ARRAY_INT_INDEX_SCALE", type := .int, accessFlags := 25, slot := 6, constantValue := 0 }, { name := "LOG2_ARRAY_LONG_INDEX_SCALE", type := .int, accessFlags := 25, slot := 7, constantValue := 0 }, { name := "LOG2_ARRAY_FLOAT_INDEX_SCALE", type := .int, accessFlags := 25, slot := 8, constantValue := 0 }, { name := "LOG2_ARRAY_DOUBLE_INDEX_SCALE", type := .int, accessFlags := 25, slot := 9, constantValue := 0 }, { name := "LOG2_BYTE_BIT_SIZE", type := .int, accessFlags := 26, slot := 10, constantValue := 0 }, { name := "T_BOOLEAN", type := .int, accessFlags := 25, slot := 11, constantValue := 0 }, { name := "T_CHAR", type := .int, accessFlags := 25, slot := 12, constantValue := 0 }, { name := "T_FLOAT", type := .int, accessFlags := 25, slot := 13, constantValue := 0 }, { name := "T_DOUBLE", type := .int, accessFlags := 25, slot := 14, constantValue := 0 }, { name := "T_BYTE", type := .int, accessFlags := 25, slot := 15, constantValue := 0 }, { name := "T_SHORT", type := .int, accessFlags := 25, slot := 16, constantValue := 0 }, { name := "T_INT", type := .int, accessFlags := 25, slot := 17, constantValue := 0 }, { name := "T_LONG", type := .int, accessFlags := 25, slot := 18, constantValue := 0 }, { name := "JLA", type := (.object "jdk/internal/access/JavaLangAccess"), accessFlags := 26, slot := 19, constantValue := 0 }, { name := "SOFT_MAX_ARRAY_LENGTH", type := .int, accessFlags := 25, slot := 20, constantValue := 0 }]
  methods := #[k13m0]
  instanceTypes := #[]
  staticTypes := #[(.object "jdk/internal/misc/Unsafe"), .boolean, .int, .int, .int, .int, .int, .int, .int, .int, .int, .int, .int, .int, .int, .int, .int, .int, .int, (.object "jdk/internal/access/JavaLangAccess"), .int]
  resolved := Array.replicate 378 none
  statics := none }

def pool14 : Array CpInfo := pool [(1, u "java/lang/Cloneable"), (0, .class_ 1), (0, u "java/lang/Object"), (0, .class_ 3)] 3

/-- java/lang/Cloneable -/
def k14 : Class := { plain "java/lang/Cloneable" (some 0) with
  accessFlags := 1537
  interfaces := #[]
  cf := some (fileOf pool14 2 #[] #[] 1537 4 #[] #[])
  fields := #[]
  methods := #[]
  instanceTypes := #[]
  staticTypes := #[]
  resolved := Array.replicate 8 none
  statics := none }

/-- the primitive byte -/
def k15 : Class := { plain "byte" none with kind := .primitive 'B', accessFlags := 0x411 }
/-- [B -/
def k16 : Class := { plain "[B" (some 0) with kind := .array 15 .byte, interfaces := #[14, 2], accessFlags := 1041 }

/-- the primitive char -/
def k17 : Class := { plain "char" none with kind := .primitive 'C', accessFlags := 0x411 }
/-- [C -/
def k18 : Class := { plain "[C" (some 0) with kind := .array 17 .char, interfaces := #[14, 2], accessFlags := 1041 }

/-- the primitive int -/
def k19 : Class := { plain "int" none with kind := .primitive 'I', accessFlags := 0x411 }
/-- [I -/
def k20 : Class := { plain "[I" (some 0) with kind := .array 19 .int, interfaces := #[14, 2], accessFlags := 1041 }

def heap : Heap := #[{ cls := 7, slots := #[.long 0, .int 1, .null, .int 0, .null, .int 0, .int 0], vm := .statics 7 },
  { cls := 12, slots := #[.null, .null, .null], vm := .statics 12 }]
def classes : Array Class := #[k0, k1, k2, k3, k4, k5, k6, k7, k8, k9, k10, k11, k12, k13, k14, k15, k16, k17, k18, k19, k20]
def interned : List (Array UInt16 × Addr) := []
def slotsUsed : Nat := 10
def theMethod : MethodId := ⟨1, 2⟩
def args0 : Array Value := #[.int 5, .int 7, .int 1, .int 2]
def aboutOver (below : List Frame) : State where
  vm := { classes := classes, interned := interned.toArray }
  heap := heap
  slotsUsed := slotsUsed
  threads := #[{ frames := .invoking theMethod args0 :: below }]
def below0 : List Frame := [.native { method := ⟨0, 0⟩, args := #[] }]
def about1 : State := aboutOver below0
def p0 : Program := .bare "" "" ""
def e0 : Env := launch0.env 0 0 0
theorem w_frames : about1.frames = Frame.invoking theMethod args0 :: below0 := rfl
set_option maxRecDepth 65536 in
theorem w_args : argsFit about1.vm theMethod args0 = true := by decide +kernel
set_option maxRecDepth 65536 in
theorem w_heap : heapFits about1 = true := by decide +kernel
set_option maxRecDepth 65536 in
theorem w_runnable : about1.curStatus? = some .runnable := by decide +kernel
set_option maxRecDepth 65536 in
theorem w_alone : about1.alone = true := by decide +kernel
set_option maxRecDepth 65536 in
theorem w_named : about1.methodNamed? x = some theMethod := by decide +kernel
set_option maxRecDepth 65536 in
theorem w_hears : about1.hears theMethod below0 = true := by decide +kernel
set_option maxRecDepth 65536 in
theorem w_ripe : about1.ripe theMethod args0 below0 = true := by decide +kernel
theorem w_running : about1.status = .running := rfl
set_option maxRecDepth 65536 in
theorem w_room : about1.hasRoom e0.platform room_1 = true :=
  launch0.hasRoom_least _ room_1 (by decide +kernel) (by decide +kernel) (by decide +kernel) (by decide +kernel) (by decide +kernel) (by decide +kernel)
theorem allAtoms_all (ts : List Jvm.Cond) (a : Array Jvm.Value) (st : Jvm.State) : (allAtoms ts).before a st = ts.all (fun c => c.before a st) := by
  induction ts with
  | nil => rfl
  | cons c t ih =>
    show (Jvm.Cond.and c (allAtoms t)).before a st = _
    rw [Jvm.Cond.before_and, ih, List.all_cons]
def words1 : List Jvm.Cond := Jvm.Cond.code x code maxLocals ret :: tables_1
/-- a 'code' word, met by the world's own term for the bytes: nothing is compared byte by byte -/
theorem code_word {y : MethodName} {bytes : ByteArray} {mx : Nat} {rt : Option FieldType} {a : Array Value} {s : State} {m : MethodId} {meth : Method} {c : Code} (h1 : s.methodNamed? y = some m) (h2 : s.vm.method? m = some meth) (h3 : meth.code = some c) (h4 : c.code = bytes)
    (h5 : (c.maxLocals == mx && c.exceptionTable.isEmpty && decide (c.maxStack ≤ mostOperands) && decide (meth.sig.returnType = rt) && !meth.locks && decide (parseMethodDescriptor y.desc = some meth.sig)) = true) : (Jvm.Cond.code y bytes mx rt).before a s = true := by
  simp only [Bool.and_eq_true, beq_iff_eq, Bool.not_eq_true', decide_eq_true_eq] at h5
  obtain ⟨⟨⟨⟨⟨g1, g2⟩, g3⟩, g4⟩, g5⟩, g6⟩ := h5
  simp [Cond.before, Cond.holds, Cond.value, h1, h2, h3, h4, g1, g2, g3, g4, g5, g6]
def isCode : Jvm.Cond → Bool
  | .code _ _ _ _ => true
  | _ => false
theorem all_split {L : List Jvm.Cond} {P : Jvm.Cond → Bool} (h1 : L.all (fun c => isCode c || P c) = true) (h2 : ∀ c ∈ L.filter isCode, P c = true) : L.all P = true := by
  refine List.all_eq_true.mpr fun c hc => ?_
  have h := List.all_eq_true.mp h1 c hc
  rcases Bool.eq_false_or_eq_true (isCode c) with hi | hi
  · exact h2 c (List.mem_filter.mpr ⟨hc, hi⟩)
  · simpa [hi] using h
set_option maxRecDepth 65536 in
theorem w_c0 : (Jvm.Cond.code x code maxLocals ret).before args0 about1 = true := code_word (m := ⟨1, 2⟩) (meth := k1m2) (c := k1c2) (by decide +kernel) rfl rfl rfl (by decide +kernel)
set_option maxRecDepth 65536 in
theorem w_c1 : (Jvm.Cond.code ({ cls := "com/example/quoteloom/quoteloom/CurrencyPairHasPinLaw", name := "ch", desc := "(II)C" } : Jvm.MethodName) method_2_code (2 : Nat) (Option.some Jvm.ClassFile.FieldType.char)).before args0 about1 = true := code_word (m := ⟨1, 1⟩) (meth := k1m1) (c := k1c1) (by decide +kernel) rfl rfl rfl (by decide +kernel)
set_option maxRecDepth 65536 in
theorem w_c2 : (Jvm.Cond.code ({ cls := "java/lang/String", name := "<init>", desc := "([C)V" } : Jvm.MethodName) jdk_42_method_3_code (2 : Nat) (Option.none : Option Jvm.ClassFile.FieldType)).before args0 about1 = true := code_word (m := ⟨7, 1⟩) (meth := k7m1) (c := k7c1) (by decide +kernel) rfl rfl rfl (by decide +kernel)
set_option maxRecDepth 65536 in
theorem w_c3 : (Jvm.Cond.code ({ cls := "java/lang/String", name := "<init>", desc := "([CIILjava/lang/Void;)V" } : Jvm.MethodName) jdk_42_method_149_code (6 : Nat) (Option.none : Option Jvm.ClassFile.FieldType)).before args0 about1 = true := code_word (m := ⟨7, 3⟩) (meth := k7m3) (c := k7c3) (by decide +kernel) rfl rfl rfl (by decide +kernel)
set_option maxRecDepth 65536 in
theorem w_c4 : (Jvm.Cond.code ({ cls := "java/lang/Object", name := "<init>", desc := "()V" } : Jvm.MethodName) object_method_1_code (1 : Nat) (Option.none : Option Jvm.ClassFile.FieldType)).before args0 about1 = true := code_word (m := ⟨0, 0⟩) (meth := k0m0) (c := k0c0) (by decide +kernel) rfl rfl rfl (by decide +kernel)
set_option maxRecDepth 65536 in
theorem w_c5 : (Jvm.Cond.code ({ cls := "java/lang/StringUTF16", name := "compress", desc := "([CII)[B" } : Jvm.MethodName) jdk_52_method_16_code (6 : Nat) (Option.some (Jvm.ClassFile.FieldType.array Jvm.ClassFile.FieldType.byte))).before args0 about1 = true := code_word (m := ⟨8, 2⟩) (meth := k8m2) (c := k8c2) (by decide +kernel) rfl rfl rfl (by decide +kernel)
set_option maxRecDepth 65536 in
theorem w_c6 : (Jvm.Cond.code ({ cls := "java/lang/StringUTF16", name := "compress", desc := "([CI[BII)I" } : Jvm.MethodName) jdk_52_method_21_code (7 : Nat) (Option.some Jvm.ClassFile.FieldType.int)).before args0 about1 = true := code_word (m := ⟨8, 3⟩) (meth := k8m3) (c := k8c3) (by decide +kernel) rfl rfl rfl (by decide +kernel)
set_option maxRecDepth 65536 in
theorem w_c7 : (Jvm.Cond.code ({ cls := "java/lang/StringUTF16", name := "coderFromArrayLen", desc := "([BI)B" } : Jvm.MethodName) jdk_52_method_15_code (2 : Nat) (Option.some Jvm.ClassFile.FieldType.byte)).before args0 about1 = true := code_word (m := ⟨8, 1⟩) (meth := k8m1) (c := k8c1) (by decide +kernel) rfl rfl rfl (by decide +kernel)
set_option maxRecDepth 65536 in
theorem w_c8 : (Jvm.Cond.code ({ cls := "com/example/quoteloom/quoteloom/CurrencyPair", name := "<init>", desc := "(Ljava/lang/String;Ljava/lang/String;)V" } : Jvm.MethodName) prog_14_method_1_code (3 : Nat) (Option.none : Option Jvm.ClassFile.FieldType)).before args0 about1 = true := code_word (m := ⟨10, 0⟩) (meth := k10m0) (c := k10c0) (by decide +kernel) rfl rfl rfl (by decide +kernel)
set_option maxRecDepth 65536 in
theorem w_c9 : (Jvm.Cond.code ({ cls := "java/lang/Record", name := "<init>", desc := "()V" } : Jvm.MethodName) jdk_30_method_1_code (1 : Nat) (Option.none : Option Jvm.ClassFile.FieldType)).before args0 about1 = true := code_word (m := ⟨9, 0⟩) (meth := k9m0) (c := k9c0) (by decide +kernel) rfl rfl rfl (by decide +kernel)
set_option maxRecDepth 65536 in
theorem w_c10 : (Jvm.Cond.code ({ cls := "com/example/quoteloom/quoteloom/CurrencyPair", name := "has", desc := "(Ljava/lang/String;)Z" } : Jvm.MethodName) prog_14_method_9_code (2 : Nat) (Option.some Jvm.ClassFile.FieldType.boolean)).before args0 about1 = true := code_word (m := ⟨10, 1⟩) (meth := k10m1) (c := k10c1) (by decide +kernel) rfl rfl rfl (by decide +kernel)
set_option maxRecDepth 65536 in
theorem w_c11 : (Jvm.Cond.code ({ cls := "java/lang/String", name := "equals", desc := "(Ljava/lang/Object;)Z" } : Jvm.MethodName) jdk_42_method_66_code (3 : Nat) (Option.some Jvm.ClassFile.FieldType.boolean)).before args0 about1 = true := code_word (m := ⟨7, 2⟩) (meth := k7m2) (c := k7c2) (by decide +kernel) rfl rfl rfl (by decide +kernel)
set_option maxRecDepth 65536 in
theorem w_c12 : (Jvm.Cond.code ({ cls := "java/lang/StringLatin1", name := "equals", desc := "([B[B)Z" } : Jvm.MethodName) jdk_43_method_13_code (3 : Nat) (Option.some Jvm.ClassFile.FieldType.boolean)).before args0 about1 = true := code_word (m := ⟨11, 1⟩) (meth := k11m1) (c := k11c1) (by decide +kernel) rfl rfl rfl (by decide +kernel)
def codes1 : List Jvm.Cond := [Jvm.Cond.code x code maxLocals ret, Jvm.Cond.code ({ cls := "com/example/quoteloom/quoteloom/CurrencyPairHasPinLaw", name := "ch", desc := "(II)C" } : Jvm.MethodName) method_2_code (2 : Nat) (Option.some Jvm.ClassFile.FieldType.char), Jvm.Cond.code ({ cls := "java/lang/String", name := "<init>", desc := "([C)V" } : Jvm.MethodName) jdk_42_method_3_code (2 : Nat) (Option.none : Option Jvm.ClassFile.FieldType), Jvm.Cond.code ({ cls := "java/lang/String", name := "<init>", desc := "([CIILjava/lang/Void;)V" } : Jvm.MethodName) jdk_42_method_149_code (6 : Nat) (Option.none : Option Jvm.ClassFile.FieldType), Jvm.Cond.code ({ cls := "java/lang/Object", name := "<init>", desc := "()V" } : Jvm.MethodName) object_method_1_code (1 : Nat) (Option.none : Option Jvm.ClassFile.FieldType), Jvm.Cond.code ({ cls := "java/lang/StringUTF16", name := "compress", desc := "([CII)[B" } : Jvm.MethodName) jdk_52_method_16_code (6 : Nat) (Option.some (Jvm.ClassFile.FieldType.array Jvm.ClassFile.FieldType.byte)), Jvm.Cond.code ({ cls := "java/lang/StringUTF16", name := "compress", desc := "([CI[BII)I" } : Jvm.MethodName) jdk_52_method_21_code (7 : Nat) (Option.some Jvm.ClassFile.FieldType.int), Jvm.Cond.code ({ cls := "java/lang/StringUTF16", name := "coderFromArrayLen", desc := "([BI)B" } : Jvm.MethodName) jdk_52_method_15_code (2 : Nat) (Option.some Jvm.ClassFile.FieldType.byte), Jvm.Cond.code ({ cls := "com/example/quoteloom/quoteloom/CurrencyPair", name := "<init>", desc := "(Ljava/lang/String;Ljava/lang/String;)V" } : Jvm.MethodName) prog_14_method_1_code (3 : Nat) (Option.none : Option Jvm.ClassFile.FieldType), Jvm.Cond.code ({ cls := "java/lang/Record", name := "<init>", desc := "()V" } : Jvm.MethodName) jdk_30_method_1_code (1 : Nat) (Option.none : Option Jvm.ClassFile.FieldType), Jvm.Cond.code ({ cls := "com/example/quoteloom/quoteloom/CurrencyPair", name := "has", desc := "(Ljava/lang/String;)Z" } : Jvm.MethodName) prog_14_method_9_code (2 : Nat) (Option.some Jvm.ClassFile.FieldType.boolean), Jvm.Cond.code ({ cls := "java/lang/String", name := "equals", desc := "(Ljava/lang/Object;)Z" } : Jvm.MethodName) jdk_42_method_66_code (3 : Nat) (Option.some Jvm.ClassFile.FieldType.boolean), Jvm.Cond.code ({ cls := "java/lang/StringLatin1", name := "equals", desc := "([B[B)Z" } : Jvm.MethodName) jdk_43_method_13_code (3 : Nat) (Option.some Jvm.ClassFile.FieldType.boolean)]
set_option maxRecDepth 65536 in
theorem codes_eq : words1.filter isCode = codes1 := rfl
theorem w_codes : ∀ c ∈ words1.filter isCode, c.before args0 about1 = true := by
  rw [codes_eq]
  intro c hc
  simp only [codes1, List.mem_cons, List.not_mem_nil, or_false] at hc
  rcases hc with rfl | rfl | rfl | rfl | rfl | rfl | rfl | rfl | rfl | rfl | rfl | rfl | rfl
  · exact w_c0
  · exact w_c1
  · exact w_c2
  · exact w_c3
  · exact w_c4
  · exact w_c5
  · exact w_c6
  · exact w_c7
  · exact w_c8
  · exact w_c9
  · exact w_c10
  · exact w_c11
  · exact w_c12
set_option maxRecDepth 65536 in
theorem w_t1 : (words1.take 24).all (fun c => isCode c || c.before args0 about1) = true := by decide +kernel
set_option maxRecDepth 65536 in
theorem w_t2 : ((words1.drop 24).take 24).all (fun c => isCode c || c.before args0 about1) = true := by decide +kernel
set_option maxRecDepth 65536 in
theorem w_t3 : ((words1.drop 24).drop 24).all (fun c => isCode c || c.before args0 about1) = true := by decide +kernel
theorem w_tables : (allAtoms (Jvm.Cond.code x code maxLocals ret :: tables_1)).before args0 about1 = true := by
  rw [allAtoms_all]
  show words1.all (fun c => c.before args0 about1) = true
  refine all_split ?_ w_codes
  rw [← List.take_append_drop 24 words1, List.all_append, w_t1, ← List.take_append_drop 24 (words1.drop 24), List.all_append, w_t2, w_t3]
  rfl
set_option maxRecDepth 65536 in
theorem w_rest : rest_1_c.before args0 about1 = true := by decide +kernel
set_option maxRecDepth 65536 in
theorem w_case : (Jvm.Cond.and given_1 narrow_1).before args0 about1 = true := by decide +kernel
theorem w_applies : (headSpec (Jvm.Cond.code x code maxLocals ret :: tables_1) room_1).applies x e0.platform about1 = true :=
  (Spec.applies_iff w_frames).mpr ⟨w_running, w_runnable, w_alone, w_named, w_hears, w_ripe, w_room, w_tables⟩
theorem atStart : AtStart classFile x code maxLocals ret World_1 tables_1 room_1 Calls_1 rest_1 Pre_1 launch0 p0 e0 about1 theMethod args0 below0 :=
  ⟨lists_1, trivial, launch0.admits_env _ _ _, launch0.least_env, fairChoices_fair.cas, fairChoices_fair.clock, w_frames, w_args, w_heap, w_applies, trivial, w_rest, w_case⟩
end start1
theorem witness_1 : WitnessClaimed_1 := ⟨start1.p0, start1.e0, start1.about1, start1.theMethod, start1.args0, start1.below0, start1.atStart⟩
end Jvm.Pilot.@@N@@
