import JvmDerived
import JvmDerived.Pilot.@@N@@Statement
import JvmDerived.Pilot.@@N@@Code
set_option linter.unusedVariables false
set_option linter.unusedSimpArgs false
namespace Jvm.RoadKit
open Sem ClassFile Op Lib Jvm.Stand Jvm.Free Jvm.LawKit
section Own
variable {p : Program} {l : Launch} {e : Env} {R : Room} {s : State} {m : MethodId} {args : Array Value} {below : List Frame} {meth : Method} {c : Code} {T : State} {locs : List Loc} {cells slots : Nat} {Z : State} {a0 : Array Value} {h : Heap}
/-- from T with the frame g on top the run comes back with what Q says -/
def Go (p : Program) (e : Env) (below : List Frame) (Fin' : Outcome → State → Prop) (T : State) (g : JFrame) : Prop :=
  ∃ s₂ o, Steps p.tables e below (T.setTop g) s₂ ∧ s₂.status = .running ∧ Ended s₂ below o ∧ Fin' o s₂
/-- how a body ends -/
def Fn (s : State) (RC RS : Nat) (Q : Option Value → Heap → List Loc → Prop) (o : Outcome) (t : State) : Prop := ∃ v L, o = .returned v ∧ Q v t.heap L ∧ FrameEnd s o t L RC RS
/-- what stands fast through a body's walk -/
def Cx (p : Program) (s : State) (m : MethodId) (meth : Method) (c : Code) (Z : State) (own nm : String) (bytes : ByteArray) (maxL : Nat) (ret : Option FieldType) : Prop :=
  p.tables.exec = Jvm.exec ∧ Z.Warmed39 s.vm ∧ s.vm.findClass own = some m.cls ∧ c.code = bytes ∧ c.maxLocals = maxL ∧ meth.sig.returnType = ret ∧ meth.name = nm ∧ meth.locks = false
variable {RC RS : Nat} {Q : Option Value → Heap → List Loc → Prop} {Fin' : Outcome → State → Prop} {own nm : String} {bytes : ByteArray} {maxL : Nat} {ret : Option FieldType} {pc pc' : Nat} {Ls Ls' : Array Slot} {S : List Value}
theorem Go.via {T' : State} {g g' : JFrame} (G : Go p e below Fin' T' g') (k : ∀ t, Steps p.tables e below (T'.setTop g') t → Steps p.tables e below (T.setTop g) t) : Go p e below Fin' T g := by
  obtain ⟨s₂, o, st, r⟩ := G; exact ⟨s₂, o, k _ st, r⟩
theorem Go.cast {g g' : JFrame} (q : g = g') (G : Go p e below Fin' T g') : Go p e below Fin' T g := q ▸ G
/-- a body's contract -/
def Met1 (l : Launch) (Z : State) (y : MethodName) (bytes : ByteArray) (maxL : Nat) (ret : Option FieldType) (rm : Room) (as' : Array Value) (h0 : Heap) (Q : Option Value → Heap → List Loc → Prop) : Prop :=
  ∀ ws : List Jvm.Cond, MetFree l y (head1 (Jvm.Cond.code y bytes maxL ret :: ws) rm) (fun a U => a = as' ∧ Z.Warmed39 U.vm ∧ U.heap = h0) (fun _ _ _ _ _ => True) (fun _ U o U' => ∃ v L, o = .returned v ∧ Q v U'.heap L ∧ FrameEnd U o U' L rm.cells rm.slots)
theorem Met1.of_body {y : MethodName} {rm : Room} {as' : Array Value} {h0 : Heap} (hp : plainFor y = true) (ef : ∀ m, entryFrame m as' maxL = mkF m 0 Ls [])
    (body : ∀ {p : Program} {e : Env} {s : State} {m : MethodId} {below : List Frame} {meth : Method} {c : Code} {T : State}, Cx p s m meth c Z y.cls y.name bytes maxL ret → Stand p l e rm s m as' below meth c T [] 0 0 → T.heap = h0 → Go p e below (Fn s rm.cells rm.slots Q) T (mkF m 0 Ls [])) :
    Met1 l Z y bytes maxL ret rm as' h0 Q := by
  intro ws
  refine MetFree.of_bodySF hp hisR ?_
  intro p e s m args below meth c s₁ Bd hml0 hP hK
  obtain ⟨rfl, hZ, hh⟩ := hP
  have X0 : Stand p l e rm s m args below meth c s₁ [] 0 0 := Stand.of_body Bd
  have hlk : meth.locks = false := BodyLoose.notSynchronized Bd
  obtain ⟨s₂, o, st, r1, r2, r3⟩ := body (p := p) (e := e) (s := s) (m := m) (below := below) (meth := meth) (c := c) (T := s₁) ⟨Bd.exec, hZ, findClass_of_methodNamed Bd.named, Bd.bytes, hml0, Bd.returns, (name_of_methodNamed Bd.named Bd.method).1, hlk⟩ X0 (by rw [← hh, Bd.state]; rfl)
  exact ⟨s₂, o, castTop (ef m) st, r1, r2, r3⟩
/-- a contract may say less -/
theorem Met1.weak {y : MethodName} {rm : Room} {as' : Array Value} {h0 : Heap} {Q' : Option Value → Heap → List Loc → Prop} (M : Met1 l Z y bytes maxL ret rm as' h0 Q) (q : ∀ v h L, Q v h L → Q' v h L) : Met1 l Z y bytes maxL ret rm as' h0 Q' := by
  intro ws p e ha hc hk s m args below hf happ hP hK
  obtain ⟨n, o, h1, h2, h3, v, L, h4, h5, h6⟩ := M ws p e ha hc hk s m args below hf happ hP hK
  exact ⟨n, o, h1, h2, h3, v, L, h4, q _ _ _ h5, h6⟩

/-! plain steps -/
theorem Go.aloadN (C : Cx p s m meth c Z own nm bytes maxL ret) (X : Stand p l e R s m args below meth c T locs cells slots) {k : Fin 4} {v : Value} (hd : decode bytes pc = .ok (.aload_n k, 1)) (hl : Ls[k.val]? = some (.val v)) (hv : v.isRef = true) (hp : pc + 1 = pc') (G : Go p e below Fin' T (mkF m pc' Ls (v :: S))) : Go p e below Fin' T (mkF m pc Ls S) := by
  subst hp; exact G.via fun _ k => XS.aloadN X.here C.1 rfl (hb C.2.2.2.1 hd) hl hv k
theorem Go.aload (C : Cx p s m meth c Z own nm bytes maxL ret) (X : Stand p l e R s m args below meth c T locs cells slots) {k : Nat} {v : Value} (hd : decode bytes pc = .ok (.aload k, 2)) (hl : Ls[k]? = some (.val v)) (hv : v.isRef = true) (hp : pc + 2 = pc') (G : Go p e below Fin' T (mkF m pc' Ls (v :: S))) : Go p e below Fin' T (mkF m pc Ls S) := by
  subst hp; exact G.via fun _ k => XS.aload X.here C.1 rfl (hb C.2.2.2.1 hd) hl hv k
theorem Go.iloadN (C : Cx p s m meth c Z own nm bytes maxL ret) (X : Stand p l e R s m args below meth c T locs cells slots) {k : Fin 4} {v : Int32} (hd : decode bytes pc = .ok (.iload_n k, 1)) (hl : Ls[k.val]? = some (.val (.int v))) (hp : pc + 1 = pc') (G : Go p e below Fin' T (mkF m pc' Ls (.int v :: S))) : Go p e below Fin' T (mkF m pc Ls S) := by
  subst hp; exact G.via fun _ k => XS.iloadN X.here C.1 rfl (hb C.2.2.2.1 hd) hl k
theorem Go.iload (C : Cx p s m meth c Z own nm bytes maxL ret) (X : Stand p l e R s m args below meth c T locs cells slots) {k : Nat} {v : Int32} (hd : decode bytes pc = .ok (.iload k, 2)) (hl : Ls[k]? = some (.val (.int v))) (hp : pc + 2 = pc') (G : Go p e below Fin' T (mkF m pc' Ls (.int v :: S))) : Go p e below Fin' T (mkF m pc Ls S) := by
  subst hp; exact G.via fun _ k => XS.iload X.here C.1 rfl (hb C.2.2.2.1 hd) hl k
theorem Go.istoreN (C : Cx p s m meth c Z own nm bytes maxL ret) (X : Stand p l e R s m args below meth c T locs cells slots) {k : Fin 4} {v : Int32} (hd : decode bytes pc = .ok (.istore_n k, 1)) (hl : storeLocals Ls k.val (.int v) = some Ls') (hp : pc + 1 = pc') (G : Go p e below Fin' T (mkF m pc' Ls' S)) : Go p e below Fin' T (mkF m pc Ls (.int v :: S)) := by
  subst hp; exact G.via fun _ k => XS.istoreN X.here C.1 rfl (hb C.2.2.2.1 hd) rfl hl k
theorem Go.istore (C : Cx p s m meth c Z own nm bytes maxL ret) (X : Stand p l e R s m args below meth c T locs cells slots) {k : Nat} {v : Int32} (hd : decode bytes pc = .ok (.istore k, 2)) (hl : storeLocals Ls k (.int v) = some Ls') (hp : pc + 2 = pc') (G : Go p e below Fin' T (mkF m pc' Ls' S)) : Go p e below Fin' T (mkF m pc Ls (.int v :: S)) := by
  subst hp; exact G.via fun _ k => XS.istore X.here C.1 rfl (hb C.2.2.2.1 hd) rfl hl k
theorem Go.lloadN (C : Cx p s m meth c Z own nm bytes maxL ret) (X : Stand p l e R s m args below meth c T locs cells slots) {k : Fin 4} {v : Int64} (hd : decode bytes pc = .ok (.lload_n k, 1)) (hl : Ls[k.val]? = some (.val (.long v))) (hp : pc + 1 = pc') (G : Go p e below Fin' T (mkF m pc' Ls (.long v :: S))) : Go p e below Fin' T (mkF m pc Ls S) := by
  subst hp; exact G.via fun _ k => XS.lloadN X.here C.1 rfl (hb C.2.2.2.1 hd) hl k
theorem Go.lload (C : Cx p s m meth c Z own nm bytes maxL ret) (X : Stand p l e R s m args below meth c T locs cells slots) {k : Nat} {v : Int64} (hd : decode bytes pc = .ok (.lload k, 2)) (hl : Ls[k]? = some (.val (.long v))) (hp : pc + 2 = pc') (G : Go p e below Fin' T (mkF m pc' Ls (.long v :: S))) : Go p e below Fin' T (mkF m pc Ls S) := by
  subst hp; exact G.via fun _ k => XS.lload X.here C.1 rfl (hb C.2.2.2.1 hd) hl k
theorem Go.lstoreN (C : Cx p s m meth c Z own nm bytes maxL ret) (X : Stand p l e R s m args below meth c T locs cells slots) {k : Fin 4} {v : Int64} (hd : decode bytes pc = .ok (.lstore_n k, 1)) (hl : storeLocals Ls k.val (.long v) = some Ls') (hp : pc + 1 = pc') (G : Go p e below Fin' T (mkF m pc' Ls' S)) : Go p e below Fin' T (mkF m pc Ls (.long v :: S)) := by
  subst hp; exact G.via fun _ k => XS.lstoreN X.here C.1 rfl (hb C.2.2.2.1 hd) rfl hl k
theorem Go.lstore (C : Cx p s m meth c Z own nm bytes maxL ret) (X : Stand p l e R s m args below meth c T locs cells slots) {k : Nat} {v : Int64} (hd : decode bytes pc = .ok (.lstore k, 2)) (hl : storeLocals Ls k (.long v) = some Ls') (hp : pc + 2 = pc') (G : Go p e below Fin' T (mkF m pc' Ls' S)) : Go p e below Fin' T (mkF m pc Ls (.long v :: S)) := by
  subst hp; exact G.via fun _ k => XS.lstore X.here C.1 rfl (hb C.2.2.2.1 hd) rfl hl k
theorem Go.astoreN (C : Cx p s m meth c Z own nm bytes maxL ret) (X : Stand p l e R s m args below meth c T locs cells slots) {k : Fin 4} {v : Value} (hd : decode bytes pc = .ok (.astore_n k, 1)) (hv : v.isRef = true) (hl : storeLocals Ls k.val v = some Ls') (hp : pc + 1 = pc') (G : Go p e below Fin' T (mkF m pc' Ls' S)) : Go p e below Fin' T (mkF m pc Ls (v :: S)) := by
  subst hp; exact G.via fun _ k => XS.astoreN X.here C.1 rfl (hb C.2.2.2.1 hd) rfl hv hl k
theorem Go.astore (C : Cx p s m meth c Z own nm bytes maxL ret) (X : Stand p l e R s m args below meth c T locs cells slots) {k : Nat} {v : Value} (hd : decode bytes pc = .ok (.astore k, 2)) (hv : v.isRef = true) (hl : storeLocals Ls k v = some Ls') (hp : pc + 2 = pc') (G : Go p e below Fin' T (mkF m pc' Ls' S)) : Go p e below Fin' T (mkF m pc Ls (v :: S)) := by
  subst hp; exact G.via fun _ k => XS.astore X.here C.1 rfl (hb C.2.2.2.1 hd) rfl hv hl k
theorem Go.iconst (C : Cx p s m meth c Z own nm bytes maxL ret) (X : Stand p l e R s m args below meth c T locs cells slots) {i : Int} {z : Int32} (hd : decode bytes pc = .ok (.iconst i, 1)) (hz : Int32.ofInt i = z) (hp : pc + 1 = pc') (G : Go p e below Fin' T (mkF m pc' Ls (.int z :: S))) : Go p e below Fin' T (mkF m pc Ls S) := by
  subst hp; exact G.via fun _ k => XT.iconstV X.here C.1 rfl z (hb C.2.2.2.1 hd) hz k
theorem Go.bipush (C : Cx p s m meth c Z own nm bytes maxL ret) (X : Stand p l e R s m args below meth c T locs cells slots) {i : Int} {z : Int32} (hd : decode bytes pc = .ok (.bipush i, 2)) (hz : (Int8.ofInt i).toInt32 = z) (hp : pc + 2 = pc') (G : Go p e below Fin' T (mkF m pc' Ls (.int z :: S))) : Go p e below Fin' T (mkF m pc Ls S) := by
  subst hp; exact G.via fun _ k => XT.bipushV X.here C.1 rfl z (hb C.2.2.2.1 hd) hz k
theorem Go.sipush (C : Cx p s m meth c Z own nm bytes maxL ret) (X : Stand p l e R s m args below meth c T locs cells slots) {i : Int} {z : Int32} (hd : decode bytes pc = .ok (.sipush i, 3)) (hz : (Int16.ofInt i).toInt32 = z) (hp : pc + 3 = pc') (G : Go p e below Fin' T (mkF m pc' Ls (.int z :: S))) : Go p e below Fin' T (mkF m pc Ls S) := by
  subst hp; exact G.via fun _ k => XT.sipushV X.here C.1 rfl z (hb C.2.2.2.1 hd) hz k
theorem Go.lconst (C : Cx p s m meth c Z own nm bytes maxL ret) (X : Stand p l e R s m args below meth c T locs cells slots) {i : Fin 2} {z : Int64} (hd : decode bytes pc = .ok (.lconst i, 1)) (hz : Int64.ofNat i = z) (hp : pc + 1 = pc') (G : Go p e below Fin' T (mkF m pc' Ls (.long z :: S))) : Go p e below Fin' T (mkF m pc Ls S) := by
  subst hp; exact G.via fun _ k => XT.lconstV X.here C.1 rfl z (hb C.2.2.2.1 hd) hz k
theorem Go.aconstNull (C : Cx p s m meth c Z own nm bytes maxL ret) (X : Stand p l e R s m args below meth c T locs cells slots)  (hd : decode bytes pc = .ok (.aconst_null, 1))  (hp : pc + 1 = pc') (G : Go p e below Fin' T (mkF m pc' Ls (.null :: S))) : Go p e below Fin' T (mkF m pc Ls S) := by
  subst hp; exact G.via fun _ k => XS.aconstNull X.here C.1 rfl (hb C.2.2.2.1 hd) k
theorem Go.ldcI (C : Cx p s m meth c Z own nm bytes maxL ret) (X : Stand p l e R s m args below meth c T locs cells slots) {i : Nat} {z : Int32} (hd : decode bytes pc = .ok (.ldc i, 2)) (w : (Cond.constant own i z).before a0 Z = true) (hp : pc + 2 = pc') (G : Go p e below Fin' T (mkF m pc' Ls (.int z :: S))) : Go p e below Fin' T (mkF m pc Ls S) := by
  subst hp; exact G.via fun _ k => X.ldcI C.1 C.2.2.1 (mvT C.2.1 w) rfl (hb C.2.2.2.1 hd) k
theorem Go.ldcWI (C : Cx p s m meth c Z own nm bytes maxL ret) (X : Stand p l e R s m args below meth c T locs cells slots) {i : Nat} {z : Int32} (hd : decode bytes pc = .ok (.ldc_w i, 3)) (w : (Cond.constant own i z).before a0 Z = true) (hp : pc + 3 = pc') (G : Go p e below Fin' T (mkF m pc' Ls (.int z :: S))) : Go p e below Fin' T (mkF m pc Ls S) := by
  subst hp; exact G.via (X.ldcwInt C.1 C.2.2.1 (mvT C.2.1 w) (g := mkF m pc Ls S) rfl (hb C.2.2.2.1 hd))
theorem Go.ldc2J (C : Cx p s m meth c Z own nm bytes maxL ret) (X : Stand p l e R s m args below meth c T locs cells slots) {i : Nat} {z : Int64} (hd : decode bytes pc = .ok (.ldc2_w i, 3)) (w : (Cond.constantLong own i z).before a0 Z = true) (hp : pc + 3 = pc') (G : Go p e below Fin' T (mkF m pc' Ls (.long z :: S))) : Go p e below Fin' T (mkF m pc Ls S) := by
  subst hp; exact G.via fun _ k => X.ldc2J C.1 C.2.2.1 (mvT C.2.1 w) rfl (hb C.2.2.2.1 hd) k
theorem Go.iadd (C : Cx p s m meth c Z own nm bytes maxL ret) (X : Stand p l e R s m args below meth c T locs cells slots) {x y : Int32} (hd : decode bytes pc = .ok (.iadd, 1))  (hp : pc + 1 = pc') (G : Go p e below Fin' T (mkF m pc' Ls (.int (x + y) :: S))) : Go p e below Fin' T (mkF m pc Ls (.int y :: .int x :: S)) := by
  subst hp; exact G.via fun _ k => XS.iadd X.here C.1 rfl (hb C.2.2.2.1 hd) rfl k
theorem Go.ladd (C : Cx p s m meth c Z own nm bytes maxL ret) (X : Stand p l e R s m args below meth c T locs cells slots) {x y : Int64} (hd : decode bytes pc = .ok (.ladd, 1))  (hp : pc + 1 = pc') (G : Go p e below Fin' T (mkF m pc' Ls (.long (x + y) :: S))) : Go p e below Fin' T (mkF m pc Ls (.long y :: .long x :: S)) := by
  subst hp; exact G.via fun _ k => XS.ladd X.here C.1 rfl (hb C.2.2.2.1 hd) rfl k
theorem Go.isub (C : Cx p s m meth c Z own nm bytes maxL ret) (X : Stand p l e R s m args below meth c T locs cells slots) {x y : Int32} (hd : decode bytes pc = .ok (.isub, 1))  (hp : pc + 1 = pc') (G : Go p e below Fin' T (mkF m pc' Ls (.int (x - y) :: S))) : Go p e below Fin' T (mkF m pc Ls (.int y :: .int x :: S)) := by
  subst hp; exact G.via fun _ k => XS.isub X.here C.1 rfl (hb C.2.2.2.1 hd) rfl k
theorem Go.lsub (C : Cx p s m meth c Z own nm bytes maxL ret) (X : Stand p l e R s m args below meth c T locs cells slots) {x y : Int64} (hd : decode bytes pc = .ok (.lsub, 1))  (hp : pc + 1 = pc') (G : Go p e below Fin' T (mkF m pc' Ls (.long (x - y) :: S))) : Go p e below Fin' T (mkF m pc Ls (.long y :: .long x :: S)) := by
  subst hp; exact G.via fun _ k => XS.lsub X.here C.1 rfl (hb C.2.2.2.1 hd) rfl k
theorem Go.imul (C : Cx p s m meth c Z own nm bytes maxL ret) (X : Stand p l e R s m args below meth c T locs cells slots) {x y : Int32} (hd : decode bytes pc = .ok (.imul, 1))  (hp : pc + 1 = pc') (G : Go p e below Fin' T (mkF m pc' Ls (.int (x * y) :: S))) : Go p e below Fin' T (mkF m pc Ls (.int y :: .int x :: S)) := by
  subst hp; exact G.via fun _ k => XS.imul X.here C.1 rfl (hb C.2.2.2.1 hd) rfl k
theorem Go.lmul (C : Cx p s m meth c Z own nm bytes maxL ret) (X : Stand p l e R s m args below meth c T locs cells slots) {x y : Int64} (hd : decode bytes pc = .ok (.lmul, 1))  (hp : pc + 1 = pc') (G : Go p e below Fin' T (mkF m pc' Ls (.long (x * y) :: S))) : Go p e below Fin' T (mkF m pc Ls (.long y :: .long x :: S)) := by
  subst hp; exact G.via fun _ k => XS.lmul X.here C.1 rfl (hb C.2.2.2.1 hd) rfl k
theorem Go.iand (C : Cx p s m meth c Z own nm bytes maxL ret) (X : Stand p l e R s m args below meth c T locs cells slots) {x y : Int32} (hd : decode bytes pc = .ok (.iand, 1))  (hp : pc + 1 = pc') (G : Go p e below Fin' T (mkF m pc' Ls (.int (x &&& y) :: S))) : Go p e below Fin' T (mkF m pc Ls (.int y :: .int x :: S)) := by
  subst hp; exact G.via fun _ k => XS.iand X.here C.1 rfl (hb C.2.2.2.1 hd) rfl k
theorem Go.land (C : Cx p s m meth c Z own nm bytes maxL ret) (X : Stand p l e R s m args below meth c T locs cells slots) {x y : Int64} (hd : decode bytes pc = .ok (.land, 1))  (hp : pc + 1 = pc') (G : Go p e below Fin' T (mkF m pc' Ls (.long (x &&& y) :: S))) : Go p e below Fin' T (mkF m pc Ls (.long y :: .long x :: S)) := by
  subst hp; exact G.via fun _ k => XS.land X.here C.1 rfl (hb C.2.2.2.1 hd) rfl k
theorem Go.ior (C : Cx p s m meth c Z own nm bytes maxL ret) (X : Stand p l e R s m args below meth c T locs cells slots) {x y : Int32} (hd : decode bytes pc = .ok (.ior, 1))  (hp : pc + 1 = pc') (G : Go p e below Fin' T (mkF m pc' Ls (.int (x ||| y) :: S))) : Go p e below Fin' T (mkF m pc Ls (.int y :: .int x :: S)) := by
  subst hp; exact G.via fun _ k => XS.ior X.here C.1 rfl (hb C.2.2.2.1 hd) rfl k
theorem Go.lor (C : Cx p s m meth c Z own nm bytes maxL ret) (X : Stand p l e R s m args below meth c T locs cells slots) {x y : Int64} (hd : decode bytes pc = .ok (.lor, 1))  (hp : pc + 1 = pc') (G : Go p e below Fin' T (mkF m pc' Ls (.long (x ||| y) :: S))) : Go p e below Fin' T (mkF m pc Ls (.long y :: .long x :: S)) := by
  subst hp; exact G.via fun _ k => XS.lor X.here C.1 rfl (hb C.2.2.2.1 hd) rfl k
theorem Go.ixor (C : Cx p s m meth c Z own nm bytes maxL ret) (X : Stand p l e R s m args below meth c T locs cells slots) {x y : Int32} (hd : decode bytes pc = .ok (.ixor, 1))  (hp : pc + 1 = pc') (G : Go p e below Fin' T (mkF m pc' Ls (.int (x ^^^ y) :: S))) : Go p e below Fin' T (mkF m pc Ls (.int y :: .int x :: S)) := by
  subst hp; exact G.via fun _ k => XS.ixor X.here C.1 rfl (hb C.2.2.2.1 hd) rfl k
theorem Go.lxor (C : Cx p s m meth c Z own nm bytes maxL ret) (X : Stand p l e R s m args below meth c T locs cells slots) {x y : Int64} (hd : decode bytes pc = .ok (.lxor, 1))  (hp : pc + 1 = pc') (G : Go p e below Fin' T (mkF m pc' Ls (.long (x ^^^ y) :: S))) : Go p e below Fin' T (mkF m pc Ls (.long y :: .long x :: S)) := by
  subst hp; exact G.via fun _ k => XS.lxor X.here C.1 rfl (hb C.2.2.2.1 hd) rfl k
theorem Go.ishl (C : Cx p s m meth c Z own nm bytes maxL ret) (X : Stand p l e R s m args below meth c T locs cells slots) {x y : Int32} (hd : decode bytes pc = .ok (.ishl, 1))  (hp : pc + 1 = pc') (G : Go p e below Fin' T (mkF m pc' Ls (.int (x <<< (y &&& 31)) :: S))) : Go p e below Fin' T (mkF m pc Ls (.int y :: .int x :: S)) := by
  subst hp; exact G.via fun _ k => XS.ishl X.here C.1 rfl (hb C.2.2.2.1 hd) rfl k
theorem Go.ishr (C : Cx p s m meth c Z own nm bytes maxL ret) (X : Stand p l e R s m args below meth c T locs cells slots) {x y : Int32} (hd : decode bytes pc = .ok (.ishr, 1))  (hp : pc + 1 = pc') (G : Go p e below Fin' T (mkF m pc' Ls (.int (x >>> (y &&& 31)) :: S))) : Go p e below Fin' T (mkF m pc Ls (.int y :: .int x :: S)) := by
  subst hp; exact G.via fun _ k => XS.ishr X.here C.1 rfl (hb C.2.2.2.1 hd) rfl k
theorem Go.iushr (C : Cx p s m meth c Z own nm bytes maxL ret) (X : Stand p l e R s m args below meth c T locs cells slots) {x y : Int32} (hd : decode bytes pc = .ok (.iushr, 1))  (hp : pc + 1 = pc') (G : Go p e below Fin' T (mkF m pc' Ls (.int ((x.toUInt32 >>> (y &&& 31).toUInt32).toInt32) :: S))) : Go p e below Fin' T (mkF m pc Ls (.int y :: .int x :: S)) := by
  subst hp; exact G.via fun _ k => XS.iushr X.here C.1 rfl (hb C.2.2.2.1 hd) rfl k
theorem Go.lshl (C : Cx p s m meth c Z own nm bytes maxL ret) (X : Stand p l e R s m args below meth c T locs cells slots) {x : Int64} {y : Int32} (hd : decode bytes pc = .ok (.lshl, 1))  (hp : pc + 1 = pc') (G : Go p e below Fin' T (mkF m pc' Ls (.long (x <<< (y &&& 0x3f).toInt64) :: S))) : Go p e below Fin' T (mkF m pc Ls (.int y :: .long x :: S)) := by
  subst hp; exact G.via fun _ k => XS.lshl X.here C.1 rfl (hb C.2.2.2.1 hd) rfl k
theorem Go.lshr (C : Cx p s m meth c Z own nm bytes maxL ret) (X : Stand p l e R s m args below meth c T locs cells slots) {x : Int64} {y : Int32} (hd : decode bytes pc = .ok (.lshr, 1))  (hp : pc + 1 = pc') (G : Go p e below Fin' T (mkF m pc' Ls (.long (x >>> (y &&& 0x3f).toInt64) :: S))) : Go p e below Fin' T (mkF m pc Ls (.int y :: .long x :: S)) := by
  subst hp; exact G.via fun _ k => XS.lshr X.here C.1 rfl (hb C.2.2.2.1 hd) rfl k
theorem Go.lushr (C : Cx p s m meth c Z own nm bytes maxL ret) (X : Stand p l e R s m args below meth c T locs cells slots) {x : Int64} {y : Int32} (hd : decode bytes pc = .ok (.lushr, 1))  (hp : pc + 1 = pc') (G : Go p e below Fin' T (mkF m pc' Ls (.long ((x.toUInt64 >>> (y &&& 0x3f).toInt64.toUInt64).toInt64) :: S))) : Go p e below Fin' T (mkF m pc Ls (.int y :: .long x :: S)) := by
  subst hp; exact G.via fun _ k => XS.lushr X.here C.1 rfl (hb C.2.2.2.1 hd) rfl k
theorem Go.idiv (C : Cx p s m meth c Z own nm bytes maxL ret) (X : Stand p l e R s m args below meth c T locs cells slots) {x y : Int32} (hd : decode bytes pc = .ok (.idiv, 1)) (hy : y ≠ 0) (hp : pc + 1 = pc') (G : Go p e below Fin' T (mkF m pc' Ls (.int (x / y) :: S))) : Go p e below Fin' T (mkF m pc Ls (.int y :: .int x :: S)) := by
  subst hp; exact G.via fun _ k => XS.idiv X.here C.1 rfl (hb C.2.2.2.1 hd) rfl hy k
theorem Go.irem (C : Cx p s m meth c Z own nm bytes maxL ret) (X : Stand p l e R s m args below meth c T locs cells slots) {x y : Int32} (hd : decode bytes pc = .ok (.irem, 1)) (hy : y ≠ 0) (hp : pc + 1 = pc') (G : Go p e below Fin' T (mkF m pc' Ls (.int (x % y) :: S))) : Go p e below Fin' T (mkF m pc Ls (.int y :: .int x :: S)) := by
  subst hp; exact G.via fun _ k => iremM X C.1 rfl (hb C.2.2.2.1 hd) rfl hy k
theorem Go.ldiv (C : Cx p s m meth c Z own nm bytes maxL ret) (X : Stand p l e R s m args below meth c T locs cells slots) {x y : Int64} (hd : decode bytes pc = .ok (.ldiv, 1)) (hy : y ≠ 0) (hp : pc + 1 = pc') (G : Go p e below Fin' T (mkF m pc' Ls (.long (x / y) :: S))) : Go p e below Fin' T (mkF m pc Ls (.long y :: .long x :: S)) := by
  subst hp; exact G.via fun _ k => XS.ldiv X.here C.1 rfl (hb C.2.2.2.1 hd) rfl hy k
theorem Go.ineg (C : Cx p s m meth c Z own nm bytes maxL ret) (X : Stand p l e R s m args below meth c T locs cells slots) {x : Int32} (hd : decode bytes pc = .ok (.ineg, 1))  (hp : pc + 1 = pc') (G : Go p e below Fin' T (mkF m pc' Ls (.int (-x) :: S))) : Go p e below Fin' T (mkF m pc Ls (.int x :: S)) := by
  subst hp; exact G.via fun _ k => XS.ineg X.here C.1 rfl (hb C.2.2.2.1 hd) rfl k
theorem Go.lneg (C : Cx p s m meth c Z own nm bytes maxL ret) (X : Stand p l e R s m args below meth c T locs cells slots) {x : Int64} (hd : decode bytes pc = .ok (.lneg, 1))  (hp : pc + 1 = pc') (G : Go p e below Fin' T (mkF m pc' Ls (.long (-x) :: S))) : Go p e below Fin' T (mkF m pc Ls (.long x :: S)) := by
  subst hp; exact G.via fun _ k => XS.lneg X.here C.1 rfl (hb C.2.2.2.1 hd) rfl k
theorem Go.i2l (C : Cx p s m meth c Z own nm bytes maxL ret) (X : Stand p l e R s m args below meth c T locs cells slots) {x : Int32} (hd : decode bytes pc = .ok (.i2l, 1))  (hp : pc + 1 = pc') (G : Go p e below Fin' T (mkF m pc' Ls (.long (x.toInt64) :: S))) : Go p e below Fin' T (mkF m pc Ls (.int x :: S)) := by
  subst hp; exact G.via fun _ k => XS.i2l X.here C.1 rfl (hb C.2.2.2.1 hd) rfl k
theorem Go.l2i (C : Cx p s m meth c Z own nm bytes maxL ret) (X : Stand p l e R s m args below meth c T locs cells slots) {x : Int64} (hd : decode bytes pc = .ok (.l2i, 1))  (hp : pc + 1 = pc') (G : Go p e below Fin' T (mkF m pc' Ls (.int (x.toInt32) :: S))) : Go p e below Fin' T (mkF m pc Ls (.long x :: S)) := by
  subst hp; exact G.via fun _ k => XS.l2i X.here C.1 rfl (hb C.2.2.2.1 hd) rfl k
theorem Go.i2b (C : Cx p s m meth c Z own nm bytes maxL ret) (X : Stand p l e R s m args below meth c T locs cells slots) {x : Int32} (hd : decode bytes pc = .ok (.i2b, 1))  (hp : pc + 1 = pc') (G : Go p e below Fin' T (mkF m pc' Ls (.int (x.toInt8.toInt32) :: S))) : Go p e below Fin' T (mkF m pc Ls (.int x :: S)) := by
  subst hp; exact G.via fun _ k => XS.i2b X.here C.1 rfl (hb C.2.2.2.1 hd) rfl k
theorem Go.i2c (C : Cx p s m meth c Z own nm bytes maxL ret) (X : Stand p l e R s m args below meth c T locs cells slots) {x : Int32} (hd : decode bytes pc = .ok (.i2c, 1))  (hp : pc + 1 = pc') (G : Go p e below Fin' T (mkF m pc' Ls (.int (x.toUInt32.toUInt16.toUInt32.toInt32) :: S))) : Go p e below Fin' T (mkF m pc Ls (.int x :: S)) := by
  subst hp; exact G.via fun _ k => XS.i2c X.here C.1 rfl (hb C.2.2.2.1 hd) rfl k
theorem Go.i2s (C : Cx p s m meth c Z own nm bytes maxL ret) (X : Stand p l e R s m args below meth c T locs cells slots) {x : Int32} (hd : decode bytes pc = .ok (.i2s, 1))  (hp : pc + 1 = pc') (G : Go p e below Fin' T (mkF m pc' Ls (.int (x.toInt16.toInt32) :: S))) : Go p e below Fin' T (mkF m pc Ls (.int x :: S)) := by
  subst hp; exact G.via fun _ k => XS.i2s X.here C.1 rfl (hb C.2.2.2.1 hd) rfl k
theorem Go.lcmp (C : Cx p s m meth c Z own nm bytes maxL ret) (X : Stand p l e R s m args below meth c T locs cells slots) {x y : Int64} (hd : decode bytes pc = .ok (.lcmp, 1))  (hp : pc + 1 = pc') (G : Go p e below Fin' T (mkF m pc' Ls (.int (lcmpW x y) :: S))) : Go p e below Fin' T (mkF m pc Ls (.long y :: .long x :: S)) := by
  subst hp; exact G.via fun _ k => XS.lcmp X.here C.1 rfl (hb C.2.2.2.1 hd) rfl k
theorem Go.iinc (C : Cx p s m meth c Z own nm bytes maxL ret) (X : Stand p l e R s m args below meth c T locs cells slots) {k : Nat} {i : Int} {z x : Int32} (hd : decode bytes pc = .ok (.iinc k i, 3)) (hz : Int32.ofInt i = z) (hl : Ls[k]? = some (.val (.int x))) (hl' : storeLocals Ls k (.int (x + z)) = some Ls') (hp : pc + 3 = pc') (G : Go p e below Fin' T (mkF m pc' Ls' S)) : Go p e below Fin' T (mkF m pc Ls S) := by
  subst hp; exact G.via fun _ k => XT.iincV X.here C.1 rfl z (hb C.2.2.2.1 hd) hz hl hl' k
theorem Go.dup (C : Cx p s m meth c Z own nm bytes maxL ret) (X : Stand p l e R s m args below meth c T locs cells slots) {v : Value} (hd : decode bytes pc = .ok (.dup, 1)) (hc : v.category = 1) (hp : pc + 1 = pc') (G : Go p e below Fin' T (mkF m pc' Ls (v :: v :: S))) : Go p e below Fin' T (mkF m pc Ls (v :: S)) := by
  subst hp; exact G.via fun _ k => XS.dup X.here C.1 rfl (hb C.2.2.2.1 hd) rfl hc k
theorem Go.pop (C : Cx p s m meth c Z own nm bytes maxL ret) (X : Stand p l e R s m args below meth c T locs cells slots) {v : Value} (hd : decode bytes pc = .ok (.pop, 1)) (hc : v.category = 1) (hp : pc + 1 = pc') (G : Go p e below Fin' T (mkF m pc' Ls S)) : Go p e below Fin' T (mkF m pc Ls (v :: S)) := by
  subst hp; exact G.via fun _ k => XS.pop X.here C.1 rfl (hb C.2.2.2.1 hd) rfl hc k
theorem Go.dupX1 (C : Cx p s m meth c Z own nm bytes maxL ret) (X : Stand p l e R s m args below meth c T locs cells slots) {v w : Value} (hd : decode bytes pc = .ok (.dup_x1, 1)) (hc : v.category = 1) (hc' : w.category = 1) (hp : pc + 1 = pc') (G : Go p e below Fin' T (mkF m pc' Ls (v :: w :: v :: S))) : Go p e below Fin' T (mkF m pc Ls (v :: w :: S)) := by
  subst hp; exact G.via fun _ k => XS.dupX1 X.here C.1 rfl (hb C.2.2.2.1 hd) rfl hc hc' k
theorem Go.dup2 (C : Cx p s m meth c Z own nm bytes maxL ret) (X : Stand p l e R s m args below meth c T locs cells slots) {v w : Value} (hd : decode bytes pc = .ok (.dup2, 1)) (hc : v.category = 1) (hc' : w.category = 1) (hp : pc + 1 = pc') (G : Go p e below Fin' T (mkF m pc' Ls (v :: w :: v :: w :: S))) : Go p e below Fin' T (mkF m pc Ls (v :: w :: S)) := by
  subst hp; exact G.via fun _ k => XT.dup2 X.here C.1 rfl (hb C.2.2.2.1 hd) rfl hc hc' k
theorem Go.dup2L (C : Cx p s m meth c Z own nm bytes maxL ret) (X : Stand p l e R s m args below meth c T locs cells slots) {x : Int64} (hd : decode bytes pc = .ok (.dup2, 1))  (hp : pc + 1 = pc') (G : Go p e below Fin' T (mkF m pc' Ls (.long x :: .long x :: S))) : Go p e below Fin' T (mkF m pc Ls (.long x :: S)) := by
  subst hp; exact G.via fun _ k => XT.dup2L X.here C.1 rfl (hb C.2.2.2.1 hd) rfl k
theorem Go.goto (C : Cx p s m meth c Z own nm bytes maxL ret) (X : Stand p l e R s m args below meth c T locs cells slots)  {o : Int} (hd : decode bytes pc = .ok (.goto o, 3))  (ho : 0 ≤ (pc : Int) + o) (hp : ((pc : Int) + o).toNat = pc') (G : Go p e below Fin' T (mkF m pc' Ls S)) : Go p e below Fin' T (mkF m pc Ls S) :=
  G.via fun _ k => XS.goto X.here C.1 rfl rfl (hb C.2.2.2.1 hd) ho hp k
theorem Go.ifYes (C : Cx p s m meth c Z own nm bytes maxL ret) (X : Stand p l e R s m args below meth c T locs cells slots) {cd : ClassFile.Cond} {x : Int32} {o : Int} (hd : decode bytes pc = .ok (.ifCond cd o, 3)) (hc : ifCond.holds cd x = true) (ho : 0 ≤ (pc : Int) + o) (hp : ((pc : Int) + o).toNat = pc') (G : Go p e below Fin' T (mkF m pc' Ls S)) : Go p e below Fin' T (mkF m pc Ls (.int x :: S)) :=
  G.via fun _ k => XS.ifYes X.here C.1 rfl rfl (hb C.2.2.2.1 hd) rfl hc ho hp k
theorem Go.ifNo (C : Cx p s m meth c Z own nm bytes maxL ret) (X : Stand p l e R s m args below meth c T locs cells slots) {cd : ClassFile.Cond} {x : Int32} {o : Int} (hd : decode bytes pc = .ok (.ifCond cd o, 3)) (hc : ifCond.holds cd x = false) (hp : pc + 3 = pc') (G : Go p e below Fin' T (mkF m pc' Ls S)) : Go p e below Fin' T (mkF m pc Ls (.int x :: S)) := by
  subst hp; exact G.via fun _ k => XS.ifNo X.here C.1 rfl (hb C.2.2.2.1 hd) rfl hc k
theorem Go.icmpYes (C : Cx p s m meth c Z own nm bytes maxL ret) (X : Stand p l e R s m args below meth c T locs cells slots) {cd : ClassFile.Cond} {x y : Int32} {o : Int} (hd : decode bytes pc = .ok (.if_icmp cd o, 3)) (hc : if_icmp.holds cd x y = true) (ho : 0 ≤ (pc : Int) + o) (hp : ((pc : Int) + o).toNat = pc') (G : Go p e below Fin' T (mkF m pc' Ls S)) : Go p e below Fin' T (mkF m pc Ls (.int y :: .int x :: S)) :=
  G.via fun _ k => XS.icmpYes X.here C.1 rfl rfl (hb C.2.2.2.1 hd) rfl hc ho hp k
theorem Go.icmpNo (C : Cx p s m meth c Z own nm bytes maxL ret) (X : Stand p l e R s m args below meth c T locs cells slots) {cd : ClassFile.Cond} {x y : Int32} {o : Int} (hd : decode bytes pc = .ok (.if_icmp cd o, 3)) (hc : if_icmp.holds cd x y = false) (hp : pc + 3 = pc') (G : Go p e below Fin' T (mkF m pc' Ls S)) : Go p e below Fin' T (mkF m pc Ls (.int y :: .int x :: S)) := by
  subst hp; exact G.via fun _ k => XS.icmpNo X.here C.1 rfl (hb C.2.2.2.1 hd) rfl hc k
theorem Go.ifnullYes (C : Cx p s m meth c Z own nm bytes maxL ret) (X : Stand p l e R s m args below meth c T locs cells slots)  {o : Int} (hd : decode bytes pc = .ok (.ifnull o, 3))  (ho : 0 ≤ (pc : Int) + o) (hp : ((pc : Int) + o).toNat = pc') (G : Go p e below Fin' T (mkF m pc' Ls S)) : Go p e below Fin' T (mkF m pc Ls (.null :: S)) :=
  G.via fun _ k => XS.ifnullYes X.here C.1 rfl rfl (hb C.2.2.2.1 hd) rfl ho hp k
theorem Go.ifnullNo (C : Cx p s m meth c Z own nm bytes maxL ret) (X : Stand p l e R s m args below meth c T locs cells slots) {b : Addr} {o : Int} (hd : decode bytes pc = .ok (.ifnull o, 3))  (hp : pc + 3 = pc') (G : Go p e below Fin' T (mkF m pc' Ls S)) : Go p e below Fin' T (mkF m pc Ls (.ref b :: S)) := by
  subst hp; exact G.via fun _ k => XS.ifnullNo X.here C.1 rfl (hb C.2.2.2.1 hd) rfl k
theorem Go.ifnonnullYes (C : Cx p s m meth c Z own nm bytes maxL ret) (X : Stand p l e R s m args below meth c T locs cells slots) {b : Addr} {o : Int} (hd : decode bytes pc = .ok (.ifnonnull o, 3))  (ho : 0 ≤ (pc : Int) + o) (hp : ((pc : Int) + o).toNat = pc') (G : Go p e below Fin' T (mkF m pc' Ls S)) : Go p e below Fin' T (mkF m pc Ls (.ref b :: S)) :=
  G.via fun _ k => XS.ifnonnullYes X.here C.1 rfl rfl (hb C.2.2.2.1 hd) rfl ho hp k
theorem Go.ifnonnullNo (C : Cx p s m meth c Z own nm bytes maxL ret) (X : Stand p l e R s m args below meth c T locs cells slots)  {o : Int} (hd : decode bytes pc = .ok (.ifnonnull o, 3))  (hp : pc + 3 = pc') (G : Go p e below Fin' T (mkF m pc' Ls S)) : Go p e below Fin' T (mkF m pc Ls (.null :: S)) := by
  subst hp; exact G.via fun _ k => XS.ifnonnullNo X.here C.1 rfl (hb C.2.2.2.1 hd) rfl k
theorem Go.acmpYes (C : Cx p s m meth c Z own nm bytes maxL ret) (X : Stand p l e R s m args below meth c T locs cells slots) {cd : ClassFile.ACond} {v w : Value} {o : Int} (hd : decode bytes pc = .ok (.if_acmp cd o, 3)) (hv : v.isRef = true) (hw : w.isRef = true) (hc : XT.acmp cd v w = true) (ho : 0 ≤ (pc : Int) + o) (hp : ((pc : Int) + o).toNat = pc') (G : Go p e below Fin' T (mkF m pc' Ls S)) : Go p e below Fin' T (mkF m pc Ls (w :: v :: S)) :=
  G.via fun _ k => XT.acmpYes X.here C.1 rfl rfl (hb C.2.2.2.1 hd) rfl hv hw hc ho hp k
theorem Go.acmpNo (C : Cx p s m meth c Z own nm bytes maxL ret) (X : Stand p l e R s m args below meth c T locs cells slots) {cd : ClassFile.ACond} {v w : Value} {o : Int} (hd : decode bytes pc = .ok (.if_acmp cd o, 3)) (hv : v.isRef = true) (hw : w.isRef = true) (hc : XT.acmp cd v w = false) (hp : pc + 3 = pc') (G : Go p e below Fin' T (mkF m pc' Ls S)) : Go p e below Fin' T (mkF m pc Ls (w :: v :: S)) := by
  subst hp; exact G.via fun _ k => XT.acmpNo X.here C.1 rfl (hb C.2.2.2.1 hd) rfl hv hw hc k
theorem Go.tswIn (C : Cx p s m meth c Z own nm bytes maxL ret) (X : Stand p l e R s m args below meth c T locs cells slots) {dflt low high : Int} {offs : Array Int} {len : Nat} {o : Int} {i : Int32} (hd : decode bytes pc = .ok (.tableswitch dflt low high offs, len)) (hin : ¬ (i.toInt < low ∨ i.toInt > high)) (hoff : offs[(i.toInt - low).toNat]? = some o) (ho : 0 ≤ (pc : Int) + o) (hp : ((pc : Int) + o).toNat = pc') (G : Go p e below Fin' T (mkF m pc' Ls S)) : Go p e below Fin' T (mkF m pc Ls (.int i :: S)) :=
  G.via fun _ k => XS.tswIn X.here C.1 rfl rfl (hb C.2.2.2.1 hd) rfl hin hoff ho hp k
theorem Go.tswOut (C : Cx p s m meth c Z own nm bytes maxL ret) (X : Stand p l e R s m args below meth c T locs cells slots) {dflt low high : Int} {offs : Array Int} {len : Nat} {i : Int32} (hd : decode bytes pc = .ok (.tableswitch dflt low high offs, len)) (hout : i.toInt < low ∨ i.toInt > high) (ho : 0 ≤ (pc : Int) + dflt) (hp : ((pc : Int) + dflt).toNat = pc') (G : Go p e below Fin' T (mkF m pc' Ls S)) : Go p e below Fin' T (mkF m pc Ls (.int i :: S)) :=
  G.via fun _ k => XS.tswOut X.here C.1 rfl rfl (hb C.2.2.2.1 hd) rfl hout ho hp k
/-! the returns -/
theorem Go.retV (C : Cx p s m meth c Z own nm bytes maxL ret) (X : Stand p l e R s m args below meth c T locs cells slots)  (hr : ret = none) (hd : decode bytes pc = .ok (.return_, 1))  (hq : Q none T.heap locs) (hc : cells ≤ RC) (hs : slots ≤ RS) : Go p e below (Fn s RC RS Q) T (mkF m pc Ls []) := by
  have hret := C.2.2.2.2.2.1
  have hlk := C.2.2.2.2.2.2.2
  rw [hr] at hret
  obtain ⟨fs, hl, hrun, hended, hW, hsame⟩ := X.leave (v := none) (fun h => by first | rfl | (rw [hret] at h; cases h)) hlk
  exact ⟨_, _, X.returnOut C.1 hret (hb C.2.2.2.1 hd) hl, hrun, hended, _, _, rfl, hq, ⟨_, rfl⟩, hW, hsame.mono hc hs⟩
theorem Go.retN (C : Cx p s m meth c Z own nm bytes maxL ret) (X : Stand p l e R s m args below meth c T locs cells slots) {t : FieldType} {z : Int32} (hr : ret = some t) (hd : decode bytes pc = .ok (.ireturn, 1)) (ht : t = .boolean ∨ t = .byte ∨ t = .char ∨ t = .short) (hq : Q (some (.int (nar t z))) T.heap locs) (hc : cells ≤ RC) (hs : slots ≤ RS) : Go p e below (Fn s RC RS Q) T (mkF m pc Ls (.int z :: S)) := by
  have hret := C.2.2.2.2.2.1
  have hlk := C.2.2.2.2.2.2.2
  rw [hr] at hret
  obtain ⟨fs, hl, hrun, hended, hW, hsame⟩ := X.leave (v := (some (.int (nar t z)))) (fun h => by first | rfl | (rw [hret] at h; cases h)) hlk
  exact ⟨_, _, Jvm.RoadKit.retN X C.1 hret ht (hb C.2.2.2.1 hd) hl, hrun, hended, _, _, rfl, hq, ⟨_, rfl⟩, hW, hsame.mono hc hs⟩
theorem Go.retI (C : Cx p s m meth c Z own nm bytes maxL ret) (X : Stand p l e R s m args below meth c T locs cells slots) {z : Int32} (hr : ret = some .int) (hd : decode bytes pc = .ok (.ireturn, 1))  (hq : Q (some (.int z)) T.heap locs) (hc : cells ≤ RC) (hs : slots ≤ RS) : Go p e below (Fn s RC RS Q) T (mkF m pc Ls (.int z :: S)) := by
  have hret := C.2.2.2.2.2.1
  have hlk := C.2.2.2.2.2.2.2
  rw [hr] at hret
  obtain ⟨fs, hl, hrun, hended, hW, hsame⟩ := X.leave (v := (some (.int z))) (fun h => by first | rfl | (rw [hret] at h; cases h)) hlk
  exact ⟨_, _, retOut X C.1 hret rfl (Or.inl ⟨rfl, Or.inl rfl, z, rfl⟩) (hb C.2.2.2.1 hd) hl, hrun, hended, _, _, rfl, hq, ⟨_, rfl⟩, hW, hsame.mono hc hs⟩
theorem Go.retJ (C : Cx p s m meth c Z own nm bytes maxL ret) (X : Stand p l e R s m args below meth c T locs cells slots) {z : Int64} (hr : ret = some .long) (hd : decode bytes pc = .ok (.lreturn, 1))  (hq : Q (some (.long z)) T.heap locs) (hc : cells ≤ RC) (hs : slots ≤ RS) : Go p e below (Fn s RC RS Q) T (mkF m pc Ls (.long z :: S)) := by
  have hret := C.2.2.2.2.2.1
  have hlk := C.2.2.2.2.2.2.2
  rw [hr] at hret
  obtain ⟨fs, hl, hrun, hended, hW, hsame⟩ := X.leave (v := (some (.long z))) (fun h => by first | rfl | (rw [hret] at h; cases h)) hlk
  exact ⟨_, _, retOut X C.1 hret rfl (Or.inr (Or.inl ⟨rfl, rfl, z, rfl⟩)) (hb C.2.2.2.1 hd) hl, hrun, hended, _, _, rfl, hq, ⟨_, rfl⟩, hW, hsame.mono hc hs⟩
theorem Go.retA (C : Cx p s m meth c Z own nm bytes maxL ret) (X : Stand p l e R s m args below meth c T locs cells slots) {t : FieldType} {v : Value} (hr : ret = some t) (hd : decode bytes pc = .ok (.areturn, 1)) (ht : t.isReference = true) (hv : v.isRef = true) (hn : narrow t v = v) (hq : Q (some v) T.heap locs) (hc : cells ≤ RC) (hs : slots ≤ RS) : Go p e below (Fn s RC RS Q) T (mkF m pc Ls (v :: S)) := by
  have hret := C.2.2.2.2.2.1
  have hlk := C.2.2.2.2.2.2.2
  rw [hr] at hret
  obtain ⟨fs, hl, hrun, hended, hW, hsame⟩ := X.leave (v := (some v)) (fun h => by first | rfl | (rw [hret] at h; cases h)) hlk
  exact ⟨_, _, retOut X C.1 hret hn (Or.inr (Or.inr (Or.inr (Or.inr ⟨rfl, ht, hv⟩)))) (hb C.2.2.2.1 hd) hl, hrun, hended, _, _, rfl, hq, ⟨_, rfl⟩, hW, hsame.mono hc hs⟩
/-! arrays whose elements are all known -/
def AL (Z : State) (h : Heap) (a : Addr) (k : ClassId) (ty : FieldType) (vs : List Value) : Prop := ∃ c : Cell, Arr Z h a c ty ∧ c.cls = k ∧ c.slots = vs.toArray
theorem AL.lt {a : Addr} {k : ClassId} {ty : FieldType} {vs : List Value} (F : AL Z h a k ty vs) : a < h.size := by obtain ⟨c, A, -⟩ := F; exact A.lt
theorem AL.ext {h' : Heap} {a : Addr} {k : ClassId} {ty : FieldType} {vs : List Value} (E : Ext h h') (F : AL Z h a k ty vs) : AL Z h' a k ty vs := by obtain ⟨c, A, r⟩ := F; exact ⟨c, A.ext E, r⟩
theorem AL.other {h' : Heap} {a b : Addr} {sl : Nat} {v : Value} {k : ClassId} {ty : FieldType} {vs : List Value} (W : Wr h h' a sl v) (F : AL Z h b k ty vs) (q : b ≠ a) : AL Z h' b k ty vs := by obtain ⟨c, A, r⟩ := F; exact ⟨c, A.other W q, r⟩
theorem AL.keep {h' : Heap} {a : Addr} {ws : List Addr} {k : ClassId} {ty : FieldType} {vs : List Value} (F : AL Z h a k ty vs) (K : Keep h h' ws) (q : a ∉ ws) : AL Z h' a k ty vs := by obtain ⟨c, A, r⟩ := F; exact ⟨c, ⟨K.2.1 a c A.1 q, A.2⟩, r⟩
theorem AL.set {h' : Heap} {a : Addr} {i : Nat} {v : Value} {k : ClassId} {ty : FieldType} {vs : List Value} (F : AL Z h a k ty vs) (W : Wr h h' a i v) : AL Z h' a k ty (vs.set i v) := by
  obtain ⟨c, A, r1, r2⟩ := F
  exact ⟨_, A.same W, r1, by simp [Cell.setSlot, r2]⟩
theorem AL.new {a : Addr} {k : ClassId} {ty : FieldType} {n : Int32} (A : Arr Z h a (newA k ty n) ty) : AL Z h a k ty (List.replicate n.toNatClampNeg (defaultValue ty)) := ⟨_, A, rfl, by simp [newA]⟩
theorem AL.arv {a : Addr} {k : ClassId} {ty : FieldType} {n : Int32} {vs : List Value} {dv : Value} (F : AL Z h a k ty vs) (hn : ¬ n < 0) (hl : n.toNatClampNeg = vs.length) (hf : ∀ v ∈ vs, fits ty v = true) : Arv Z h a k ty n vs dv := by
  obtain ⟨c, A, r1, r2⟩ := F
  refine ⟨c, A, r1, by rw [r2]; simp [hl], hn, fun i hi => ?_, fun i hi => ?_⟩
  · have hi' : i < vs.length := by simpa [r2] using hi
    simp [r2, List.getD, List.getElem?_eq_getElem hi']
  · have hi' : i < vs.length := by simpa [r2] using hi
    have q : vs.getD i dv = vs[i] := by simp [List.getD, List.getElem?_eq_getElem hi']
    rw [q]; exact hf _ (List.getElem_mem hi')
theorem AL.of_arv {a : Addr} {k : ClassId} {ty : FieldType} {n : Int32} {vs : List Value} {dv : Value} (F : Arv Z h a k ty n vs dv) (hl : n.toNatClampNeg = vs.length) : AL Z h a k ty vs := by
  obtain ⟨c, A, r1, r2, -, H, -⟩ := F
  refine ⟨c, A, r1, ?_⟩
  apply Array.ext_getElem?
  intro i
  by_cases hi : i < c.slots.size
  · have hi' : i < vs.length := by omega
    rw [H i hi]
    simp [List.getD, List.getElem?_eq_getElem hi']
  · have hi' : vs.length ≤ i := by omega
    rw [Array.getElem?_eq_none (by omega)]
    simp [List.getElem?_eq_none hi']
theorem Sta.old {n d K1 : String} {v : Value} (F : Sta Z Z.heap K1 n d v) (O : Ext Z.heap h) : Sta Z h K1 n d v := F.ext O
theorem Ext.trans {h1 h2 h3 : Heap} (E : Ext h1 h2) (E' : Ext h2 h3) : Ext h1 h3 := ⟨Nat.le_trans E.1 E'.1, fun x c q => E'.2 x c (E.2 x c q)⟩
theorem Ext.refl (h : Heap) : Ext h h := ⟨Nat.le_refl _, fun _ _ q => q⟩
theorem Ext.wr {h1 h2 h3 : Heap} {a : Addr} {sl : Nat} {v : Value} (E : Ext h1 h2) (W : Wr h2 h3 a sl v) (q : h1.size ≤ a) : Ext h1 h3 := by
  refine ⟨by rw [W.size]; exact E.1, fun x c hx => ?_⟩
  obtain ⟨c', e1, -, -, -, e5, -⟩ := wr_at W (E.2 x c hx)
  have ne : x ≠ a := fun e => absurd (Array.getElem?_eq_some_iff.mp hx).1 (by rw [e]; exact Nat.not_lt.mpr q)
  rw [← e5 ne]; exact e1
theorem Ext.keep {h1 h2 h3 : Heap} {ws : List Addr} (E : Ext h1 h2) (K : Keep h2 h3 ws) (q : ∀ x ∈ ws, h1.size ≤ x) : Ext h1 h3 := ⟨Nat.le_trans E.1 K.1, fun x c hx => K.2.1 x c (E.2 x c hx) fun z => absurd (Array.getElem?_eq_some_iff.mp hx).1 (Nat.not_lt.mpr (q x z))⟩
theorem Keep.toExt {h1 h2 : Heap} (K : Keep h1 h2 []) : Ext h1 h2 := ⟨K.1, fun x c hx => K.2.1 x c hx (fun z => nomatch z)⟩
theorem Keep.of_ext {h1 h2 : Heap} {ws : List Addr} (E : Ext h1 h2) : Keep h1 h2 ws := (Keep.refl h1 ws).ext E
theorem Keep.drop {h1 h2 : Heap} {ws ws' : List Addr} (K : Keep h1 h2 ws) (q : ∀ x ∈ ws, x ∈ ws' ∨ h1.size ≤ x) : Keep h1 h2 ws' := (Keep.refl h1 ws').trans K q
theorem Ins.keep {h' : Heap} {a : Addr} {ws : List Addr} {K1 : String} {bo : Bool} (F : Ins Z h a K1 bo) (K : Keep h h' ws) : Ins Z h' a K1 bo := by
  obtain ⟨cell, cT, h1, h2, h3⟩ := F
  obtain ⟨c', e1, e2, e3, -⟩ := K.2.2 _ _ h1
  exact ⟨c', cT, e1, h2, by rw [e2, e3]; exact h3⟩
/-! steps that read the tables or the heap -/
theorem Go.getF (C : Cx p s m meth c Z own nm bytes maxL ret) (X : Stand p l e R s m args below meth c T locs cells slots) {idx : Nat} {R0 O n d host : String} {a : Addr} {v : Value} (w : (Cond.fieldLink own idx R0 n d).before a0 Z = true ∨ (Cond.fieldLinkNest own idx R0 n d host).before a0 Z = true) (via : Via Z R0 O n d) (eT : T.heap = h) (F : Fld Z h a O n d v) (hd : decode bytes pc = .ok (.getfield idx, 3)) (hp : pc + 3 = pc')
    (K : ∀ T', Stand p l e R s m args below meth c T' locs cells slots → T'.heap = h → Go p e below Fin' T' (mkF m pc' Ls (v :: S))) : Go p e below Fin' T (mkF m pc Ls (.ref a :: S)) := by
  subst hp
  obtain ⟨T', X', e', st⟩ := Jvm.RoadKit.getF X C.1 C.2.1 C.2.2.1 w via eT F (g := mkF m pc Ls (.ref a :: S)) rfl rfl (hb C.2.2.2.1 hd)
  exact (K T' X' e').via st
theorem Go.getS (C : Cx p s m meth c Z own nm bytes maxL ret) (X : Stand p l e R s m args below meth c T locs cells slots) {idx : Nat} {R0 O n d host : String} {v : Value} (w : (Cond.fieldLink own idx R0 n d).before a0 Z = true ∨ (Cond.fieldLinkNest own idx R0 n d host).before a0 Z = true) (via : Via Z R0 O n d) (eT : T.heap = h) (F : Sta Z h O n d v) (hd : decode bytes pc = .ok (.getstatic idx, 3)) (hp : pc + 3 = pc')
    (K : ∀ T', Stand p l e R s m args below meth c T' locs cells slots → T'.heap = h → Go p e below Fin' T' (mkF m pc' Ls (v :: S))) : Go p e below Fin' T (mkF m pc Ls S) := by
  subst hp
  obtain ⟨T', X', e', st⟩ := getS2 X C.1 C.2.1 C.2.2.1 w via eT F (g := mkF m pc Ls S) rfl (hb C.2.2.2.1 hd)
  exact (K T' X' e').via st
theorem Go.putF (C : Cx p s m meth c Z own nm bytes maxL ret) (X : Stand p l e R s m args below meth c T locs cells slots) {idx kk : Nat} {R0 O n d host K1 : String} {a : Addr} {v old : Value} {ty : FieldType} (w : (Cond.fieldLink own idx R0 n d).before a0 Z = true ∨ (Cond.fieldLinkNest own idx R0 n d host).before a0 Z = true) (via : Via Z R0 O n d) (eT : T.heap = h) (F : Fld Z h a O n d old) (E : Exa Z h a K1) (L : (Cond.lays K1 O n d).before a0 Z = true ∨ ((Cond.laysFinal K1 O n d).before a0 Z = true ∧ own = O ∧ nm = "<init>")) (wi : (Cond.instantiable K1 kk).before a0 Z = true) (hty : parseFieldDescriptor d = some ty) (hn : narrow ty v = v) (hf : fits ty v = true) (hd : decode bytes pc = .ok (.putfield idx, 3)) (hp : pc + 3 = pc')
    (K : ∀ T' h', Stand p l e R s m args below meth c T' (locs ++ [⟨a, slotOf Z O n d⟩]) cells slots → T'.heap = h' → Wr h h' a (slotOf Z O n d) v → Fld Z h' a O n d v → Go p e below Fin' T' (mkF m pc' Ls S)) : Go p e below Fin' T (mkF m pc Ls (v :: .ref a :: S)) := by
  subst hp
  obtain ⟨T', h', X', e', W', st⟩ := Jvm.RoadKit.putF X C.1 C.2.1 C.2.2.1 w via eT F E (L.imp id fun q => ⟨q.1, q.2.1, C.2.2.2.2.2.2.1.trans q.2.2⟩) wi hty hn hf (g := mkF m pc Ls (v :: .ref a :: S)) rfl rfl (hb C.2.2.2.1 hd)
  exact (K T' h' X' e' W' (F.same W')).via st
theorem Go.putFN (C : Cx p s m meth c Z own nm bytes maxL ret) (X : Stand p l e R s m args below meth c T locs cells slots) {idx kk : Nat} {R0 O n d K1 : String} {a : Addr} {v v' old : Value} {ty : FieldType} (w : (Cond.fieldLink own idx R0 n d).before a0 Z = true) (via : Via Z R0 O n d) (eT : T.heap = h) (F : Fld Z h a O n d old) (E : Exa Z h a K1) (L : (Cond.lays K1 O n d).before a0 Z = true ∨ ((Cond.laysFinal K1 O n d).before a0 Z = true ∧ own = O ∧ nm = "<init>")) (wi : (Cond.instantiable K1 kk).before a0 Z = true) (hty : parseFieldDescriptor d = some ty) (hn : narrow ty v = v') (hf : fits ty v' = true) (hd : decode bytes pc = .ok (.putfield idx, 3)) (hp : pc + 3 = pc')
    (K : ∀ T' h', Stand p l e R s m args below meth c T' (locs ++ [⟨a, slotOf Z O n d⟩]) cells slots → T'.heap = h' → Wr h h' a (slotOf Z O n d) v' → Fld Z h' a O n d v' → Go p e below Fin' T' (mkF m pc' Ls S)) : Go p e below Fin' T (mkF m pc Ls (v :: .ref a :: S)) := by
  subst hp
  obtain ⟨T', h', X', e', W', st⟩ := Jvm.RoadKit.putFN X C.1 C.2.1 C.2.2.1 w via eT F E (L.imp id fun q => ⟨q.1, q.2.1, C.2.2.2.2.2.2.1.trans q.2.2⟩) wi hty hn hf (g := mkF m pc Ls (v :: .ref a :: S)) rfl rfl (hb C.2.2.2.1 hd)
  exact (K T' h' X' e' W' (F.same W')).via st
theorem Go.newO (C : Cx p s m meth c Z own nm bytes maxL ret) (X : Stand p l e R s m args below meth c T locs cells slots) {idx n : Nat} {K1 : String} (w : (Cond.classLink own idx K1).before a0 Z = true) (wi : (Cond.instantiable K1 n).before a0 Z = true) (wz : (Cond.initialized K1).before a0 Z = true) (eT : T.heap = h) (hc : cells + 1 ≤ R.cells) (hl : slots + n ≤ R.slots) (hd : decode bytes pc = .ok (.new idx, 3)) (hp : pc + 3 = pc')
    (K : ∀ T' h' b, Stand p l e R s m args below meth c T' locs (cells + 1) (slots + n) → T'.heap = h' → b = h.size → Ext h h' → Exa Z h' b K1 → (∀ {O nm d : String} {ty : FieldType}, Laid Z a0 K1 O nm d → parseFieldDescriptor d = some ty → Fld Z h' b O nm d (defaultValue ty)) → Go p e below Fin' T' (mkF m pc' Ls (.ref b :: S))) : Go p e below Fin' T (mkF m pc Ls S) := by
  subst hp
  obtain ⟨T', h', X', e', E', A', D', -, st⟩ := Jvm.RoadKit.newO X C.1 C.2.1 C.2.2.1 w wi wz eT (g := mkF m pc Ls S) rfl (hb C.2.2.2.1 hd) hc hl
  exact (K T' h' h.size X' e' rfl E' A' D').via st
theorem Go.newP (C : Cx p s m meth c Z own nm bytes maxL ret) (X : Stand p l e R s m args below meth c T locs cells slots) {aty : ArrayType} {n : Int32} {cap : Nat} {vs : List Value} {ad : String} (had : "[" ++ (newarray.typeOf aty).toString = ad) (w : (Cond.arrayClass (newarray.typeOf aty)).before a0 Z = true) (eT : T.heap = h) (hn : ¬ n < 0) (hcap : n.toNatClampNeg ≤ cap) (hb8 : cap * 8 ≤ 536870912) (hc : cells + 1 ≤ R.cells) (hl : slots + cap ≤ R.slots) (hvs : List.replicate n.toNatClampNeg (defaultValue (newarray.typeOf aty)) = vs) (hd : decode bytes pc = .ok (.newarray aty, 2)) (hp : pc + 2 = pc')
    (K : ∀ T' h' b k, Stand p l e R s m args below meth c T' locs (cells + 1) (slots + cap) → T'.heap = h' → b = h.size → Ext h h' → AL Z h' b k (newarray.typeOf aty) vs → Exa Z h' b ad → Go p e below Fin' T' (mkF m pc' Ls (.ref b :: S))) : Go p e below Fin' T (mkF m pc Ls (.int n :: S)) := by
  subst hp
  obtain ⟨T', h', k, X', e', E', A', E2, st⟩ := Jvm.RoadKit.newPE X C.1 C.2.1 w eT (g := mkF m pc Ls (.int n :: S)) rfl (hb C.2.2.2.1 hd) rfl hn hcap hb8 hc hl had
  exact (K T' h' h.size k X' e' rfl E' (hvs ▸ AL.new A') E2).via st
theorem Go.newR (C : Cx p s m meth c Z own nm bytes maxL ret) (X : Stand p l e R s m args below meth c T locs cells slots) {idx : Nat} {K1 ad : String} {n : Int32} {cap : Nat} {vs : List Value} (had : "[" ++ (FieldType.object K1).toString = ad) (w : (Cond.classLink own idx K1).before a0 Z = true) (w2 : (Cond.arrayOver (.object K1)).before a0 Z = true) (eT : T.heap = h) (hn : ¬ n < 0) (hcap : n.toNatClampNeg ≤ cap) (hb8 : cap * 8 ≤ 536870912) (hc : cells + 1 ≤ R.cells) (hl : slots + cap ≤ R.slots) (hvs : List.replicate n.toNatClampNeg (defaultValue (.object K1)) = vs) (hd : decode bytes pc = .ok (.anewarray idx, 3)) (hp : pc + 3 = pc')
    (K : ∀ T' h' b k, Stand p l e R s m args below meth c T' locs (cells + 1) (slots + cap) → T'.heap = h' → b = h.size → Ext h h' → AL Z h' b k (.object K1) vs → Exa Z h' b ad → Ovr Z k K1 → Go p e below Fin' T' (mkF m pc' Ls (.ref b :: S))) : Go p e below Fin' T (mkF m pc Ls (.int n :: S)) := by
  subst hp
  obtain ⟨T', h', k, X', e', E', A', E2, O', st⟩ := Jvm.RoadKit.newRE X C.1 C.2.1 C.2.2.1 w w2 eT (g := mkF m pc Ls (.int n :: S)) rfl (hb C.2.2.2.1 hd) rfl hn hcap hb8 hc hl had
  exact (K T' h' h.size k X' e' rfl E' (hvs ▸ AL.new A') E2 O').via st
theorem Go.newRA (C : Cx p s m meth c Z own nm bytes maxL ret) (X : Stand p l e R s m args below meth c T locs cells slots) {idx : Nat} {K1 ad : String} {ty : FieldType} {n : Int32} {cap : Nat} {vs : List Value} (hC : (FieldType.array ty).toString = K1) (had : "[" ++ K1 = ad) (w : (Cond.classLink own idx K1).before a0 Z = true) (w2 : (Cond.arrayOver (.array ty)).before a0 Z = true) (eT : T.heap = h) (hn : ¬ n < 0) (hcap : n.toNatClampNeg ≤ cap) (hb8 : cap * 8 ≤ 536870912) (hc : cells + 1 ≤ R.cells) (hl : slots + cap ≤ R.slots) (hvs : List.replicate n.toNatClampNeg (defaultValue (.array ty)) = vs) (hd : decode bytes pc = .ok (.anewarray idx, 3)) (hp : pc + 3 = pc')
    (K : ∀ T' h' b k, Stand p l e R s m args below meth c T' locs (cells + 1) (slots + cap) → T'.heap = h' → b = h.size → Ext h h' → AL Z h' b k (.array ty) vs → Exa Z h' b ad → OvrA Z k ty K1 → Go p e below Fin' T' (mkF m pc' Ls (.ref b :: S))) : Go p e below Fin' T (mkF m pc Ls (.int n :: S)) := by
  subst hp
  obtain ⟨T', h', k, X', e', E', A', E2, O', st⟩ := Jvm.RoadKit.newRA X C.1 C.2.1 C.2.2.1 hC w w2 eT (g := mkF m pc Ls (.int n :: S)) rfl (hb C.2.2.2.1 hd) rfl hn hcap hb8 hc hl had
  exact (K T' h' h.size k X' e' rfl E' (hvs ▸ AL.new A') E2 O').via st
theorem AL.stoA {a y : Addr} {k : ClassId} {t0 ty : FieldType} {vs : List Value} {K1 : String} (F : AL Z h a k t0 vs) (O : OvrA Z k ty K1) (I : Ins Z h y K1 true) : Sto Z h a (.ref y) := by
  obtain ⟨c, A, r, -⟩ := F; exact Sto.ofVA A r O I
theorem Go.getFR (C : Cx p s m meth c Z own nm bytes maxL ret) (X : Stand p l e R s m args below meth c T locs cells slots) {idx : Nat} {O n d : String} {a : Addr} {v : Value} (w : (Cond.fieldRef own idx O n d).before a0 Z = true) (eT : T.heap = h) (F : Fld Z h a O n d v) (hd : decode bytes pc = .ok (.getfield idx, 3)) (hp : pc + 3 = pc')
    (K : Go p e below Fin' T (mkF m pc' Ls (v :: S))) : Go p e below Fin' T (mkF m pc Ls (.ref a :: S)) := by
  subst hp
  obtain ⟨cell, cf, k, i, f, h1, h2, h3, h4, -, -, h7⟩ := F
  have hZT : Z.Warmed39 T.vm := wtrans C.2.1 X.warmed
  have w' : (Cond.fieldRef own idx O n d).before args T = true := (Cond.fieldRef_warmed39 hZT w :)
  have hown : T.vm.findClass own = some m.cls := by rw [X.warmed.alike.findClass]; exact C.2.2.1
  obtain ⟨c', k', i', f', e1, hr⟩ := Cond.fieldRef_spec hown w'
  obtain ⟨k2, q1, -⟩ := State.fieldFound?_setVm (s := Z) hZT.alike h2
  have q1' : T.fieldFound? O n d = some (cf, k2, i, f) := q1
  cases q1'.symm.trans e1
  exact K.via fun t kt => (X.getfieldR C.1 (g := mkF m pc Ls (.ref a :: S)) rfl hr h3 rfl (by rw [eT]; exact h1) h4 h7 (hb C.2.2.2.1 hd) (Steps.refl _)).trans kt
theorem Go.clone (C : Cx p s m meth c Z own nm bytes maxL ret) (X : Stand p l e R s m args below meth c T locs cells slots) {idx : Nat} {ad : String} {a : Addr} {k : ClassId} {ty : FieldType} {vs : List Value} {W cap : Nat} (w1 : (Cond.methodLink own idx ⟨ad, "clone", "()Ljava/lang/Object;"⟩).before a0 Z = true) (w2 : (Cond.sameMethod ad "java/lang/Object" "clone" "()Ljava/lang/Object;").before a0 Z = true) (w3 : (Cond.native ⟨"java/lang/Object", "clone", "()Ljava/lang/Object;"⟩).before a0 Z = true) (w4 : (Cond.instanceMethod ⟨"java/lang/Object", "clone", "()Ljava/lang/Object;"⟩).before a0 Z = true) (w5 : (Cond.selects ad ⟨ad, "clone", "()Ljava/lang/Object;"⟩ ⟨"java/lang/Object", "clone", "()Ljava/lang/Object;"⟩).before a0 Z = true) (w6 : (Cond.castable ad "java/lang/Cloneable").before a0 Z = true) (eT : T.heap = h) (F : AL Z h a k ty vs) (E : Exa Z h a ad) (hfit : ∀ v ∈ vs, fits ty v = true) (hls : Ls.size = maxL) (hf : 1 ≤ R.frames) (hW : (S.map fun v => v.category).sum ≤ W) (hlo : W + 14 ≤ R.locals) (hcap : vs.length ≤ cap) (hc : cells + 1 ≤ R.cells) (hsl : slots + cap ≤ R.slots) (hd : decode bytes pc = .ok (.invokevirtual idx, 3)) (hp : pc + 3 = pc')
    (K : ∀ T' h' b, Stand p l e R s m args below meth c T' locs (cells + 1) (slots + cap) → T'.heap = h' → b = h.size → Ext h h' → AL Z h' b k ty vs → Exa Z h' b ad → Go p e below Fin' T' (mkF m pc' Ls (.ref b :: S))) : Go p e below Fin' T (mkF m pc Ls (.ref a :: S)) := by
  subst hp
  obtain ⟨cl, A, q1, q2⟩ := F
  have FC : FitC Z cl := fitC_of A fun i hi v hv => by
    rw [q2] at hv
    exact hfit v (List.mem_of_getElem? (by simpa using hv))
  have hsz : cl.slots.size = vs.length := by rw [q2]; simp
  obtain ⟨T', h', X', e', ex, A', E', st⟩ := cloneA X C.1 C.2.1 C.2.2.1 w1 w2 w3 w4 w5 w6 eT A E FC (g := mkF m pc Ls (.ref a :: S)) rfl (by show Ls.size = _; rw [C.2.2.2.2.1]; exact hls) rfl (hb C.2.2.2.1 hd) hf (W := W) (by show 2 * 0 + _ ≤ _; omega) hlo (cap := cap) (by omega) hc hsl
  exact (K T' h' h.size X' e' rfl ex ⟨cloneOf cl, A', q1, q2⟩ E').via st
theorem range_drop (vs : List Value) (dv : Value) (i n : Nat) (hn : i + n ≤ vs.length) : ((List.range n).map fun j => vs.getD (i + j) dv) = (vs.drop i).take n := by
  apply List.ext_getElem
  · simp; omega
  · intro j h1 h2
    have h3 : i + j < vs.length := by simp at h1; omega
    simp [List.getD, List.getElem?_eq_getElem h3]
theorem Go.arrcopy (C : Cx p s m meth c Z own nm bytes maxL ret) (X : Stand p l e R s m args below meth c T locs cells slots) {idx : Nat} {a b : Addr} {k k' : ClassId} {ty ty' : FieldType} {vs vd vd' : List Value} {sp dp nn : Int32} {i j n W : Nat} (w1 : (Cond.methodLink own idx Jvm.Stand.acN).before a0 Z = true) (w2 : (Cond.native Jvm.Stand.acN).before a0 Z = true) (w3 : (Cond.static Jvm.Stand.acN).before a0 Z = true) (w4 : (Cond.initialized "java/lang/System").before a0 Z = true) (eT : T.heap = h) (A : AL Z h a k ty vs) (B : AL Z h b k' ty' vd) (hfa : ∀ v ∈ vs, fits ty v = true) (hfb : ∀ v ∈ vd, fits ty' v = true) (hla : vs.length < 2 ^ 31) (hlb : vd.length < 2 ^ 31) (hty : (ty = ty' ∧ refKind ty = false) ∨ (refKind ty = true ∧ refKind ty' = true ∧ StoL Z h b ((vs.drop i).take n))) (h1 : ¬ sp < 0) (h2 : ¬ dp < 0) (h3 : ¬ nn < 0) (hi : sp.toNatClampNeg = i) (hj : dp.toNatClampNeg = j) (hn : nn.toNatClampNeg = n) (h4 : i + n ≤ vs.length) (h5 : j + n ≤ vd.length) (hvd : vd.take j ++ (vs.drop i).take n ++ vd.drop (j + n) = vd') {n0 : Nat} (N : Fr n0 locs) (ge : n0 ≤ b) (hls : Ls.size = maxL) (hf : 1 ≤ R.frames) (hW : (S.map fun v => v.category).sum ≤ W) (hlo : W + (nativeFrameWords "java/lang/System" "arraycopy" 5 + 11) ≤ R.locals) (hd : decode bytes pc = .ok (.invokestatic idx, 3)) (hp : pc + 3 = pc')
    (K : ∀ T' h' L, Stand p l e R s m args below meth c T' L cells slots → T'.heap = h' → Fr n0 L → Keep h h' [b] → AL Z h' b k' ty' vd' → Go p e below Fin' T' (mkF m pc' Ls S)) : Go p e below Fin' T (mkF m pc Ls (.int nn :: .int dp :: .ref b :: .int sp :: .ref a :: S)) := by
  subst hp
  subst hi hj hn hvd
  have za : vs.length.toInt32.toNatClampNeg = vs.length := by simp only [Int32.toNatClampNeg, len_toInt hla]; omega
  have zb : vd.length.toInt32.toNatClampNeg = vd.length := by simp only [Int32.toNatClampNeg, len_toInt hlb]; omega
  have na : ¬ vs.length.toInt32 < 0 := by simp only [Int32.lt_iff_toInt_lt, len_toInt hla, Int32.reduceToInt]; omega
  have nb : ¬ vd.length.toInt32 < 0 := by simp only [Int32.lt_iff_toInt_lt, len_toInt hlb, Int32.reduceToInt]; omega
  have A' : Arv Z h a k ty vs.length.toInt32 vs .null := A.arv na za hfa
  have B' : Arv Z h b k' ty' vd.length.toInt32 vd .null := B.arv nb zb hfb
  obtain ⟨T', h', L, X', e', N', K', R', st⟩ := cpA X C.1 C.2.1 C.2.2.1 w1 w2 w3 w4 eT A' B' hty h1 h2 h3 (by rw [za]; exact h4) (by rw [zb]; exact h5) (range_drop vs .null _ _ h4).symm h5 N ge (g := mkF m pc Ls (.int nn :: .int dp :: .ref b :: .int sp :: .ref a :: S)) rfl (by show Ls.size = _; rw [C.2.2.2.2.1]; exact hls) rfl (hb C.2.2.2.1 hd) hf (W := W) (by show 2 * 0 + _ ≤ _; omega) hlo
  exact (K T' h' L X' e' N' K' (AL.of_arv R' (by rw [zb]; simp; omega))).via st
theorem Go.castY (C : Cx p s m meth c Z own nm bytes maxL ret) (X : Stand p l e R s m args below meth c T locs cells slots) {idx : Nat} {K1 : String} {a : Addr} (w : (Cond.classLink own idx K1).before a0 Z = true) (eT : T.heap = h) (F : Ins Z h a K1 true) (hd : decode bytes pc = .ok (.checkcast idx, 3)) (hp : pc + 3 = pc')
    (K : ∀ T', Stand p l e R s m args below meth c T' locs cells slots → T'.heap = h → Go p e below Fin' T' (mkF m pc' Ls (.ref a :: S))) : Go p e below Fin' T (mkF m pc Ls (.ref a :: S)) := by
  subst hp
  obtain ⟨T', X', e', st⟩ := Jvm.RoadKit.castY X C.1 C.2.1 C.2.2.1 w eT F (g := mkF m pc Ls (.ref a :: S)) rfl rfl (hb C.2.2.2.1 hd)
  exact (K T' X' e').via st
theorem Go.instY (C : Cx p s m meth c Z own nm bytes maxL ret) (X : Stand p l e R s m args below meth c T locs cells slots) {idx : Nat} {K1 : String} {a : Addr} (w : (Cond.classLink own idx K1).before a0 Z = true) (eT : T.heap = h) (F : Ins Z h a K1 true) (hd : decode bytes pc = .ok (.instanceof idx, 3)) (hp : pc + 3 = pc')
    (K : ∀ T', Stand p l e R s m args below meth c T' locs cells slots → T'.heap = h → Go p e below Fin' T' (mkF m pc' Ls (.int 1 :: S))) : Go p e below Fin' T (mkF m pc Ls (.ref a :: S)) := by
  subst hp
  obtain ⟨T', X', e', st⟩ := Jvm.RoadKit.instY X C.1 C.2.1 C.2.2.1 w eT F (g := mkF m pc Ls (.ref a :: S)) rfl rfl (hb C.2.2.2.1 hd)
  exact (K T' X' e').via st
theorem Go.gcls (C : Cx p s m meth c Z own nm bytes maxL ret) (X : Stand p l e R s m args below meth c T locs cells slots) {idx : Nat} {K1 : String} {a mr : Addr} {W : Nat} (w1 : (Cond.methodLink own idx ⟨"java/lang/Object", "getClass", "()Ljava/lang/Class;"⟩).before a0 Z = true) (w2 : (Cond.declares ⟨"java/lang/Object", "getClass", "()Ljava/lang/Class;"⟩).before a0 Z = true) (w3 : (Cond.noSuperclass "java/lang/Object").before a0 Z = true) (w4 : (Cond.selects K1 ⟨"java/lang/Object", "getClass", "()Ljava/lang/Class;"⟩ ⟨"java/lang/Object", "getClass", "()Ljava/lang/Class;"⟩).before a0 Z = true) (w5 : (Cond.instanceMethod ⟨"java/lang/Object", "getClass", "()Ljava/lang/Class;"⟩).before a0 Z = true) (w6 : (Cond.native ⟨"java/lang/Object", "getClass", "()Ljava/lang/Class;"⟩).before a0 Z = true) (eT : T.heap = h) (E : Exa Z h a K1) (M : Mir Z K1 mr) (hls : Ls.size = maxL) (hf : 1 ≤ R.frames) (hW : (S.map fun v => v.category).sum ≤ W) (hlo : W + 14 ≤ R.locals) (hd : decode bytes pc = .ok (.invokevirtual idx, 3)) (hp : pc + 3 = pc')
    (K : ∀ T', Stand p l e R s m args below meth c T' locs cells slots → T'.heap = h → Go p e below Fin' T' (mkF m pc' Ls (.ref mr :: S))) : Go p e below Fin' T (mkF m pc Ls (.ref a :: S)) := by
  subst hp
  obtain ⟨T', X', e', st⟩ := Jvm.RoadKit.gcls X C.1 C.2.1 C.2.2.1 w1 w2 w3 w4 w5 w6 eT E M (g := mkF m pc Ls (.ref a :: S)) rfl (by show Ls.size = _; rw [C.2.2.2.2.1]; exact hls) rfl (hb C.2.2.2.1 hd) hf (W := W) (by show 2 * 0 + _ ≤ _; omega) hlo
  exact (K T' X' e').via st
theorem Go.ldcM (C : Cx p s m meth c Z own nm bytes maxL ret) (X : Stand p l e R s m args below meth c T locs cells slots) {idx : Nat} {K1 : String} {mr : Addr} (w : (Cond.classLink own idx K1).before a0 Z = true) (eT : T.heap = h) (M : Mir Z K1 mr) (hd : decode bytes pc = .ok (.ldc idx, 2)) (hp : pc + 2 = pc')
    (K : ∀ T', Stand p l e R s m args below meth c T' locs cells slots → T'.heap = h → Go p e below Fin' T' (mkF m pc' Ls (.ref mr :: S))) : Go p e below Fin' T (mkF m pc Ls S) := by
  subst hp
  obtain ⟨cc, kc, m1, m2, m3, -⟩ := M
  obtain ⟨k', q, ek⟩ := C.2.1.alike.2.2 _ _ m2
  have f1 : s.vm.findClass K1 = some cc := by rw [C.2.1.alike.findClass]; exact m1
  have f2 : k'.mirror = some mr := by rw [ek]; exact m3
  have hev : (Term.mirror K1).eval args s none [] s = some (.ref mr) := by simp [Term.eval, f1, q, f2]
  obtain ⟨vm', X', st⟩ := X.ldcMirror C.1 C.2.2.1 (mv C.2.1 w) hev (g := mkF m pc Ls S) rfl (hb C.2.2.2.1 hd)
  exact (K _ X' eT).via st
theorem NS.rootI {O K1 : String} {n : Nat} (w : (Cond.noSuperclass O).before a0 Z = true) (wk : (Cond.instantiable K1 n).before a0 Z = true) (hn : O ≠ K1) : NS Z O K1 := by
  obtain ⟨c, k, h1, h2, h3, -, -⟩ := Cond.noSuperclass_spec w
  obtain ⟨t, -, g1, -⟩ := Cond.instantiable_spec wk
  have ne := ids_ne h1 g1 hn
  refine ⟨c, t, h1, g1, fun fuel => ?_⟩
  cases fuel with
  | zero => rfl
  | succ f => simp [Vm.isSubclassAux, ne, h2, h3]
theorem NS.noI {K0 S0 K1 : String} {n : Nat} (w : (Cond.superclass K0 S0).before a0 Z = true) (wk : (Cond.instantiable K1 n).before a0 Z = true) (N : NS Z K0 K1) (hn : K0 ≠ K1) : ∃ c t, Z.vm.findClass K0 = some c ∧ Z.vm.findClass K1 = some t ∧ Z.vm.assignable c t = false := by
  obtain ⟨c, t, h0, g0, n3⟩ := N
  obtain ⟨p, k, kp, h1, h2, h3, h4, h5, -, h7⟩ := Cond.superclass_spec h0 w
  obtain ⟨t', k', g1, g2, g3, g4, -⟩ := Cond.instantiable_spec wk
  cases g0.symm.trans g1
  have ne := ids_ne h0 g0 hn
  have gi : k'.isInterface = false := by
    cases q : k'.isInterface with
    | false => rfl
    | true => simp [q] at g4
  refine ⟨c, t, h0, g0, ?_⟩
  show Z.vm.assignableAux (255 + 1) c t = false
  simp [Vm.assignableAux, ne, h2, g2, h5, g3, gi, Vm.isSubclass, n3]
theorem Go.instNo (C : Cx p s m meth c Z own nm bytes maxL ret) (X : Stand p l e R s m args below meth c T locs cells slots) {idx : Nat} {K1 K2 : String} {a : Addr} (w : (Cond.classLink own idx K1).before a0 Z = true) (eT : T.heap = h) (E : Exa Z h a K2) (F : ∃ c t, Z.vm.findClass K2 = some c ∧ Z.vm.findClass K1 = some t ∧ Z.vm.assignable c t = false) (hd : decode bytes pc = .ok (.instanceof idx, 3)) (hp : pc + 3 = pc')
    (K : ∀ T', Stand p l e R s m args below meth c T' locs cells slots → T'.heap = h → Go p e below Fin' T' (mkF m pc' Ls (.int 0 :: S))) : Go p e below Fin' T (mkF m pc Ls (.ref a :: S)) := by
  subst hp
  obtain ⟨T', X', e', st⟩ := Jvm.RoadKit.instNo X C.1 C.2.1 C.2.2.1 w eT E F (g := mkF m pc Ls (.ref a :: S)) rfl rfl (hb C.2.2.2.1 hd)
  exact (K T' X' e').via st
theorem Go.castNull (C : Cx p s m meth c Z own nm bytes maxL ret) (X : Stand p l e R s m args below meth c T locs cells slots) {idx : Nat}  (hd : decode bytes pc = .ok (.checkcast idx, 3)) (hp : pc + 3 = pc')
    (K : Go p e below Fin' T (mkF m pc' Ls (.null :: S))) : Go p e below Fin' T (mkF m pc Ls (.null :: S)) := by
  subst hp
  exact K.via (X.checkcastNull C.1 (g := mkF m pc Ls (.null :: S)) rfl rfl (hb C.2.2.2.1 hd))
theorem Go.instNull (C : Cx p s m meth c Z own nm bytes maxL ret) (X : Stand p l e R s m args below meth c T locs cells slots) {idx : Nat}  (hd : decode bytes pc = .ok (.instanceof idx, 3)) (hp : pc + 3 = pc')
    (K : Go p e below Fin' T (mkF m pc' Ls (.int 0 :: S))) : Go p e below Fin' T (mkF m pc Ls (.null :: S)) := by
  subst hp
  exact K.via (X.instanceofNull C.1 (g := mkF m pc Ls (.null :: S)) rfl rfl (hb C.2.2.2.1 hd))
theorem Go.stI (C : Cx p s m meth c Z own nm bytes maxL ret) (X : Stand p l e R s m args below meth c T locs cells slots) {a : Addr} {k : ClassId} {vs vs' : List Value} {j : Int32} {i : Nat} {x x' : Int32} (eT : T.heap = h) (F : AL Z h a k .int vs) (hj : ¬ j < 0) (hji : j.toNatClampNeg = i) (hi : i < vs.length) (hx : x = x') (hvs : vs.set i (.int x') = vs') (hd : decode bytes pc = .ok (.iastore, 1)) (hp : pc + 1 = pc')
    (K : ∀ T' h', Stand p l e R s m args below meth c T' (locs ++ [⟨a, i⟩]) cells slots → T'.heap = h' → Wr h h' a i (.int x') → AL Z h' a k .int vs' → Go p e below Fin' T' (mkF m pc' Ls S)) : Go p e below Fin' T (mkF m pc Ls (.int x :: .int j :: .ref a :: S)) := by
  subst hp
  subst hji hvs hx
  have F0 := F
  obtain ⟨cl, A, q1, q2⟩ := F
  obtain ⟨T', h', X', e', W', st⟩ := Jvm.RoadKit.stI X C.1 C.2.1 eT A (j := j) (fun q => q.elim hj fun y => by rw [q2] at y; simp at y; omega) (g := mkF m pc Ls (.int x :: .int j :: .ref a :: S)) rfl rfl (hb C.2.2.2.1 hd)
  exact (K T' h' X' e' W' (F0.set W')).via st
theorem Go.stC (C : Cx p s m meth c Z own nm bytes maxL ret) (X : Stand p l e R s m args below meth c T locs cells slots) {a : Addr} {k : ClassId} {vs vs' : List Value} {j : Int32} {i : Nat} {x x' : Int32} (eT : T.heap = h) (F : AL Z h a k .char vs) (hj : ¬ j < 0) (hji : j.toNatClampNeg = i) (hi : i < vs.length) (hx : (nar .char x) = x') (hvs : vs.set i (.int x') = vs') (hd : decode bytes pc = .ok (.castore, 1)) (hp : pc + 1 = pc')
    (K : ∀ T' h', Stand p l e R s m args below meth c T' (locs ++ [⟨a, i⟩]) cells slots → T'.heap = h' → Wr h h' a i (.int x') → AL Z h' a k .char vs' → Go p e below Fin' T' (mkF m pc' Ls S)) : Go p e below Fin' T (mkF m pc Ls (.int x :: .int j :: .ref a :: S)) := by
  subst hp
  subst hji hvs hx
  have F0 := F
  obtain ⟨cl, A, q1, q2⟩ := F
  obtain ⟨T', h', X', e', W', st⟩ := Jvm.RoadKit.stC X C.1 C.2.1 eT A (j := j) (fun q => q.elim hj fun y => by rw [q2] at y; simp at y; omega) (g := mkF m pc Ls (.int x :: .int j :: .ref a :: S)) rfl rfl (hb C.2.2.2.1 hd)
  exact (K T' h' X' e' W' (F0.set W')).via st
theorem Go.stS (C : Cx p s m meth c Z own nm bytes maxL ret) (X : Stand p l e R s m args below meth c T locs cells slots) {a : Addr} {k : ClassId} {vs vs' : List Value} {j : Int32} {i : Nat} {x x' : Int32} (eT : T.heap = h) (F : AL Z h a k .short vs) (hj : ¬ j < 0) (hji : j.toNatClampNeg = i) (hi : i < vs.length) (hx : (nar .short x) = x') (hvs : vs.set i (.int x') = vs') (hd : decode bytes pc = .ok (.sastore, 1)) (hp : pc + 1 = pc')
    (K : ∀ T' h', Stand p l e R s m args below meth c T' (locs ++ [⟨a, i⟩]) cells slots → T'.heap = h' → Wr h h' a i (.int x') → AL Z h' a k .short vs' → Go p e below Fin' T' (mkF m pc' Ls S)) : Go p e below Fin' T (mkF m pc Ls (.int x :: .int j :: .ref a :: S)) := by
  subst hp
  subst hji hvs hx
  have F0 := F
  obtain ⟨cl, A, q1, q2⟩ := F
  obtain ⟨T', h', X', e', W', st⟩ := Jvm.RoadKit.stS X C.1 C.2.1 eT A (j := j) (fun q => q.elim hj fun y => by rw [q2] at y; simp at y; omega) (g := mkF m pc Ls (.int x :: .int j :: .ref a :: S)) rfl rfl (hb C.2.2.2.1 hd)
  exact (K T' h' X' e' W' (F0.set W')).via st
theorem Go.stB (C : Cx p s m meth c Z own nm bytes maxL ret) (X : Stand p l e R s m args below meth c T locs cells slots) {a : Addr} {k : ClassId} {vs vs' : List Value} {j : Int32} {i : Nat} {x x' : Int32} (eT : T.heap = h) (F : AL Z h a k .byte vs) (hj : ¬ j < 0) (hji : j.toNatClampNeg = i) (hi : i < vs.length) (hx : (nar .byte x) = x') (hvs : vs.set i (.int x') = vs') (hd : decode bytes pc = .ok (.bastore, 1)) (hp : pc + 1 = pc')
    (K : ∀ T' h', Stand p l e R s m args below meth c T' (locs ++ [⟨a, i⟩]) cells slots → T'.heap = h' → Wr h h' a i (.int x') → AL Z h' a k .byte vs' → Go p e below Fin' T' (mkF m pc' Ls S)) : Go p e below Fin' T (mkF m pc Ls (.int x :: .int j :: .ref a :: S)) := by
  subst hp
  subst hji hvs hx
  have F0 := F
  obtain ⟨cl, A, q1, q2⟩ := F
  obtain ⟨T', h', X', e', W', st⟩ := Jvm.RoadKit.stB X C.1 C.2.1 eT A (j := j) (fun q => q.elim hj fun y => by rw [q2] at y; simp at y; omega) (g := mkF m pc Ls (.int x :: .int j :: .ref a :: S)) rfl rfl (hb C.2.2.2.1 hd)
  exact (K T' h' X' e' W' (F0.set W')).via st
theorem Go.stZ (C : Cx p s m meth c Z own nm bytes maxL ret) (X : Stand p l e R s m args below meth c T locs cells slots) {a : Addr} {k : ClassId} {vs vs' : List Value} {j : Int32} {i : Nat} {x x' : Int32} (eT : T.heap = h) (F : AL Z h a k .boolean vs) (hj : ¬ j < 0) (hji : j.toNatClampNeg = i) (hi : i < vs.length) (hx : (nar .boolean x) = x') (hvs : vs.set i (.int x') = vs') (hd : decode bytes pc = .ok (.bastore, 1)) (hp : pc + 1 = pc')
    (K : ∀ T' h', Stand p l e R s m args below meth c T' (locs ++ [⟨a, i⟩]) cells slots → T'.heap = h' → Wr h h' a i (.int x') → AL Z h' a k .boolean vs' → Go p e below Fin' T' (mkF m pc' Ls S)) : Go p e below Fin' T (mkF m pc Ls (.int x :: .int j :: .ref a :: S)) := by
  subst hp
  subst hji hvs hx
  have F0 := F
  obtain ⟨cl, A, q1, q2⟩ := F
  obtain ⟨T', h', X', e', W', st⟩ := Jvm.RoadKit.stZ X C.1 C.2.1 eT A (j := j) (fun q => q.elim hj fun y => by rw [q2] at y; simp at y; omega) (g := mkF m pc Ls (.int x :: .int j :: .ref a :: S)) rfl rfl (hb C.2.2.2.1 hd)
  exact (K T' h' X' e' W' (F0.set W')).via st
theorem Go.stJ (C : Cx p s m meth c Z own nm bytes maxL ret) (X : Stand p l e R s m args below meth c T locs cells slots) {a : Addr} {k : ClassId} {vs vs' : List Value} {j : Int32} {i : Nat} {x x' : Int64} (eT : T.heap = h) (F : AL Z h a k .long vs) (hj : ¬ j < 0) (hji : j.toNatClampNeg = i) (hi : i < vs.length) (hx : x = x') (hvs : vs.set i (.long x') = vs') (hd : decode bytes pc = .ok (.lastore, 1)) (hp : pc + 1 = pc')
    (K : ∀ T' h', Stand p l e R s m args below meth c T' (locs ++ [⟨a, i⟩]) cells slots → T'.heap = h' → Wr h h' a i (.long x') → AL Z h' a k .long vs' → Go p e below Fin' T' (mkF m pc' Ls S)) : Go p e below Fin' T (mkF m pc Ls (.long x :: .int j :: .ref a :: S)) := by
  subst hp
  subst hji hvs hx
  have F0 := F
  obtain ⟨cl, A, q1, q2⟩ := F
  obtain ⟨T', h', X', e', W', st⟩ := Jvm.RoadKit.stJ X C.1 C.2.1 eT A (j := j) (fun q => q.elim hj fun y => by rw [q2] at y; simp at y; omega) (g := mkF m pc Ls (.long x :: .int j :: .ref a :: S)) rfl rfl (hb C.2.2.2.1 hd)
  exact (K T' h' X' e' W' (F0.set W')).via st
theorem Go.stR (C : Cx p s m meth c Z own nm bytes maxL ret) (X : Stand p l e R s m args below meth c T locs cells slots) {a : Addr} {k : ClassId} {ty : FieldType} {vs vs' : List Value} {j : Int32} {i : Nat} {v : Value} (eT : T.heap = h) (F : AL Z h a k ty vs) (hj : ¬ j < 0) (hji : j.toNatClampNeg = i) (hi : i < vs.length) (hty : ty.isReference = true) (Fs : Sto Z h a v) (hvs : vs.set i v = vs') (hd : decode bytes pc = .ok (.aastore, 1)) (hp : pc + 1 = pc')
    (K : ∀ T' h', Stand p l e R s m args below meth c T' (locs ++ [⟨a, i⟩]) cells slots → T'.heap = h' → Wr h h' a i v → AL Z h' a k ty vs' → Go p e below Fin' T' (mkF m pc' Ls S)) : Go p e below Fin' T (mkF m pc Ls (v :: .int j :: .ref a :: S)) := by
  subst hp
  subst hji hvs
  have F0 := F
  obtain ⟨cl, A, q1, q2⟩ := F
  obtain ⟨T', h', X', e', W', st⟩ := Jvm.RoadKit.stR X C.1 C.2.1 eT A (j := j) (fun q => q.elim hj fun y => by rw [q2] at y; simp at y; omega) hty Fs (g := mkF m pc Ls (v :: .int j :: .ref a :: S)) rfl rfl (hb C.2.2.2.1 hd)
  exact (K T' h' X' e' W' (F0.set W')).via st
theorem AL.sto {a y : Addr} {k : ClassId} {ty : FieldType} {vs : List Value} {K1 : String} (F : AL Z h a k ty vs) (O : Ovr Z k K1) (I : Ins Z h y K1 true) : Sto Z h a (.ref y) := by
  obtain ⟨c, A, r, -⟩ := F; exact Sto.ofV A r O I
theorem Go.ldI (C : Cx p s m meth c Z own nm bytes maxL ret) (X : Stand p l e R s m args below meth c T locs cells slots) {a : Addr} {k : ClassId} {vs : List Value} {j : Int32} {i : Nat} {v : Value} (eT : T.heap = h) (F : AL Z h a k .int vs) (hj : ¬ j < 0) (hji : j.toNatClampNeg = i) (hv : vs[i]? = some v) (hd : decode bytes pc = .ok (.iaload, 1)) (hp : pc + 1 = pc')
    (K : Go p e below Fin' T (mkF m pc' Ls (v :: S))) : Go p e below Fin' T (mkF m pc Ls (.int j :: .ref a :: S)) := by
  subst hp
  subst hji
  obtain ⟨cl, A, q1, q2⟩ := F
  have hlt : j.toNatClampNeg < vs.length := (List.getElem?_eq_some_iff.mp hv).1
  exact K.via fun t k => X.iaload C.1 (j := j) (v := v) (by rw [eT]; exact A.1) (State.isArrayOf_alike C.2.1.alike A.2.1) A.2.2 (fun q => q.elim hj fun y => by rw [q2] at y; simp at y; omega) (by rw [q2]; simpa using hv) (g := mkF m pc Ls (.int j :: .ref a :: S)) rfl rfl (hb C.2.2.2.1 hd) t k
theorem Go.ldC (C : Cx p s m meth c Z own nm bytes maxL ret) (X : Stand p l e R s m args below meth c T locs cells slots) {a : Addr} {k : ClassId} {vs : List Value} {j : Int32} {i : Nat} {v : Value} (eT : T.heap = h) (F : AL Z h a k .char vs) (hj : ¬ j < 0) (hji : j.toNatClampNeg = i) (hv : vs[i]? = some v) (hd : decode bytes pc = .ok (.caload, 1)) (hp : pc + 1 = pc')
    (K : Go p e below Fin' T (mkF m pc' Ls (v :: S))) : Go p e below Fin' T (mkF m pc Ls (.int j :: .ref a :: S)) := by
  subst hp
  subst hji
  obtain ⟨cl, A, q1, q2⟩ := F
  have hlt : j.toNatClampNeg < vs.length := (List.getElem?_eq_some_iff.mp hv).1
  exact K.via fun t k => X.caload C.1 (j := j) (v := v) (by rw [eT]; exact A.1) (State.isArrayOf_alike C.2.1.alike A.2.1) A.2.2 (fun q => q.elim hj fun y => by rw [q2] at y; simp at y; omega) (by rw [q2]; simpa using hv) (g := mkF m pc Ls (.int j :: .ref a :: S)) rfl rfl (hb C.2.2.2.1 hd) t k
theorem Go.ldB (C : Cx p s m meth c Z own nm bytes maxL ret) (X : Stand p l e R s m args below meth c T locs cells slots) {a : Addr} {k : ClassId} {vs : List Value} {j : Int32} {i : Nat} {v : Value} (eT : T.heap = h) (F : AL Z h a k .byte vs) (hj : ¬ j < 0) (hji : j.toNatClampNeg = i) (hv : vs[i]? = some v) (hd : decode bytes pc = .ok (.baload, 1)) (hp : pc + 1 = pc')
    (K : Go p e below Fin' T (mkF m pc' Ls (v :: S))) : Go p e below Fin' T (mkF m pc Ls (.int j :: .ref a :: S)) := by
  subst hp
  subst hji
  obtain ⟨cl, A, q1, q2⟩ := F
  have hlt : j.toNatClampNeg < vs.length := (List.getElem?_eq_some_iff.mp hv).1
  exact K.via fun t k => X.baloadBytes C.1 (j := j) (v := v) (by rw [eT]; exact A.1) (State.isArrayOf_alike C.2.1.alike A.2.1) A.2.2 (fun q => q.elim hj fun y => by rw [q2] at y; simp at y; omega) (by rw [q2]; simpa using hv) (g := mkF m pc Ls (.int j :: .ref a :: S)) rfl rfl (hb C.2.2.2.1 hd) t k
theorem Go.ldZ (C : Cx p s m meth c Z own nm bytes maxL ret) (X : Stand p l e R s m args below meth c T locs cells slots) {a : Addr} {k : ClassId} {vs : List Value} {j : Int32} {i : Nat} {v : Value} (eT : T.heap = h) (F : AL Z h a k .boolean vs) (hj : ¬ j < 0) (hji : j.toNatClampNeg = i) (hv : vs[i]? = some v) (hd : decode bytes pc = .ok (.baload, 1)) (hp : pc + 1 = pc')
    (K : Go p e below Fin' T (mkF m pc' Ls (v :: S))) : Go p e below Fin' T (mkF m pc Ls (.int j :: .ref a :: S)) := by
  subst hp
  subst hji
  obtain ⟨cl, A, q1, q2⟩ := F
  have hlt : j.toNatClampNeg < vs.length := (List.getElem?_eq_some_iff.mp hv).1
  exact K.via fun t k => X.baloadBooleans C.1 (j := j) (v := v) (by rw [eT]; exact A.1) (State.isArrayOf_alike C.2.1.alike A.2.1) A.2.2 (fun q => q.elim hj fun y => by rw [q2] at y; simp at y; omega) (by rw [q2]; simpa using hv) (g := mkF m pc Ls (.int j :: .ref a :: S)) rfl rfl (hb C.2.2.2.1 hd) t k
theorem Go.ldJ (C : Cx p s m meth c Z own nm bytes maxL ret) (X : Stand p l e R s m args below meth c T locs cells slots) {a : Addr} {k : ClassId} {vs : List Value} {j : Int32} {i : Nat} {v : Value} (eT : T.heap = h) (F : AL Z h a k .long vs) (hj : ¬ j < 0) (hji : j.toNatClampNeg = i) (hv : vs[i]? = some v) (hd : decode bytes pc = .ok (.laload, 1)) (hp : pc + 1 = pc')
    (K : Go p e below Fin' T (mkF m pc' Ls (v :: S))) : Go p e below Fin' T (mkF m pc Ls (.int j :: .ref a :: S)) := by
  subst hp
  subst hji
  obtain ⟨cl, A, q1, q2⟩ := F
  have hlt : j.toNatClampNeg < vs.length := (List.getElem?_eq_some_iff.mp hv).1
  exact K.via fun t k => X.laload C.1 (j := j) (v := v) (by rw [eT]; exact A.1) (State.isArrayOf_alike C.2.1.alike A.2.1) A.2.2 (fun q => q.elim hj fun y => by rw [q2] at y; simp at y; omega) (by rw [q2]; simpa using hv) (g := mkF m pc Ls (.int j :: .ref a :: S)) rfl rfl (hb C.2.2.2.1 hd) t k
theorem Go.ldR (C : Cx p s m meth c Z own nm bytes maxL ret) (X : Stand p l e R s m args below meth c T locs cells slots) {a : Addr} {k : ClassId} {vs : List Value} {j : Int32} {i : Nat} {v : Value} {ty : FieldType} (eT : T.heap = h) (F : AL Z h a k ty vs) (hj : ¬ j < 0) (hji : j.toNatClampNeg = i) (hv : vs[i]? = some v) (hty : ty.isReference = true) (hd : decode bytes pc = .ok (.aaload, 1)) (hp : pc + 1 = pc')
    (K : Go p e below Fin' T (mkF m pc' Ls (v :: S))) : Go p e below Fin' T (mkF m pc Ls (.int j :: .ref a :: S)) := by
  subst hp
  subst hji
  obtain ⟨cl, A, q1, q2⟩ := F
  have hlt : j.toNatClampNeg < vs.length := (List.getElem?_eq_some_iff.mp hv).1
  exact K.via fun t k => X.aaload C.1 (j := j) (v := v) (by rw [eT]; exact A.1) (State.isArrayOf_alike C.2.1.alike A.2.1) hty A.2.2 (fun q => q.elim hj fun y => by rw [q2] at y; simp at y; omega) (by rw [q2]; simpa using hv) (g := mkF m pc Ls (.int j :: .ref a :: S)) rfl rfl (hb C.2.2.2.1 hd) t k
theorem Go.alen (C : Cx p s m meth c Z own nm bytes maxL ret) (X : Stand p l e R s m args below meth c T locs cells slots) {a : Addr} {k : ClassId} {ty : FieldType} {vs : List Value} {z : Int32} (eT : T.heap = h) (F : AL Z h a k ty vs) (hz : vs.length.toInt32 = z) (hd : decode bytes pc = .ok (.arraylength, 1)) (hp : pc + 1 = pc')
    (K : Go p e below Fin' T (mkF m pc' Ls (.int z :: S))) : Go p e below Fin' T (mkF m pc Ls (.ref a :: S)) := by
  subst hp
  subst hz
  obtain ⟨cl, A, q1, q2⟩ := F
  have q3 : cl.slots.size = vs.length := by rw [q2]; simp
  refine K.via fun t k => X.arraylength C.1 (by rw [eT]; exact A.1) (State.isArrayOf_alike C.2.1.alike A.2.1) (g := mkF m pc Ls (.ref a :: S)) rfl rfl (hb C.2.2.2.1 hd) t ?_
  rw [q3]; exact k
theorem Go.ldcR (C : Cx p s m meth c Z own nm bytes maxL ret) (X : Stand p l e R s m args below meth c T locs cells slots) {idx : Nat} {text : String} {a : Addr} (w : (Cond.stringRef own idx text).before a0 Z = true) (L : Lit Z own idx a) (hd : decode bytes pc = .ok (.ldc idx, 2)) (hp : pc + 2 = pc')
    (K : Go p e below Fin' T (mkF m pc' Ls (.ref a :: S))) : Go p e below Fin' T (mkF m pc Ls S) := by
  subst hp
  exact K.via (Jvm.RoadKit.ldcR X C.1 C.2.1 C.2.2.1 w L (g := mkF m pc Ls S) rfl (hb C.2.2.2.1 hd))
/-! calls -/
theorem Go.initO (C : Cx p s m meth c Z own nm bytes maxL ret) (X : Stand p l e R s m args below meth c T locs cells slots) {idx : Nat} {a : Addr} (w1 : (Cond.methodLink own idx Lib.objectInit).before a0 Z = true) (w2 : (Cond.instanceMethod Lib.objectInit).before a0 Z = true) (w3 : (Cond.code Lib.objectInit ⟨#[0xb1]⟩ 1 none).before a0 Z = true) (eT : T.heap = h) (hls : Ls.size = maxL) (hf : 1 ≤ R.frames) {W : Nat} (hW : (S.map fun v => v.category).sum ≤ W) (hl : W + 12 ≤ R.locals) (hd : decode bytes pc = .ok (.invokespecial idx, 3)) (hp : pc + 3 = pc')
    (K : ∀ T', Stand p l e R s m args below meth c T' locs cells slots → T'.heap = h → Go p e below Fin' T' (mkF m pc' Ls S)) : Go p e below Fin' T (mkF m pc Ls (.ref a :: S)) := by
  subst hp
  obtain ⟨T', X', e', st⟩ := Jvm.RoadKit.initO X C.1 C.2.1 C.2.2.1 w1 w2 w3 eT (g := mkF m pc Ls (.ref a :: S)) rfl (by rw [C.2.2.2.2.1]; exact hls) rfl (hb C.2.2.2.1 hd) hf (W := W) (by show 2 * 0 + _ ≤ _; omega) hl
  exact (K T' X' e').via st
theorem Go.callS (C : Cx p s m meth c Z own nm bytes maxL ret) (X : Stand p l e R s m args below meth c T locs cells slots) {idx : Nat} {y : MethodName} {bytes' : ByteArray} {maxL' : Nat} {ret' : Option FieldType} {rm : Room} {as' : Array Value} {Q' : Option Value → Heap → List Loc → Prop} {argsL rest : List Value} {ps : List FieldType} {r : Option FieldType} {W : Nat} (w1 : (Cond.methodLink own idx y).before a0 Z = true) (w2 : (Cond.static y).before a0 Z = true) (hy : y.cls ≠ "java/lang/invoke/MethodHandle" ∧ y.cls ≠ "java/lang/invoke/VarHandle") (M : Met1 l Z y bytes' maxL' ret' rm as' h Q') (wc : (Cond.code y bytes' maxL' ret').before a0 Z = true) (wz : (Cond.initialized y.cls).before a0 Z = true) (eT : T.heap = h) (hS : S = argsL.reverse ++ rest) (has : (argsL).toArray = as') (pd : parseMethodDescriptor y.desc = some ⟨ps, r⟩) (hlen : argsL.length = ps.length) (hW : (rest.map fun v => v.category).sum ≤ W) (hls : Ls.size = maxL) (hf : rm.frames + 1 ≤ R.frames) (hlo : W + (maxL' + 11) + rm.locals ≤ R.locals) (hc : cells + rm.cells ≤ R.cells) (hs : slots + rm.slots ≤ R.slots) (hd : decode bytes pc = .ok (.invokestatic idx, 3)) (hp : pc + 3 = pc')
    (K : ∀ T' v L, Stand p l e R s m args below meth c T' (locs ++ L) (cells + rm.cells) (slots + rm.slots) → Q' v T'.heap L → Go p e below Fin' T' (mkF m pc' Ls (v.toList ++ rest))) : Go p e below Fin' T (mkF m pc Ls S) := by
  subst hp
  subst hS has
  obtain ⟨v, _, ⟨T', L', k', n'⟩, -, X', ⟨L, hQ, l', y', z'⟩, st⟩ := Jvm.LawKit.callS X C.1 (y := y) C.2.2.1 (mvT C.2.1 w1) (mvT C.2.1 w2) (mvT C.2.1 wz) (mvT C.2.1 wc) hy (backOf (W := W) (M []) C.2.1 wc wz hf hlo) (g := mkF m pc Ls (argsL.reverse ++ rest)) rfl (by show Ls.size = _; rw [C.2.2.2.2.1]; exact hls) (argsL := argsL) (rest := rest) (lenOf pd hlen) rfl (by show 2 * 0 + _ ≤ _; omega) (hb C.2.2.2.1 hd) (fun _ _ => ⟨rfl, eT, hc, hs⟩)
  dsimp only [Pt.U, Pt.locs, Pt.cells, Pt.slots] at X' l' y' z' st hQ
  subst l' y' z'
  exact (K T' v L X' hQ).via st
theorem Go.callI (C : Cx p s m meth c Z own nm bytes maxL ret) (X : Stand p l e R s m args below meth c T locs cells slots) {idx : Nat} {y : MethodName} {a : Addr} {bytes' : ByteArray} {maxL' : Nat} {ret' : Option FieldType} {rm : Room} {as' : Array Value} {Q' : Option Value → Heap → List Loc → Prop} {argsL rest : List Value} {ps : List FieldType} {r : Option FieldType} {W : Nat} (hini : y.name = "<init>") (w1 : (Cond.methodLink own idx y).before a0 Z = true) (w2 : (Cond.instanceMethod y).before a0 Z = true) (hy : y.cls ≠ "java/lang/invoke/MethodHandle" ∧ y.cls ≠ "java/lang/invoke/VarHandle") (M : Met1 l Z y bytes' maxL' ret' rm as' h Q') (wc : (Cond.code y bytes' maxL' ret').before a0 Z = true) (wz : (Cond.initialized y.cls).before a0 Z = true) (eT : T.heap = h) (hS : S = argsL.reverse ++ .ref a :: rest) (has : (.ref a :: argsL).toArray = as') (pd : parseMethodDescriptor y.desc = some ⟨ps, r⟩) (hlen : argsL.length = ps.length) (hW : (rest.map fun v => v.category).sum ≤ W) (hls : Ls.size = maxL) (hf : rm.frames + 1 ≤ R.frames) (hlo : W + (maxL' + 11) + rm.locals ≤ R.locals) (hc : cells + rm.cells ≤ R.cells) (hs : slots + rm.slots ≤ R.slots) (hr0 : ret' = none) (hd : decode bytes pc = .ok (.invokespecial idx, 3)) (hp : pc + 3 = pc')
    (K : ∀ T' v L, Stand p l e R s m args below meth c T' (locs ++ L) (cells + rm.cells) (slots + rm.slots) → Q' v T'.heap L → Go p e below Fin' T' (mkF m pc' Ls (v.toList ++ rest))) : Go p e below Fin' T (mkF m pc Ls S) := by
  subst hp
  subst hr0
  subst hS has
  obtain ⟨v, _, ⟨T', L', k', n'⟩, -, X', ⟨L, hQ, l', y', z'⟩, st⟩ := X.specialBack C.1 (y := y) hini C.2.2.1 (mvT C.2.1 w1) (mvT C.2.1 w2) (mvT C.2.1 wc) hy (backOf (W := W) (M []) C.2.1 wc wz hf hlo) (g := mkF m pc Ls (argsL.reverse ++ .ref a :: rest)) rfl (by show Ls.size = _; rw [C.2.2.2.2.1]; exact hls) (Steps.refl _) (a := a) (argsL := argsL) (rest := rest) (lenOf pd hlen) rfl (by show 2 * 0 + _ ≤ _; omega) (hb C.2.2.2.1 hd) (fun _ _ => ⟨rfl, eT, hc, hs⟩)
  dsimp only [Pt.U, Pt.locs, Pt.cells, Pt.slots] at X' l' y' z' st hQ
  subst l' y' z'
  exact (K T' v L X' hQ).via fun t k => st.trans k
theorem Go.callIN (C : Cx p s m meth c Z own nm bytes maxL ret) (X : Stand p l e R s m args below meth c T locs cells slots) {idx : Nat} {host : String} {y : MethodName} {a : Addr} {bytes' : ByteArray} {maxL' : Nat} {ret' : Option FieldType} {rm : Room} {as' : Array Value} {Q' : Option Value → Heap → List Loc → Prop} {argsL rest : List Value} {ps : List FieldType} {r : Option FieldType} {W : Nat} (hini : y.name = "<init>") (w1 : (Cond.methodLinkNest own idx y host).before a0 Z = true) (w2 : (Cond.instanceMethod y).before a0 Z = true) (hy : y.cls ≠ "java/lang/invoke/MethodHandle" ∧ y.cls ≠ "java/lang/invoke/VarHandle") (M : Met1 l Z y bytes' maxL' ret' rm as' h Q') (wc : (Cond.code y bytes' maxL' ret').before a0 Z = true) (wz : (Cond.initialized y.cls).before a0 Z = true) (eT : T.heap = h) (hS : S = argsL.reverse ++ .ref a :: rest) (has : (.ref a :: argsL).toArray = as') (pd : parseMethodDescriptor y.desc = some ⟨ps, r⟩) (hlen : argsL.length = ps.length) (hW : (rest.map fun v => v.category).sum ≤ W) (hls : Ls.size = maxL) (hf : rm.frames + 1 ≤ R.frames) (hlo : W + (maxL' + 11) + rm.locals ≤ R.locals) (hc : cells + rm.cells ≤ R.cells) (hs : slots + rm.slots ≤ R.slots) (hr0 : ret' = none) (hd : decode bytes pc = .ok (.invokespecial idx, 3)) (hp : pc + 3 = pc')
    (K : ∀ T' v L, Stand p l e R s m args below meth c T' (locs ++ L) (cells + rm.cells) (slots + rm.slots) → Q' v T'.heap L → Go p e below Fin' T' (mkF m pc' Ls (v.toList ++ rest))) : Go p e below Fin' T (mkF m pc Ls S) := by
  subst hp
  subst hr0
  have w1' : (Cond.methodLinkNest own idx y host).before args s = true := (Cond.methodLinkNest_wide C.2.1 w1 :)
  subst hS has
  obtain ⟨v, _, ⟨T', L', k', n'⟩, -, X', ⟨L, hQ, l', y', z'⟩, st⟩ := X.specialBackNest C.1 (y := y) hini C.2.2.1 w1' (mvT C.2.1 w2) (mvT C.2.1 wc) hy (backOf (W := W) (M []) C.2.1 wc wz hf hlo) (g := mkF m pc Ls (argsL.reverse ++ .ref a :: rest)) rfl (by show Ls.size = _; rw [C.2.2.2.2.1]; exact hls) (Steps.refl _) (a := a) (argsL := argsL) (rest := rest) (lenOf pd hlen) rfl (by show 2 * 0 + _ ≤ _; omega) (hb C.2.2.2.1 hd) (fun _ _ => ⟨rfl, eT, hc, hs⟩)
  dsimp only [Pt.U, Pt.locs, Pt.cells, Pt.slots] at X' l' y' z' st hQ
  subst l' y' z'
  exact (K T' v L X' hQ).via fun t k => st.trans k
theorem Go.callP (C : Cx p s m meth c Z own nm bytes maxL ret) (X : Stand p l e R s m args below meth c T locs cells slots) {idx : Nat} {y : MethodName} {a : Addr} {K1 : String} {bytes' : ByteArray} {maxL' : Nat} {ret' : Option FieldType} {rm : Room} {as' : Array Value} {Q' : Option Value → Heap → List Loc → Prop} {argsL rest : List Value} {ps : List FieldType} {r : Option FieldType} {W : Nat} (w1 : (Cond.methodLink own idx y).before a0 Z = true) (w2 : (Cond.instanceMethod y).before a0 Z = true) (w3 : (Cond.selects y.cls y y).before a0 Z = true) (w4 : (Cond.privateMethod y).before a0 Z = true) (E : Exa Z h a K1) (hy : y.cls ≠ "java/lang/invoke/MethodHandle" ∧ y.cls ≠ "java/lang/invoke/VarHandle") (M : Met1 l Z y bytes' maxL' ret' rm as' h Q') (wc : (Cond.code y bytes' maxL' ret').before a0 Z = true) (wz : (Cond.initialized y.cls).before a0 Z = true) (eT : T.heap = h) (hS : S = argsL.reverse ++ .ref a :: rest) (has : (.ref a :: argsL).toArray = as') (pd : parseMethodDescriptor y.desc = some ⟨ps, r⟩) (hlen : argsL.length = ps.length) (hW : (rest.map fun v => v.category).sum ≤ W) (hls : Ls.size = maxL) (hf : rm.frames + 1 ≤ R.frames) (hlo : W + (maxL' + 11) + rm.locals ≤ R.locals) (hc : cells + rm.cells ≤ R.cells) (hs : slots + rm.slots ≤ R.slots) (hd : decode bytes pc = .ok (.invokevirtual idx, 3)) (hp : pc + 3 = pc')
    (K : ∀ T' v L, Stand p l e R s m args below meth c T' (locs ++ L) (cells + rm.cells) (slots + rm.slots) → Q' v T'.heap L → Go p e below Fin' T' (mkF m pc' Ls (v.toList ++ rest))) : Go p e below Fin' T (mkF m pc Ls S) := by
  subst hp
  obtain ⟨cq, q1, q2⟩ := E.cell
  subst hS has
  obtain ⟨v, _, ⟨T', L', k', n'⟩, -, X', ⟨L, hQ, l', y', z'⟩, st⟩ := X.privateBack C.1 (y := y) C.2.2.1 (mvT C.2.1 w1) (mvT C.2.1 w2) (mvT C.2.1 w3) (Cond.privateMethod_at (mvP C.2.1 w4 (args := #[]))) (mvT C.2.1 wc) hy (backOf (W := W) (M []) C.2.1 wc wz hf hlo) (g := mkF m pc Ls (argsL.reverse ++ .ref a :: rest)) rfl (by show Ls.size = _; rw [C.2.2.2.2.1]; exact hls) (Steps.refl _) (a := a) (by rw [eT]; exact q1) q2 (argsL := argsL) (rest := rest) (lenOf pd hlen) rfl (by show 2 * 0 + _ ≤ _; omega) (hb C.2.2.2.1 hd) (fun _ _ => ⟨rfl, eT, hc, hs⟩)
  dsimp only [Pt.U, Pt.locs, Pt.cells, Pt.slots] at X' l' y' z' st hQ
  subst l' y' z'
  exact (K T' v L X' hQ).via fun t k => st.trans k
theorem Go.callV (C : Cx p s m meth c Z own nm bytes maxL ret) (X : Stand p l e R s m args below meth c T locs cells slots) {idx : Nat} {y z : MethodName} {a : Addr} {K1 : String} {bytes' : ByteArray} {maxL' : Nat} {ret' : Option FieldType} {rm : Room} {as' : Array Value} {Q' : Option Value → Heap → List Loc → Prop} {argsL rest : List Value} {ps : List FieldType} {r : Option FieldType} {W : Nat} (w1 : (Cond.methodLink own idx y).before a0 Z = true) (w2 : (Cond.declares y).before a0 Z = true) (hnf : NotFace s y) (w3 : (Cond.selects K1 y z).before a0 Z = true) (w4 : (Cond.instanceMethod z).before a0 Z = true) (E : Exa Z h a K1) (hy : y.cls ≠ "java/lang/invoke/MethodHandle" ∧ y.cls ≠ "java/lang/invoke/VarHandle") (M : Met1 l Z z bytes' maxL' ret' rm as' h Q') (wc : (Cond.code z bytes' maxL' ret').before a0 Z = true) (wz : (Cond.initialized z.cls).before a0 Z = true) (eT : T.heap = h) (hS : S = argsL.reverse ++ .ref a :: rest) (has : (.ref a :: argsL).toArray = as') (pd : parseMethodDescriptor y.desc = some ⟨ps, r⟩) (hlen : argsL.length = ps.length) (hW : (rest.map fun v => v.category).sum ≤ W) (hls : Ls.size = maxL) (hf : rm.frames + 1 ≤ R.frames) (hlo : W + (maxL' + 11) + rm.locals ≤ R.locals) (hc : cells + rm.cells ≤ R.cells) (hs : slots + rm.slots ≤ R.slots) (hd : decode bytes pc = .ok (.invokevirtual idx, 3)) (hp : pc + 3 = pc')
    (K : ∀ T' v L, Stand p l e R s m args below meth c T' (locs ++ L) (cells + rm.cells) (slots + rm.slots) → Q' v T'.heap L → Go p e below Fin' T' (mkF m pc' Ls (v.toList ++ rest))) : Go p e below Fin' T (mkF m pc Ls S) := by
  subst hp
  obtain ⟨cq, kq, qa, qb, qc⟩ := isOf C.2.1 eT E
  subst hS has
  obtain ⟨v, _, ⟨T', L', k', n'⟩, -, X', ⟨L, hQ, l', y', z'⟩, st⟩ := X.virtualBack C.1 (y := y) (z := z) C.2.2.1 (mvT C.2.1 w1) (mvT C.2.1 w2) hnf (mvT C.2.1 w3) (mvT C.2.1 w4) hy (backOf (W := W) (M []) C.2.1 wc wz hf hlo) qa qc (g := mkF m pc Ls (argsL.reverse ++ .ref a :: rest)) rfl (by show Ls.size = _; rw [C.2.2.2.2.1]; exact hls) (Steps.refl _) (argsL := argsL) (rest := rest) (lenOf pd hlen) rfl (by show 2 * 0 + _ ≤ _; omega) (hb C.2.2.2.1 hd) (fun _ _ => ⟨rfl, eT, hc, hs⟩)
  dsimp only [Pt.U, Pt.locs, Pt.cells, Pt.slots] at X' l' y' z' st hQ
  subst l' y' z'
  exact (K T' v L X' hQ).via fun t k => st.trans k
theorem Go.callF (C : Cx p s m meth c Z own nm bytes maxL ret) (X : Stand p l e R s m args below meth c T locs cells slots) {idx count : Nat} {y z : MethodName} {a : Addr} {K1 : String} {bytes' : ByteArray} {maxL' : Nat} {ret' : Option FieldType} {rm : Room} {as' : Array Value} {Q' : Option Value → Heap → List Loc → Prop} {argsL rest : List Value} {ps : List FieldType} {r : Option FieldType} {W : Nat} (w1 : (Cond.methodLink own idx y).before a0 Z = true) (w2 : (Cond.declares y).before a0 Z = true) (w3 : (Cond.interfaceMethod y.cls y.cls y.name y.desc).before a0 Z = true) (w4 : (Cond.selects K1 y z).before a0 Z = true) (w5 : (Cond.instanceMethod z).before a0 Z = true) (w6 : (Cond.publicMethod z).before a0 Z = true) (w7 : (Cond.unhidden K1 y.name y.desc).before a0 Z = true) (w8 : (Cond.castable K1 y.cls).before a0 Z = true) (hfa : ((Cond.interfaceMethod y.cls y.cls y.name y.desc).onTables && (Cond.interfaceMethod y.cls y.cls y.name y.desc).keepsFace) = true) (E : Exa Z h a K1) (hy : y.cls ≠ "java/lang/invoke/MethodHandle" ∧ y.cls ≠ "java/lang/invoke/VarHandle") (M : Met1 l Z z bytes' maxL' ret' rm as' h Q') (wc : (Cond.code z bytes' maxL' ret').before a0 Z = true) (wz : (Cond.initialized z.cls).before a0 Z = true) (eT : T.heap = h) (hS : S = argsL.reverse ++ .ref a :: rest) (has : (.ref a :: argsL).toArray = as') (pd : parseMethodDescriptor y.desc = some ⟨ps, r⟩) (hlen : argsL.length = ps.length) (hW : (rest.map fun v => v.category).sum ≤ W) (hls : Ls.size = maxL) (hf : rm.frames + 1 ≤ R.frames) (hlo : W + (maxL' + 11) + rm.locals ≤ R.locals) (hc : cells + rm.cells ≤ R.cells) (hs : slots + rm.slots ≤ R.slots) (hd : decode bytes pc = .ok (.invokeinterface idx count, 5)) (hp : pc + 5 = pc')
    (K : ∀ T' v L, Stand p l e R s m args below meth c T' (locs ++ L) (cells + rm.cells) (slots + rm.slots) → Q' v T'.heap L → Go p e below Fin' T' (mkF m pc' Ls (v.toList ++ rest))) : Go p e below Fin' T (mkF m pc Ls S) := by
  subst hp
  obtain ⟨cq, kq, qa, qb, qc⟩ := isOf C.2.1 eT E
  subst hS has
  obtain ⟨v, _, ⟨T', L', k', n'⟩, -, X', ⟨L, hQ, l', y', z'⟩, st⟩ := X.interfaceBack C.1 (xi := y) (y := z) C.2.2.1 (mvT C.2.1 w1) (mvT C.2.1 w2) (mvT C.2.1 w3 hfa) (mvT C.2.1 w4) (mvT C.2.1 w5) (mvT C.2.1 w6) (mvT C.2.1 w7) (mvT C.2.1 w8) hy (backOf (W := W) (M []) C.2.1 wc wz hf hlo) qa qb qc (g := mkF m pc Ls (argsL.reverse ++ .ref a :: rest)) rfl (by show Ls.size = _; rw [C.2.2.2.2.1]; exact hls) (Steps.refl _) (argsL := argsL) (rest := rest) (lenOf pd hlen) rfl (by show 2 * 0 + _ ≤ _; omega) (hb C.2.2.2.1 hd) (fun _ _ => ⟨rfl, eT, hc, hs⟩)
  dsimp only [Pt.U, Pt.locs, Pt.cells, Pt.slots] at X' l' y' z' st hQ
  subst l' y' z'
  exact (K T' v L X' hQ).via fun t k => st.trans k
theorem notFace_at {y : MethodName} {K1 : String} (hZ : Z.Warmed39 s.vm) (w : (Cond.selects K1 y y).before a0 Z = true) : NotFace s y := notFace_of_selects (args := #[]) (mvT hZ w)
end Own
end Jvm.RoadKit

namespace Jvm.RoadKit
open Sem ClassFile Op Lib Jvm.Stand Jvm.Free Jvm.LawKit
section OwnW
variable {p : Program} {l : Launch} {e : Env} {R : Room} {s : State} {m : MethodId} {args : Array Value} {below : List Frame} {meth : Method} {c : Code} {T : State} {locs : List Loc} {cells slots : Nat} {Z : State} {a0 : Array Value} {h : Heap}
variable {RC RS : Nat} {Q : Option Value → Heap → List Loc → Prop} {Fin' : Outcome → State → Prop} {own nm : String} {bytes : ByteArray} {maxL : Nat} {ret : Option FieldType} {pc pc' : Nat} {Ls Ls' : Array Slot} {S : List Value}
/-- sC is s but for its tables, which have grown as the run may let them; h: the heap now -/
def Sin (s sC : State) (h : Heap) : Prop := ∃ (vm : Vm) (k : Nat), sC = s.setVm vm ∧ s.Since vm k ∧ k ≤ h.size
theorem Sin.start (s : State) (h : Heap) : Sin s s h := ⟨s.vm, 0, rfl, (State.WarmedH.refl s).since 0, Nat.zero_le _⟩
theorem Sin.mono {sC : State} {h1 h2 : Heap} (Si : Sin s sC h1) (q : h1.size ≤ h2.size) : Sin s sC h2 := by obtain ⟨vm, k, a, b, c⟩ := Si; exact ⟨vm, k, a, b, Nat.le_trans c q⟩
theorem Cx.move {vm' : Vm} (C : Cx p s m meth c Z own nm bytes maxL ret) (hW : s.Warmed39 vm') : Cx p (s.setVm vm') m meth c Z own nm bytes maxL ret :=
  ⟨C.1, State.Warmed39.trans C.2.1 hW, by rw [show (s.setVm vm').vm = vm' from rfl, hW.alike.findClass]; exact C.2.2.1, C.2.2.2⟩
def FnW (s : State) (RC RS : Nat) (Q : Option Value → Heap → List Loc → Prop) (o : Outcome) (t : State) : Prop := ∃ v L, o = .returned v ∧ Q v t.heap L ∧ ReturnedEndW s o t L RC RS
def Met1W (l : Launch) (Z : State) (y : MethodName) (bytes : ByteArray) (maxL : Nat) (ret : Option FieldType) (rm : Room) (as' : Array Value) (h0 : Heap) (Q : Option Value → Heap → List Loc → Prop) : Prop :=
  ∀ ws : List Jvm.Cond, MetFree l y (head1 (Jvm.Cond.code y bytes maxL ret :: ws) rm) (fun a U => a = as' ∧ Z.Warmed39 U.vm ∧ U.heap = h0) (fun _ _ _ _ _ => True) (fun _ U o U' => ∃ v L, o = .returned v ∧ Q v U'.heap L ∧ ReturnedEndW U o U' L rm.cells rm.slots)
theorem Met1W.of_body {y : MethodName} {rm : Room} {as' : Array Value} {h0 : Heap} (hp : plainFor y = true) (ef : ∀ m, entryFrame m as' maxL = mkF m 0 Ls [])
    (body : ∀ {p : Program} {e : Env} {s : State} {m : MethodId} {below : List Frame} {meth : Method} {c : Code} {T : State}, Cx p s m meth c Z y.cls y.name bytes maxL ret → Stand p l e rm s m as' below meth c T [] 0 0 → T.heap = h0 → Go p e below (FnW s rm.cells rm.slots Q) T (mkF m 0 Ls [])) :
    Met1W l Z y bytes maxL ret rm as' h0 Q := by
  intro ws
  refine MetFree.of_bodySF hp hisR ?_
  intro p e s m args below meth c s₁ Bd hml0 hP hK
  obtain ⟨rfl, hZ, hh⟩ := hP
  have X0 : Stand p l e rm s m args below meth c s₁ [] 0 0 := Stand.of_body Bd
  have hlk : meth.locks = false := BodyLoose.notSynchronized Bd
  obtain ⟨s₂, o, st, r1, r2, r3⟩ := body (p := p) (e := e) (s := s) (m := m) (below := below) (meth := meth) (c := c) (T := s₁) ⟨Bd.exec, hZ, findClass_of_methodNamed Bd.named, Bd.bytes, hml0, Bd.returns, (name_of_methodNamed Bd.named Bd.method).1, hlk⟩ X0 (by rw [← hh, Bd.state]; rfl)
  exact ⟨s₂, o, castTop (ef m) st, r1, r2, r3⟩
theorem Go.ldcW {sC : State} (C : Cx p sC m meth c Z own nm bytes maxL ret) (X : Stand p l e R sC m args below meth c T locs cells slots) (Si : Sin s sC h) {idx n : Nat} {text : String} (w : (Cond.stringLink own idx text).before a0 Z = true) (wS : ∀ a ∈ Bundle.stringAtoms, a.before a0 Z = true) (eT : T.heap = h) (hn : 4 * text.toList.length ≤ n) (hbig : n ≤ 536870912) (hc : cells + 2 ≤ R.cells) (hl : slots + (n + 4) ≤ R.slots) (hd : decode bytes pc = .ok (.ldc idx, 2)) (hp : pc + 2 = pc')
    (K : ∀ T' h' a sC', Cx p sC' m meth c Z own nm bytes maxL ret → Stand p l e R sC' m args below meth c T' locs (cells + 2) (slots + (n + 4)) → T'.heap = h' → Sin s sC' h' → Ext h h' → Go p e below Fin' T' (mkF m pc' Ls (.ref a :: S))) : Go p e below Fin' T (mkF m pc Ls S) := by
  subst hp
  obtain ⟨vm0, k0, rfl, hS, hk⟩ := Si
  obtain ⟨a, T', h', k1, X', e', E', hS', hk', hW', hf', st⟩ := Jvm.RoadKit.ldcS X C.1 C.2.1 C.2.2.1 w wS eT hS hk (g := mkF m pc Ls S) rfl (hb C.2.2.2.1 hd) hn hbig hc hl
  exact (K T' h' a (s.setVm T'.vm) ⟨C.1, hW', hf', C.2.2.2⟩ X' e' ⟨T'.vm, k1, rfl, hS', hk'⟩ E').via st
theorem Go.callSW {sC : State} (C : Cx p sC m meth c Z own nm bytes maxL ret) (X : Stand p l e R sC m args below meth c T locs cells slots) (Si : Sin s sC h) {idx : Nat} {y : MethodName} {bytes' : ByteArray} {maxL' : Nat} {ret' : Option FieldType} {rm : Room} {as' : Array Value} {Q' : Option Value → Heap → List Loc → Prop} {argsL rest : List Value} {ps : List FieldType} {r : Option FieldType} {W : Nat} (w1 : (Cond.methodLink own idx y).before a0 Z = true) (w2 : (Cond.static y).before a0 Z = true) (hy : y.cls ≠ "java/lang/invoke/MethodHandle" ∧ y.cls ≠ "java/lang/invoke/VarHandle") (M : Met1W l Z y bytes' maxL' ret' rm as' h Q') (wc : (Cond.code y bytes' maxL' ret').before a0 Z = true) (wz : (Cond.initialized y.cls).before a0 Z = true) (eT : T.heap = h) (hS : S = argsL.reverse ++ rest) (has : (argsL).toArray = as') (pd : parseMethodDescriptor y.desc = some ⟨ps, r⟩) (hlen : argsL.length = ps.length) (hW : (rest.map fun v => v.category).sum ≤ W) (hls : Ls.size = maxL) (hf : rm.frames + 1 ≤ R.frames) (hlo : W + (maxL' + 11) + rm.locals ≤ R.locals) (hc : cells + rm.cells ≤ R.cells) (hs : slots + rm.slots ≤ R.slots) (hd : decode bytes pc = .ok (.invokestatic idx, 3)) (hp : pc + 3 = pc')
    (K : ∀ T' v L sC', Cx p sC' m meth c Z own nm bytes maxL ret → Stand p l e R sC' m args below meth c T' (locs ++ L) (cells + rm.cells) (slots + rm.slots) → Sin s sC' T'.heap → Q' v T'.heap L → Go p e below Fin' T' (mkF m pc' Ls (v.toList ++ rest))) : Go p e below Fin' T (mkF m pc Ls S) := by
  subst hp
  subst hS has
  obtain ⟨vm0, k0, rfl, hS0, hk0⟩ := Si
  obtain ⟨v, _, ⟨T', L', k', n'⟩, -, X', hS2, hg2, ⟨L, hQ, l', y', z'⟩, st⟩ := Jvm.RoadKit.callSS X C.1 (y := y) C.2.2.1 (mvT C.2.1 w1) (mvT C.2.1 w2) (mvT C.2.1 wz) (mvT C.2.1 wc) hy (backOfS (W := W) (M []) C.2.1 wc wz hf hlo) (g := mkF m pc Ls (argsL.reverse ++ rest)) rfl (by show Ls.size = _; rw [C.2.2.2.2.1]; exact hls) (argsL := argsL) (rest := rest) (lenOf pd hlen) rfl (by show 2 * 0 + _ ≤ _; omega) (hb C.2.2.2.1 hd) (fun _ _ => ⟨rfl, eT, hc, hs⟩)
  dsimp only [Pt.U, Pt.locs, Pt.cells, Pt.slots] at X' hS2 hg2 l' y' z' st hQ
  subst l' y' z'
  exact (K T' v L (s.setVm T'.vm) (C.move hS2.1) X' ⟨T'.vm, T'.heap.size, rfl, foldS hS0 (by rw [eT]; exact hk0) hS2 hg2, Nat.le_refl _⟩ hQ).via fun t k => st.trans k
theorem Go.callIW {sC : State} (C : Cx p sC m meth c Z own nm bytes maxL ret) (X : Stand p l e R sC m args below meth c T locs cells slots) (Si : Sin s sC h) {idx : Nat} {y : MethodName} {a : Addr} {bytes' : ByteArray} {maxL' : Nat} {ret' : Option FieldType} {rm : Room} {as' : Array Value} {Q' : Option Value → Heap → List Loc → Prop} {argsL rest : List Value} {ps : List FieldType} {r : Option FieldType} {W : Nat} (hini : y.name = "<init>") (w1 : (Cond.methodLink own idx y).before a0 Z = true) (w2 : (Cond.instanceMethod y).before a0 Z = true) (hy : y.cls ≠ "java/lang/invoke/MethodHandle" ∧ y.cls ≠ "java/lang/invoke/VarHandle") (M : Met1W l Z y bytes' maxL' ret' rm as' h Q') (wc : (Cond.code y bytes' maxL' ret').before a0 Z = true) (wz : (Cond.initialized y.cls).before a0 Z = true) (eT : T.heap = h) (hS : S = argsL.reverse ++ .ref a :: rest) (has : (.ref a :: argsL).toArray = as') (pd : parseMethodDescriptor y.desc = some ⟨ps, r⟩) (hlen : argsL.length = ps.length) (hW : (rest.map fun v => v.category).sum ≤ W) (hls : Ls.size = maxL) (hf : rm.frames + 1 ≤ R.frames) (hlo : W + (maxL' + 11) + rm.locals ≤ R.locals) (hc : cells + rm.cells ≤ R.cells) (hs : slots + rm.slots ≤ R.slots) (hr0 : ret' = none) (hd : decode bytes pc = .ok (.invokespecial idx, 3)) (hp : pc + 3 = pc')
    (K : ∀ T' v L sC', Cx p sC' m meth c Z own nm bytes maxL ret → Stand p l e R sC' m args below meth c T' (locs ++ L) (cells + rm.cells) (slots + rm.slots) → Sin s sC' T'.heap → Q' v T'.heap L → Go p e below Fin' T' (mkF m pc' Ls (v.toList ++ rest))) : Go p e below Fin' T (mkF m pc Ls S) := by
  subst hp
  subst hr0
  subst hS has
  obtain ⟨vm0, k0, rfl, hS0, hk0⟩ := Si
  obtain ⟨v, _, ⟨T', L', k', n'⟩, -, X', hS2, hg2, ⟨L, hQ, l', y', z'⟩, st⟩ := X.specialBackS C.1 (y := y) hini C.2.2.1 (mvT C.2.1 w1) (mvT C.2.1 w2) (mvT C.2.1 wc) hy (backOfS (W := W) (M []) C.2.1 wc wz hf hlo) (g := mkF m pc Ls (argsL.reverse ++ .ref a :: rest)) rfl (by show Ls.size = _; rw [C.2.2.2.2.1]; exact hls) (Steps.refl _) (a := a) (argsL := argsL) (rest := rest) (lenOf pd hlen) rfl (by show 2 * 0 + _ ≤ _; omega) (hb C.2.2.2.1 hd) (fun _ _ => ⟨rfl, eT, hc, hs⟩)
  dsimp only [Pt.U, Pt.locs, Pt.cells, Pt.slots] at X' hS2 hg2 l' y' z' st hQ
  subst l' y' z'
  exact (K T' v L (s.setVm T'.vm) (C.move hS2.1) X' ⟨T'.vm, T'.heap.size, rfl, foldS hS0 (by rw [eT]; exact hk0) hS2 hg2, Nat.le_refl _⟩ hQ).via fun t k => st.trans k
theorem Go.callPW {sC : State} (C : Cx p sC m meth c Z own nm bytes maxL ret) (X : Stand p l e R sC m args below meth c T locs cells slots) (Si : Sin s sC h) {idx : Nat} {y : MethodName} {a : Addr} {K1 : String} {bytes' : ByteArray} {maxL' : Nat} {ret' : Option FieldType} {rm : Room} {as' : Array Value} {Q' : Option Value → Heap → List Loc → Prop} {argsL rest : List Value} {ps : List FieldType} {r : Option FieldType} {W : Nat} (w1 : (Cond.methodLink own idx y).before a0 Z = true) (w2 : (Cond.instanceMethod y).before a0 Z = true) (w3 : (Cond.selects y.cls y y).before a0 Z = true) (w4 : (Cond.privateMethod y).before a0 Z = true) (E : Exa Z h a K1) (hy : y.cls ≠ "java/lang/invoke/MethodHandle" ∧ y.cls ≠ "java/lang/invoke/VarHandle") (M : Met1W l Z y bytes' maxL' ret' rm as' h Q') (wc : (Cond.code y bytes' maxL' ret').before a0 Z = true) (wz : (Cond.initialized y.cls).before a0 Z = true) (eT : T.heap = h) (hS : S = argsL.reverse ++ .ref a :: rest) (has : (.ref a :: argsL).toArray = as') (pd : parseMethodDescriptor y.desc = some ⟨ps, r⟩) (hlen : argsL.length = ps.length) (hW : (rest.map fun v => v.category).sum ≤ W) (hls : Ls.size = maxL) (hf : rm.frames + 1 ≤ R.frames) (hlo : W + (maxL' + 11) + rm.locals ≤ R.locals) (hc : cells + rm.cells ≤ R.cells) (hs : slots + rm.slots ≤ R.slots) (hd : decode bytes pc = .ok (.invokevirtual idx, 3)) (hp : pc + 3 = pc')
    (K : ∀ T' v L sC', Cx p sC' m meth c Z own nm bytes maxL ret → Stand p l e R sC' m args below meth c T' (locs ++ L) (cells + rm.cells) (slots + rm.slots) → Sin s sC' T'.heap → Q' v T'.heap L → Go p e below Fin' T' (mkF m pc' Ls (v.toList ++ rest))) : Go p e below Fin' T (mkF m pc Ls S) := by
  subst hp
  subst hS has
  obtain ⟨cq, q1, q2⟩ := E.cell
  obtain ⟨vm0, k0, rfl, hS0, hk0⟩ := Si
  obtain ⟨v, _, ⟨T', L', k', n'⟩, -, X', hS2, hg2, ⟨L, hQ, l', y', z'⟩, st⟩ := privateBackS X C.1 (y := y) C.2.2.1 (mvT C.2.1 w1) (mvT C.2.1 w2) (mvT C.2.1 w3) (Cond.privateMethod_at (mvP C.2.1 w4 (args := #[]))) (mvT C.2.1 wc) hy (backOfS (W := W) (M []) C.2.1 wc wz hf hlo) (g := mkF m pc Ls (argsL.reverse ++ .ref a :: rest)) rfl (by show Ls.size = _; rw [C.2.2.2.2.1]; exact hls) (Steps.refl _) (a := a) (by rw [eT]; exact q1) q2 (argsL := argsL) (rest := rest) (lenOf pd hlen) rfl (by show 2 * 0 + _ ≤ _; omega) (hb C.2.2.2.1 hd) (fun _ _ => ⟨rfl, eT, hc, hs⟩)
  dsimp only [Pt.U, Pt.locs, Pt.cells, Pt.slots] at X' hS2 hg2 l' y' z' st hQ
  subst l' y' z'
  exact (K T' v L (s.setVm T'.vm) (C.move hS2.1) X' ⟨T'.vm, T'.heap.size, rfl, foldS hS0 (by rw [eT]; exact hk0) hS2 hg2, Nat.le_refl _⟩ hQ).via fun t k => st.trans k
theorem Go.callVW {sC : State} (C : Cx p sC m meth c Z own nm bytes maxL ret) (X : Stand p l e R sC m args below meth c T locs cells slots) (Si : Sin s sC h) {idx : Nat} {y z : MethodName} {a : Addr} {K1 : String} {bytes' : ByteArray} {maxL' : Nat} {ret' : Option FieldType} {rm : Room} {as' : Array Value} {Q' : Option Value → Heap → List Loc → Prop} {argsL rest : List Value} {ps : List FieldType} {r : Option FieldType} {W : Nat} (w1 : (Cond.methodLink own idx y).before a0 Z = true) (w2 : (Cond.declares y).before a0 Z = true) (hnf : NotFace sC y) (w3 : (Cond.selects K1 y z).before a0 Z = true) (w4 : (Cond.instanceMethod z).before a0 Z = true) (E : Exa Z h a K1) (hy : y.cls ≠ "java/lang/invoke/MethodHandle" ∧ y.cls ≠ "java/lang/invoke/VarHandle") (M : Met1W l Z z bytes' maxL' ret' rm as' h Q') (wc : (Cond.code z bytes' maxL' ret').before a0 Z = true) (wz : (Cond.initialized z.cls).before a0 Z = true) (eT : T.heap = h) (hS : S = argsL.reverse ++ .ref a :: rest) (has : (.ref a :: argsL).toArray = as') (pd : parseMethodDescriptor y.desc = some ⟨ps, r⟩) (hlen : argsL.length = ps.length) (hW : (rest.map fun v => v.category).sum ≤ W) (hls : Ls.size = maxL) (hf : rm.frames + 1 ≤ R.frames) (hlo : W + (maxL' + 11) + rm.locals ≤ R.locals) (hc : cells + rm.cells ≤ R.cells) (hs : slots + rm.slots ≤ R.slots) (hd : decode bytes pc = .ok (.invokevirtual idx, 3)) (hp : pc + 3 = pc')
    (K : ∀ T' v L sC', Cx p sC' m meth c Z own nm bytes maxL ret → Stand p l e R sC' m args below meth c T' (locs ++ L) (cells + rm.cells) (slots + rm.slots) → Sin s sC' T'.heap → Q' v T'.heap L → Go p e below Fin' T' (mkF m pc' Ls (v.toList ++ rest))) : Go p e below Fin' T (mkF m pc Ls S) := by
  subst hp
  subst hS has
  obtain ⟨cq, kq, qa, qb, qc⟩ := isOf C.2.1 eT E
  obtain ⟨vm0, k0, rfl, hS0, hk0⟩ := Si
  obtain ⟨v, _, ⟨T', L', k', n'⟩, -, X', hS2, hg2, ⟨L, hQ, l', y', z'⟩, st⟩ := X.virtualBackS C.1 (y := y) (z := z) C.2.2.1 (mvT C.2.1 w1) (mvT C.2.1 w2) hnf (mvT C.2.1 w3) (mvT C.2.1 w4) hy (backOfS (W := W) (M []) C.2.1 wc wz hf hlo) qa qc (g := mkF m pc Ls (argsL.reverse ++ .ref a :: rest)) rfl (by show Ls.size = _; rw [C.2.2.2.2.1]; exact hls) (Steps.refl _) (argsL := argsL) (rest := rest) (lenOf pd hlen) rfl (by show 2 * 0 + _ ≤ _; omega) (hb C.2.2.2.1 hd) (fun _ _ => ⟨rfl, eT, hc, hs⟩)
  dsimp only [Pt.U, Pt.locs, Pt.cells, Pt.slots] at X' hS2 hg2 l' y' z' st hQ
  subst l' y' z'
  exact (K T' v L (s.setVm T'.vm) (C.move hS2.1) X' ⟨T'.vm, T'.heap.size, rfl, foldS hS0 (by rw [eT]; exact hk0) hS2 hg2, Nat.le_refl _⟩ hQ).via fun t k => st.trans k
theorem Go.retVW {sC : State} (C : Cx p sC m meth c Z own nm bytes maxL ret) (X : Stand p l e R sC m args below meth c T locs cells slots) (Si : Sin s sC T.heap)  (hr : ret = none) (hd : decode bytes pc = .ok (.return_, 1))  (hq : Q none T.heap locs) (hc : cells ≤ RC) (hs : slots ≤ RS) : Go p e below (FnW s RC RS Q) T (mkF m pc Ls []) := by
  have hret := C.2.2.2.2.2.1
  have hlk := C.2.2.2.2.2.2.2
  rw [hr] at hret
  obtain ⟨vm0, k0, rfl, hS0, hk0⟩ := Si
  obtain ⟨fs, hl, hrun, hended, hW⟩ := X.leaveW hS0 hk0 (v := none) (fun h => by first | rfl | (rw [hret] at h; cases h)) hlk
  exact ⟨_, _, X.returnOut C.1 hret (hb C.2.2.2.1 hd) hl, hrun, hended, _, _, rfl, hq, hW.1, hW.2.1, hW.2.2.1, hW.2.2.2.mono hc hs⟩
theorem Go.retNW {sC : State} (C : Cx p sC m meth c Z own nm bytes maxL ret) (X : Stand p l e R sC m args below meth c T locs cells slots) (Si : Sin s sC T.heap) {t : FieldType} {z : Int32} (hr : ret = some t) (hd : decode bytes pc = .ok (.ireturn, 1)) (ht : t = .boolean ∨ t = .byte ∨ t = .char ∨ t = .short) (hq : Q (some (.int (nar t z))) T.heap locs) (hc : cells ≤ RC) (hs : slots ≤ RS) : Go p e below (FnW s RC RS Q) T (mkF m pc Ls (.int z :: S)) := by
  have hret := C.2.2.2.2.2.1
  have hlk := C.2.2.2.2.2.2.2
  rw [hr] at hret
  obtain ⟨vm0, k0, rfl, hS0, hk0⟩ := Si
  obtain ⟨fs, hl, hrun, hended, hW⟩ := X.leaveW hS0 hk0 (v := (some (.int (nar t z)))) (fun h => by first | rfl | (rw [hret] at h; cases h)) hlk
  exact ⟨_, _, Jvm.RoadKit.retN X C.1 hret ht (hb C.2.2.2.1 hd) hl, hrun, hended, _, _, rfl, hq, hW.1, hW.2.1, hW.2.2.1, hW.2.2.2.mono hc hs⟩
theorem Go.retIW {sC : State} (C : Cx p sC m meth c Z own nm bytes maxL ret) (X : Stand p l e R sC m args below meth c T locs cells slots) (Si : Sin s sC T.heap) {z : Int32} (hr : ret = some .int) (hd : decode bytes pc = .ok (.ireturn, 1))  (hq : Q (some (.int z)) T.heap locs) (hc : cells ≤ RC) (hs : slots ≤ RS) : Go p e below (FnW s RC RS Q) T (mkF m pc Ls (.int z :: S)) := by
  have hret := C.2.2.2.2.2.1
  have hlk := C.2.2.2.2.2.2.2
  rw [hr] at hret
  obtain ⟨vm0, k0, rfl, hS0, hk0⟩ := Si
  obtain ⟨fs, hl, hrun, hended, hW⟩ := X.leaveW hS0 hk0 (v := (some (.int z))) (fun h => by first | rfl | (rw [hret] at h; cases h)) hlk
  exact ⟨_, _, retOut X C.1 hret rfl (Or.inl ⟨rfl, Or.inl rfl, z, rfl⟩) (hb C.2.2.2.1 hd) hl, hrun, hended, _, _, rfl, hq, hW.1, hW.2.1, hW.2.2.1, hW.2.2.2.mono hc hs⟩
theorem Go.retAW {sC : State} (C : Cx p sC m meth c Z own nm bytes maxL ret) (X : Stand p l e R sC m args below meth c T locs cells slots) (Si : Sin s sC T.heap) {t : FieldType} {v : Value} (hr : ret = some t) (hd : decode bytes pc = .ok (.areturn, 1)) (ht : t.isReference = true) (hv : v.isRef = true) (hn : narrow t v = v) (hq : Q (some v) T.heap locs) (hc : cells ≤ RC) (hs : slots ≤ RS) : Go p e below (FnW s RC RS Q) T (mkF m pc Ls (v :: S)) := by
  have hret := C.2.2.2.2.2.1
  have hlk := C.2.2.2.2.2.2.2
  rw [hr] at hret
  obtain ⟨vm0, k0, rfl, hS0, hk0⟩ := Si
  obtain ⟨fs, hl, hrun, hended, hW⟩ := X.leaveW hS0 hk0 (v := (some v)) (fun h => by first | rfl | (rw [hret] at h; cases h)) hlk
  exact ⟨_, _, retOut X C.1 hret hn (Or.inr (Or.inr (Or.inr (Or.inr ⟨rfl, ht, hv⟩)))) (hb C.2.2.2.1 hd) hl, hrun, hended, _, _, rfl, hq, hW.1, hW.2.1, hW.2.2.1, hW.2.2.2.mono hc hs⟩
end OwnW
end Jvm.RoadKit
namespace Jvm.Pilot.@@N@@
open Jvm Jvm.ClassFile Sem Op Lib Jvm.Free Jvm.Stand Jvm.LawKit Jvm.RoadKit Bundle Jvm.Pilot.@@N@@.Jvm.D
theorem tw {a0 : Array Value} {Z : State} (hw : ∀ d ∈ tables_1, d.before a0 Z = true) (i : Nat) {d : Cond} (h : tables_1[i]? = some d) : d.before a0 Z = true := hw d (List.mem_of_getElem? h)
theorem n32_int {n : Nat} (h : n < 2 ^ 31) : n.toInt32.toInt = n := len_toInt h
theorem n32_nat {n : Nat} (h : n < 2 ^ 31) : n.toInt32.toNatClampNeg = n := by simp only [Int32.toNatClampNeg, len_toInt h]; omega
theorem n32_neg {n : Nat} (h : n < 2 ^ 31) : ¬ n.toInt32 < 0 := by simp only [Int32.lt_iff_toInt_lt, len_toInt h, Int32.reduceToInt]; omega
theorem n32_lt {n k : Nat} (hn : n < 2 ^ 31) (hk : k < 2 ^ 31) : n.toInt32 < k.toInt32 ↔ n < k := by rw [Int32.lt_iff_toInt_lt, len_toInt hn, len_toInt hk]; omega
theorem n32_succ (n : Nat) : n.toInt32 + (1 : Int32) = (n + 1).toInt32 := (Int32.ofNat_add n 1).symm
theorem n32_eq {n k : Nat} (hn : n < 2 ^ 31) (hk : k < 2 ^ 31) : n.toInt32 = k.toInt32 ↔ n = k := by rw [← Int32.toInt_inj, len_toInt hn, len_toInt hk]; omega
theorem nar_byte8 (x : Int32) : nar .byte x.toInt8.toInt32 = x.toInt8.toInt32 := by simp [nar]
def by8 (cs : List Int32) : List Value := cs.map fun c => Value.int c.toInt8.toInt32
def ch16 (cs : List Int32) : List Value := cs.map Value.int
theorem by8_len (cs : List Int32) : (by8 cs).length = cs.length := by simp [by8]
theorem ch16_len (cs : List Int32) : (ch16 cs).length = cs.length := by simp [ch16]

theorem own_m3 (x : Int32) : ((x &&& (2147483647 : Int32)) % (3 : Int32)) = (0 : Int32) ∨ ((x &&& (2147483647 : Int32)) % (3 : Int32)) = (1 : Int32) ∨ ((x &&& (2147483647 : Int32)) % (3 : Int32)) = (2 : Int32) := by
  have h := c_mask x (2147483647 : Int32) 31 (by decide) (by decide)
  have q := (c_irem (x &&& (2147483647 : Int32)) (3 : Int32) 3 (by decide)).1 (by omega)
  simp only [← Int32.toInt_inj, Int32.reduceToInt]; omega
theorem pf_1 : plainFor (⟨"com/example/barrault/barrault/model/PathPatternSelectsElementsPinLaw", "kind", "(I)Lcom/example/barrault/barrault/model/PathPattern$Kind;"⟩ : MethodName) = true := plainFor_of_name (by first | (simp [plainName, overriddenIn]; done) | decide +kernel)
theorem d1_0 : decode method_2_code 0 = .ok (.iload_n 0, 1) := by decide +kernel
theorem d1_1 : decode method_2_code 1 = .ok (.ldc 7, 2) := by decide +kernel
theorem d1_3 : decode method_2_code 3 = .ok (.iand, 1) := by decide +kernel
theorem d1_4 : decode method_2_code 4 = .ok (.iconst 3, 1) := by decide +kernel
theorem d1_5 : decode method_2_code 5 = .ok (.irem, 1) := by decide +kernel
theorem d1_6 : decode method_2_code 6 = .ok (.istore_n 1, 1) := by decide +kernel
theorem d1_7 : decode method_2_code 7 = .ok (.iload_n 1, 1) := by decide +kernel
theorem d1_8 : decode method_2_code 8 = .ok (.ifCond .ne 7, 3) := by decide +kernel
theorem d1_11 : decode method_2_code 11 = .ok (.getstatic 8, 3) := by decide +kernel
theorem d1_14 : decode method_2_code 14 = .ok (.areturn, 1) := by decide +kernel
theorem d1_15 : decode method_2_code 15 = .ok (.iload_n 1, 1) := by decide +kernel
theorem d1_16 : decode method_2_code 16 = .ok (.iconst 1, 1) := by decide +kernel
theorem d1_17 : decode method_2_code 17 = .ok (.if_icmp .ne 7, 3) := by decide +kernel
theorem d1_20 : decode method_2_code 20 = .ok (.getstatic 14, 3) := by decide +kernel
theorem d1_23 : decode method_2_code 23 = .ok (.areturn, 1) := by decide +kernel
theorem d1_24 : decode method_2_code 24 = .ok (.getstatic 17, 3) := by decide +kernel
theorem d1_27 : decode method_2_code 27 = .ok (.areturn, 1) := by decide +kernel
def Q_kind (Z : State) (x : Int32) (ke : Addr) (ka : Addr) (kt : Addr) (h0 : Heap) (rv : Option Value) (h : Heap) (L : List Loc) : Prop := ∃ kv : Addr, rv = some (.ref kv) ∧ L = [] ∧ h = h0
set_option maxRecDepth 65536 in
set_option maxHeartbeats 40000000 in
theorem rm_kind (l : Launch) (Z : State) (a0 : Array Value) (hw : ∀ d ∈ tables_1, d.before a0 Z = true) (x : Int32) (ke : Addr) (ka : Addr) (kt : Addr) (h0 : Heap) (O0 : Ext Z.heap h0) (SK0 : Sta Z Z.heap "com/example/barrault/barrault/model/PathPattern$Kind" "ELEMENT" "Lcom/example/barrault/barrault/model/PathPattern$Kind;" (.ref ke)) (SK1 : Sta Z Z.heap "com/example/barrault/barrault/model/PathPattern$Kind" "ATTRIBUTE" "Lcom/example/barrault/barrault/model/PathPattern$Kind;" (.ref ka)) (SK2 : Sta Z Z.heap "com/example/barrault/barrault/model/PathPattern$Kind" "TEXT" "Lcom/example/barrault/barrault/model/PathPattern$Kind;" (.ref kt)) :
    Met1 l Z (⟨"com/example/barrault/barrault/model/PathPatternSelectsElementsPinLaw", "kind", "(I)Lcom/example/barrault/barrault/model/PathPattern$Kind;"⟩ : MethodName) method_2_code 2 (some (.object "com/example/barrault/barrault/model/PathPattern$Kind")) ({ frames := 0, cells := 0, slots := 0, locals := 0 } : Room) #[(.int x)] h0 (Q_kind Z x ke ka kt h0) := by
  refine Met1.of_body (Ls := #[.val (.int x), .unset]) pf_1 (fun m => by first | (simp [entryFrame, mkF, argsToLocals, Value.category]; done) | rfl) ?_
  intro p e s m below meth c T0 C X0 e0
  have N0 : Fr Z.heap.size [] := Fr.nil _
  refine Go.iloadN (pc' := 1) C X0 d1_0 rfl rfl ?_
  refine Go.ldcI (pc' := 3) C X0 d1_1 (tw hw 0 rfl) rfl ?_
  refine Go.iand (pc' := 4) C X0 d1_3 rfl ?_
  refine Go.iconst (z := (3 : Int32)) (pc' := 5) C X0 d1_4 rfl rfl ?_
  refine Go.irem (pc' := 6) C X0 d1_5 (by decide) rfl ?_
  refine Go.istoreN (Ls' := #[.val (.int x), .val (.int ((x &&& (2147483647 : Int32)) % (3 : Int32)))]) (pc' := 7) C X0 d1_6 rfl rfl ?_
  refine Go.iloadN (pc' := 8) C X0 d1_7 rfl rfl ?_
  by_cases hc8_101 : ((x &&& (2147483647 : Int32)) % (3 : Int32)) = (0 : Int32)
  · refine Go.ifNo (pc' := 11) C X0 d1_8 ((if0 _ _).trans (teq (x := ((x &&& (2147483647 : Int32)) % (3 : Int32))) (y := (0 : Int32)) hc8_101).2) rfl ?_
    refine Go.getS (pc' := 14) (host := "") C X0 (Or.inl (tw hw 5 rfl)) Via.refl e0 (SK0.ext O0) d1_11 rfl ?_
    intro T102 X102 e102
    exact Go.retA C X102 rfl d1_14 rfl rfl rfl (by rw [e102]; exact ⟨ke, rfl, rfl, rfl⟩) (by decide) (by decide)
  · refine Go.ifYes (pc' := 15) C X0 d1_8 ((if0 _ _).trans (feq (x := ((x &&& (2147483647 : Int32)) % (3 : Int32))) (y := (0 : Int32)) hc8_101).2) (by decide) (by decide) ?_
    refine Go.iloadN (pc' := 16) C X0 d1_15 rfl rfl ?_
    refine Go.iconst (z := (1 : Int32)) (pc' := 17) C X0 d1_16 rfl rfl ?_
    by_cases hc17_103 : ((x &&& (2147483647 : Int32)) % (3 : Int32)) = (1 : Int32)
    · refine Go.icmpNo (pc' := 20) C X0 d1_17 (teq (x := ((x &&& (2147483647 : Int32)) % (3 : Int32))) (y := (1 : Int32)) hc17_103).2 rfl ?_
      refine Go.getS (pc' := 23) (host := "") C X0 (Or.inl (tw hw 10 rfl)) Via.refl e0 (SK1.ext O0) d1_20 rfl ?_
      intro T104 X104 e104
      exact Go.retA C X104 rfl d1_23 rfl rfl rfl (by rw [e104]; exact ⟨ka, rfl, rfl, rfl⟩) (by decide) (by decide)
    · refine Go.icmpYes (pc' := 24) C X0 d1_17 (feq (x := ((x &&& (2147483647 : Int32)) % (3 : Int32))) (y := (1 : Int32)) hc17_103).2 (by decide) (by decide) ?_
      refine Go.getS (pc' := 27) (host := "") C X0 (Or.inl (tw hw 8 rfl)) Via.refl e0 (SK2.ext O0) d1_24 rfl ?_
      intro T105 X105 e105
      exact Go.retA C X105 rfl d1_27 rfl rfl rfl (by rw [e105]; exact ⟨kt, rfl, rfl, rfl⟩) (by decide) (by decide)
theorem pf_7 : plainFor (⟨"java/lang/Record", "<init>", "()V"⟩ : MethodName) = true := plainFor_of_name (by first | (simp [plainName, overriddenIn]; done) | decide +kernel)
theorem d7_0 : decode jdk_30_method_1_code 0 = .ok (.aload_n 0, 1) := by decide +kernel
theorem d7_1 : decode jdk_30_method_1_code 1 = .ok (.invokespecial 1, 3) := by decide +kernel
theorem d7_4 : decode jdk_30_method_1_code 4 = .ok (.return_, 1) := by decide +kernel
def Q_rec (Z : State) (r : Addr) (h0 : Heap) (rv : Option Value) (h : Heap) (L : List Loc) : Prop := rv = none ∧ L = [] ∧ h = h0
set_option maxRecDepth 65536 in
set_option maxHeartbeats 40000000 in
theorem rm_rec (l : Launch) (Z : State) (a0 : Array Value) (hw : ∀ d ∈ tables_1, d.before a0 Z = true) (r : Addr) (h0 : Heap) (O0 : Ext Z.heap h0) :
    Met1 l Z (⟨"java/lang/Record", "<init>", "()V"⟩ : MethodName) jdk_30_method_1_code 1 none ({ frames := 1, cells := 0, slots := 0, locals := 12 } : Room) #[(.ref r)] h0 (Q_rec Z r h0) := by
  refine Met1.of_body (Ls := #[.val (.ref r)]) pf_7 (fun m => by first | (simp [entryFrame, mkF, argsToLocals, Value.category]; done) | rfl) ?_
  intro p e s m below meth c T0 C X0 e0
  have N0 : Fr Z.heap.size [] := Fr.nil _
  refine Go.aloadN (pc' := 1) C X0 d7_0 rfl rfl rfl ?_
  refine Go.initO (pc' := 4) (W := 0) C X0 (tw hw 49 rfl) (tw hw 34 rfl) (tw hw 35 rfl) e0 rfl (by decide) (Nat.le_of_eq rfl) (by decide) d7_1 rfl ?_
  intro T101 X101 e101
  exact Go.retV C X101 rfl d7_4 (by rw [e101]; exact ⟨rfl, rfl, rfl⟩) (by decide) (by decide)
theorem pf_4 : plainFor (⟨"java/util/AbstractCollection", "<init>", "()V"⟩ : MethodName) = true := plainFor_of_name (by first | (simp [plainName, overriddenIn]; done) | decide +kernel)
theorem d4_0 : decode jdk_22_method_1_code 0 = .ok (.aload_n 0, 1) := by decide +kernel
theorem d4_1 : decode jdk_22_method_1_code 1 = .ok (.invokespecial 1, 3) := by decide +kernel
theorem d4_4 : decode jdk_22_method_1_code 4 = .ok (.return_, 1) := by decide +kernel
def Q_ac (Z : State) (r : Addr) (h0 : Heap) (rv : Option Value) (h : Heap) (L : List Loc) : Prop := rv = none ∧ L = [] ∧ h = h0
set_option maxRecDepth 65536 in
set_option maxHeartbeats 40000000 in
theorem rm_ac (l : Launch) (Z : State) (a0 : Array Value) (hw : ∀ d ∈ tables_1, d.before a0 Z = true) (r : Addr) (h0 : Heap) (O0 : Ext Z.heap h0) :
    Met1 l Z (⟨"java/util/AbstractCollection", "<init>", "()V"⟩ : MethodName) jdk_22_method_1_code 1 none ({ frames := 1, cells := 0, slots := 0, locals := 12 } : Room) #[(.ref r)] h0 (Q_ac Z r h0) := by
  refine Met1.of_body (Ls := #[.val (.ref r)]) pf_4 (fun m => by first | (simp [entryFrame, mkF, argsToLocals, Value.category]; done) | rfl) ?_
  intro p e s m below meth c T0 C X0 e0
  have N0 : Fr Z.heap.size [] := Fr.nil _
  refine Go.aloadN (pc' := 1) C X0 d4_0 rfl rfl rfl ?_
  refine Go.initO (pc' := 4) (W := 0) C X0 (tw hw 33 rfl) (tw hw 34 rfl) (tw hw 35 rfl) e0 rfl (by decide) (Nat.le_of_eq rfl) (by decide) d4_1 rfl ?_
  intro T101 X101 e101
  exact Go.retV C X101 rfl d4_4 (by rw [e101]; exact ⟨rfl, rfl, rfl⟩) (by decide) (by decide)
theorem pd_0 : parseMethodDescriptor "()V" = some ⟨[], none⟩ := by decide +kernel
theorem pf_3 : plainFor (⟨"java/util/AbstractList", "<init>", "()V"⟩ : MethodName) = true := plainFor_of_name (by first | (simp [plainName, overriddenIn]; done) | decide +kernel)
theorem d3_0 : decode jdk_39_method_1_code 0 = .ok (.aload_n 0, 1) := by decide +kernel
theorem d3_1 : decode jdk_39_method_1_code 1 = .ok (.invokespecial 1, 3) := by decide +kernel
theorem d3_4 : decode jdk_39_method_1_code 4 = .ok (.aload_n 0, 1) := by decide +kernel
theorem d3_5 : decode jdk_39_method_1_code 5 = .ok (.iconst 0, 1) := by decide +kernel
theorem d3_6 : decode jdk_39_method_1_code 6 = .ok (.putfield 7, 3) := by decide +kernel
theorem d3_9 : decode jdk_39_method_1_code 9 = .ok (.return_, 1) := by decide +kernel
def Q_abl (Z : State) (r : Addr) (h0 : Heap) (rv : Option Value) (h : Heap) (L : List Loc) : Prop := rv = none ∧ Fr Z.heap.size L ∧ Keep h0 h [r] ∧ Fld Z h r "java/util/AbstractList" "modCount" "I" (.int (0 : Int32)) ∧ Fld Z h r "java/util/ArrayList" "elementData" "[Ljava/lang/Object;" .null ∧ Fld Z h r "java/util/ArrayList" "size" "I" (.int (0 : Int32))
set_option maxRecDepth 65536 in
set_option maxHeartbeats 40000000 in
theorem rm_abl (l : Launch) (Z : State) (a0 : Array Value) (hw : ∀ d ∈ tables_1, d.before a0 Z = true) (r : Addr) (h0 : Heap) (O0 : Ext Z.heap h0) (E0 : Exa Z h0 r "java/util/ArrayList") (F1 : Fld Z h0 r "java/util/AbstractList" "modCount" "I" (.int (0 : Int32))) (F2 : Fld Z h0 r "java/util/ArrayList" "elementData" "[Ljava/lang/Object;" .null) (F3 : Fld Z h0 r "java/util/ArrayList" "size" "I" (.int (0 : Int32))) (hn : Z.heap.size ≤ r) :
    Met1 l Z (⟨"java/util/AbstractList", "<init>", "()V"⟩ : MethodName) jdk_39_method_1_code 1 none ({ frames := 2, cells := 0, slots := 0, locals := 24 } : Room) #[(.ref r)] h0 (Q_abl Z r h0) := by
  refine Met1.of_body (Ls := #[.val (.ref r)]) pf_3 (fun m => by first | (simp [entryFrame, mkF, argsToLocals, Value.category]; done) | rfl) ?_
  intro p e s m below meth c T0 C X0 e0
  have N0 : Fr Z.heap.size [] := Fr.nil _
  refine Go.aloadN (pc' := 1) C X0 d3_0 rfl rfl rfl ?_
  refine Go.callI (y := (⟨"java/util/AbstractCollection", "<init>", "()V"⟩ : MethodName)) (a := r) (pc' := 4) C X0 rfl (tw hw 27 rfl) (tw hw 28 rfl) (by decide) (rm_ac l Z a0 hw r h0 O0 ) (tw hw 32 rfl) (tw hw 31 rfl) e0 (argsL := []) (rest := []) (W := 0) rfl rfl pd_0 rfl (Nat.le_of_eq rfl) rfl (by decide) (by decide) (by decide) (by decide) rfl d3_1 rfl ?_
  intro T101 v101 L101 X101 q101
  obtain ⟨rfl, rfl, e101⟩ := q101
  have N101 := Fr.app N0 (Fr.nil _)
  refine Go.aloadN (pc' := 5) C X101 d3_4 rfl rfl rfl ?_
  refine Go.iconst (z := (0 : Int32)) (pc' := 6) C X101 d3_5 rfl rfl ?_
  refine Go.putF (pc' := 9) (host := "") (ty := .int) C X101 (Or.inl (tw hw 36 rfl)) Via.refl e101 F1 E0 (Or.inl (tw hw 37 rfl)) (tw hw 16 rfl) (by decide) rfl rfl d3_6 rfl ?_
  intro T102 h102 X102 e102 W102 F102
  have N102 := Fr.snoc X102 N101 hn
  have K103 : Keep h0 h102 [r] := ((Keep.refl h0 [r]).wr W102 (Or.inl (by simp)))
  have c104 : Fld Z h102 r "java/util/ArrayList" "elementData" "[Ljava/lang/Object;" .null := (Fld.other W102 F2 (Or.inr (slot_ne (Or.inl (tw hw 40 rfl)) (Or.inl (tw hw 37 rfl)) (by decide) (t := (.array (.object "java/lang/Object"))) (t' := .int) (by decide) (by decide))))
  have c105 : Fld Z h102 r "java/util/ArrayList" "size" "I" (.int (0 : Int32)) := (Fld.other W102 F3 (Or.inr (slot_ne (Or.inl (tw hw 74 rfl)) (Or.inl (tw hw 37 rfl)) (by decide) (t := .int) (t' := .int) (by decide) (by decide))))
  exact Go.retV C X102 rfl d3_9 (by rw [e102]; exact ⟨rfl, N102, K103, F102, c104, c105⟩) (by decide) (by decide)
theorem pf_2 : plainFor (⟨"java/util/ArrayList", "<init>", "()V"⟩ : MethodName) = true := plainFor_of_name (by first | (simp [plainName, overriddenIn]; done) | decide +kernel)
theorem d2_0 : decode jdk_38_method_2_code 0 = .ok (.aload_n 0, 1) := by decide +kernel
theorem d2_1 : decode jdk_38_method_2_code 1 = .ok (.invokespecial 1, 3) := by decide +kernel
theorem d2_4 : decode jdk_38_method_2_code 4 = .ok (.aload_n 0, 1) := by decide +kernel
theorem d2_5 : decode jdk_38_method_2_code 5 = .ok (.getstatic 39, 3) := by decide +kernel
theorem d2_8 : decode jdk_38_method_2_code 8 = .ok (.putfield 9, 3) := by decide +kernel
theorem d2_11 : decode jdk_38_method_2_code 11 = .ok (.return_, 1) := by decide +kernel
def Q_alI (Z : State) (r : Addr) (dc : Addr) (h0 : Heap) (rv : Option Value) (h : Heap) (L : List Loc) : Prop := rv = none ∧ Fr Z.heap.size L ∧ Keep h0 h [r] ∧ Fld Z h r "java/util/AbstractList" "modCount" "I" (.int (0 : Int32)) ∧ Fld Z h r "java/util/ArrayList" "elementData" "[Ljava/lang/Object;" (.ref dc) ∧ Fld Z h r "java/util/ArrayList" "size" "I" (.int (0 : Int32))
set_option maxRecDepth 65536 in
set_option maxHeartbeats 40000000 in
theorem rm_alI (l : Launch) (Z : State) (a0 : Array Value) (hw : ∀ d ∈ tables_1, d.before a0 Z = true) (r : Addr) (dc : Addr) (h0 : Heap) (O0 : Ext Z.heap h0) (E0 : Exa Z h0 r "java/util/ArrayList") (F1 : Fld Z h0 r "java/util/AbstractList" "modCount" "I" (.int (0 : Int32))) (F2 : Fld Z h0 r "java/util/ArrayList" "elementData" "[Ljava/lang/Object;" .null) (F3 : Fld Z h0 r "java/util/ArrayList" "size" "I" (.int (0 : Int32))) (SD : Sta Z Z.heap "java/util/ArrayList" "DEFAULTCAPACITY_EMPTY_ELEMENTDATA" "[Ljava/lang/Object;" (.ref dc)) (hn : Z.heap.size ≤ r) :
    Met1 l Z (⟨"java/util/ArrayList", "<init>", "()V"⟩ : MethodName) jdk_38_method_2_code 1 none ({ frames := 3, cells := 0, slots := 0, locals := 36 } : Room) #[(.ref r)] h0 (Q_alI Z r dc h0) := by
  refine Met1.of_body (Ls := #[.val (.ref r)]) pf_2 (fun m => by first | (simp [entryFrame, mkF, argsToLocals, Value.category]; done) | rfl) ?_
  intro p e s m below meth c T0 C X0 e0
  have N0 : Fr Z.heap.size [] := Fr.nil _
  refine Go.aloadN (pc' := 1) C X0 d2_0 rfl rfl rfl ?_
  refine Go.callI (y := (⟨"java/util/AbstractList", "<init>", "()V"⟩ : MethodName)) (a := r) (pc' := 4) C X0 rfl (tw hw 21 rfl) (tw hw 22 rfl) (by decide) (rm_abl l Z a0 hw r h0 O0 E0 F1 F2 F3 hn) (tw hw 26 rfl) (tw hw 25 rfl) e0 (argsL := []) (rest := []) (W := 0) rfl rfl pd_0 rfl (Nat.le_of_eq rfl) rfl (by decide) (by decide) (by decide) (by decide) rfl d2_1 rfl ?_
  intro T101 v101 L101 X101 q101
  obtain ⟨rfl, N101q, K101, P101_0, P101_1, P101_2⟩ := q101
  have N101 := Fr.app N0 N101q
  refine Go.aloadN (pc' := 5) C X101 d2_4 rfl rfl rfl ?_
  have O103 : Ext Z.heap T101.heap := (Ext.keep O0 K101 (allS hn all0))
  refine Go.getS (pc' := 8) (host := "") C X101 (Or.inl (tw hw 38 rfl)) Via.refl rfl (SD.ext O103) d2_5 rfl ?_
  intro T102 X102 e102
  have c105 : Exa Z T101.heap r "java/util/ArrayList" := (Exa.keep E0 K101)
  refine Go.putF (pc' := 11) (host := "") (ty := (.array (.object "java/lang/Object"))) C X102 (Or.inl (tw hw 39 rfl)) Via.refl e102 P101_1 c105 (Or.inl (tw hw 40 rfl)) (tw hw 16 rfl) (by decide) rfl rfl d2_8 rfl ?_
  intro T104 h104 X104 e104 W104 F104
  have N104 := Fr.snoc X104 N101 hn
  have K106 : Keep h0 h104 [r] := (((Keep.refl h0 [r]).trans K101 (allS (Or.inl (by simp)) all0)).wr W104 (Or.inl (by simp)))
  have c107 : Fld Z h104 r "java/util/AbstractList" "modCount" "I" (.int (0 : Int32)) := (Fld.other W104 P101_0 (Or.inr (slot_ne (Or.inl (tw hw 37 rfl)) (Or.inl (tw hw 40 rfl)) (by decide) (t := .int) (t' := (.array (.object "java/lang/Object"))) (by decide) (by decide))))
  have c108 : Fld Z h104 r "java/util/ArrayList" "size" "I" (.int (0 : Int32)) := (Fld.other W104 P101_2 (Or.inr (slot_ne (Or.inl (tw hw 74 rfl)) (Or.inl (tw hw 40 rfl)) (by decide) (t := .int) (t' := (.array (.object "java/lang/Object"))) (by decide) (by decide))))
  exact Go.retV C X104 rfl d2_11 (by rw [e104]; exact ⟨rfl, N104, K106, c107, F104, c108⟩) (by decide) (by decide)
theorem pf_16 : plainFor (⟨"java/lang/Math", "max", "(II)I"⟩ : MethodName) = true := Jvm.Free.JP.mathPlain rfl (by decide +kernel)
theorem d16_0 : decode jdk_29_method_65_code 0 = .ok (.iload_n 0, 1) := by decide +kernel
theorem d16_1 : decode jdk_29_method_65_code 1 = .ok (.iload_n 1, 1) := by decide +kernel
theorem d16_2 : decode jdk_29_method_65_code 2 = .ok (.if_icmp .lt 7, 3) := by decide +kernel
theorem d16_5 : decode jdk_29_method_65_code 5 = .ok (.iload_n 0, 1) := by decide +kernel
theorem d16_6 : decode jdk_29_method_65_code 6 = .ok (.goto 4, 3) := by decide +kernel
theorem d16_10 : decode jdk_29_method_65_code 10 = .ok (.ireturn, 1) := by decide +kernel
def Q_mx (Z : State)  (h0 : Heap) (rv : Option Value) (h : Heap) (L : List Loc) : Prop := rv = some (.int (10 : Int32)) ∧ L = [] ∧ h = h0
set_option maxRecDepth 65536 in
set_option maxHeartbeats 40000000 in
theorem rm_mx (l : Launch) (Z : State) (a0 : Array Value) (hw : ∀ d ∈ tables_1, d.before a0 Z = true)  (h0 : Heap) (O0 : Ext Z.heap h0) :
    Met1 l Z (⟨"java/lang/Math", "max", "(II)I"⟩ : MethodName) jdk_29_method_65_code 2 (some .int) ({ frames := 0, cells := 0, slots := 0, locals := 0 } : Room) #[(.int (10 : Int32)), (.int (1 : Int32))] h0 (Q_mx Z  h0) := by
  refine Met1.of_body (Ls := #[.val (.int (10 : Int32)), .val (.int (1 : Int32))]) pf_16 (fun m => by first | (simp [entryFrame, mkF, argsToLocals, Value.category]; done) | rfl) ?_
  intro p e s m below meth c T0 C X0 e0
  have N0 : Fr Z.heap.size [] := Fr.nil _
  refine Go.iloadN (pc' := 1) C X0 d16_0 rfl rfl ?_
  refine Go.iloadN (pc' := 2) C X0 d16_1 rfl rfl ?_
  refine Go.icmpNo (pc' := 5) C X0 d16_2 (flt (x := (10 : Int32)) (y := (1 : Int32)) (by decide)).1 rfl ?_
  refine Go.iloadN (pc' := 6) C X0 d16_5 rfl rfl ?_
  refine Go.goto (pc' := 10) C X0 d16_6 (by decide) (by decide) ?_
  exact Go.retI C X0 rfl d16_10 (by rw [e0]; exact ⟨rfl, rfl, rfl⟩) (by decide) (by decide)
theorem pd_1 : parseMethodDescriptor "(II)I" = some ⟨[.int, .int], some .int⟩ := by decide +kernel
theorem pf_15 : plainFor (⟨"java/util/ArrayList", "grow", "(I)[Ljava/lang/Object;"⟩ : MethodName) = true := plainFor_of_name (by first | (simp [plainName, overriddenIn]; done) | decide +kernel)
theorem d15_0 : decode jdk_38_method_6_code 0 = .ok (.aload_n 0, 1) := by decide +kernel
theorem d15_1 : decode jdk_38_method_6_code 1 = .ok (.getfield 9, 3) := by decide +kernel
theorem d15_4 : decode jdk_38_method_6_code 4 = .ok (.arraylength, 1) := by decide +kernel
theorem d15_5 : decode jdk_38_method_6_code 5 = .ok (.istore_n 2, 1) := by decide +kernel
theorem d15_6 : decode jdk_38_method_6_code 6 = .ok (.iload_n 2, 1) := by decide +kernel
theorem d15_7 : decode jdk_38_method_6_code 7 = .ok (.ifCond .gt 13, 3) := by decide +kernel
theorem d15_10 : decode jdk_38_method_6_code 10 = .ok (.aload_n 0, 1) := by decide +kernel
theorem d15_11 : decode jdk_38_method_6_code 11 = .ok (.getfield 9, 3) := by decide +kernel
theorem d15_14 : decode jdk_38_method_6_code 14 = .ok (.getstatic 39, 3) := by decide +kernel
theorem d15_17 : decode jdk_38_method_6_code 17 = .ok (.if_acmp .eq 28, 3) := by decide +kernel
theorem d15_45 : decode jdk_38_method_6_code 45 = .ok (.aload_n 0, 1) := by decide +kernel
theorem d15_46 : decode jdk_38_method_6_code 46 = .ok (.bipush 10, 2) := by decide +kernel
theorem d15_48 : decode jdk_38_method_6_code 48 = .ok (.iload_n 1, 1) := by decide +kernel
theorem d15_49 : decode jdk_38_method_6_code 49 = .ok (.invokestatic 79, 3) := by decide +kernel
theorem d15_52 : decode jdk_38_method_6_code 52 = .ok (.anewarray 7, 3) := by decide +kernel
theorem d15_55 : decode jdk_38_method_6_code 55 = .ok (.dup_x1, 1) := by decide +kernel
theorem d15_56 : decode jdk_38_method_6_code 56 = .ok (.putfield 9, 3) := by decide +kernel
theorem d15_59 : decode jdk_38_method_6_code 59 = .ok (.areturn, 1) := by decide +kernel
def Q_gr1 (Z : State) (r : Addr) (dc : Addr) (kd : ClassId) (mc : Int32) (h0 : Heap) (rv : Option Value) (h : Heap) (L : List Loc) : Prop := ∃ w : Addr, ∃ kw : ClassId, rv = some (.ref w) ∧ Fr Z.heap.size L ∧ Keep h0 h [r] ∧ h0.size ≤ w ∧ Fld Z h r "java/util/AbstractList" "modCount" "I" (.int mc) ∧ Fld Z h r "java/util/ArrayList" "elementData" "[Ljava/lang/Object;" (.ref w) ∧ Fld Z h r "java/util/ArrayList" "size" "I" (.int (0 : Int32)) ∧ Exa Z h w "[Ljava/lang/Object;" ∧ AL Z h w kw (.object "java/lang/Object") [.null, .null, .null, .null, .null, .null, .null, .null, .null, .null] ∧ (Ovr Z kw "java/lang/Object")
set_option maxRecDepth 65536 in
set_option maxHeartbeats 40000000 in
theorem rm_gr1 (l : Launch) (Z : State) (a0 : Array Value) (hw : ∀ d ∈ tables_1, d.before a0 Z = true) (r : Addr) (dc : Addr) (kd : ClassId) (mc : Int32) (h0 : Heap) (O0 : Ext Z.heap h0) (E0 : Exa Z h0 r "java/util/ArrayList") (F1 : Fld Z h0 r "java/util/AbstractList" "modCount" "I" (.int mc)) (F3 : Fld Z h0 r "java/util/ArrayList" "size" "I" (.int (0 : Int32))) (F2 : Fld Z h0 r "java/util/ArrayList" "elementData" "[Ljava/lang/Object;" (.ref dc)) (SD : Sta Z Z.heap "java/util/ArrayList" "DEFAULTCAPACITY_EMPTY_ELEMENTDATA" "[Ljava/lang/Object;" (.ref dc)) (AD : AL Z Z.heap dc kd (.object "java/lang/Object") []) (hn : Z.heap.size ≤ r) :
    Met1 l Z (⟨"java/util/ArrayList", "grow", "(I)[Ljava/lang/Object;"⟩ : MethodName) jdk_38_method_6_code 4 (some (.array (.object "java/lang/Object"))) ({ frames := 1, cells := 1, slots := 10, locals := 14 } : Room) #[(.ref r), (.int (1 : Int32))] h0 (Q_gr1 Z r dc kd mc h0) := by
  refine Met1.of_body (Ls := #[.val (.ref r), .val (.int (1 : Int32)), .unset, .unset]) pf_15 (fun m => by first | (simp [entryFrame, mkF, argsToLocals, Value.category]; done) | rfl) ?_
  intro p e s m below meth c T0 C X0 e0
  have N0 : Fr Z.heap.size [] := Fr.nil _
  refine Go.aloadN (pc' := 1) C X0 d15_0 rfl rfl rfl ?_
  refine Go.getF (pc' := 4) (host := "") C X0 (Or.inl (tw hw 39 rfl)) Via.refl e0 F2 d15_1 rfl ?_
  intro T101 X101 e101
  refine Go.alen (z := (0 : Int32)) (pc' := 5) C X101 e101 (AD.ext O0) rfl d15_4 rfl ?_
  refine Go.istoreN (Ls' := #[.val (.ref r), .val (.int (1 : Int32)), .val (.int (0 : Int32)), .unset]) (pc' := 6) C X101 d15_5 rfl rfl ?_
  refine Go.iloadN (pc' := 7) C X101 d15_6 rfl rfl ?_
  refine Go.ifNo (pc' := 10) C X101 d15_7 ((if0 _ _).trans (flt (x := (0 : Int32)) (y := (0 : Int32)) (by decide)).2.2.1) rfl ?_
  refine Go.aloadN (pc' := 11) C X101 d15_10 rfl rfl rfl ?_
  refine Go.getF (pc' := 14) (host := "") C X101 (Or.inl (tw hw 39 rfl)) Via.refl e101 F2 d15_11 rfl ?_
  intro T103 X103 e103
  refine Go.getS (pc' := 17) (host := "") C X103 (Or.inl (tw hw 38 rfl)) Via.refl e103 (SD.ext O0) d15_14 rfl ?_
  intro T104 X104 e104
  refine Go.acmpYes (pc' := 45) C X104 d15_17 rfl rfl (XT.aa_eq_t rfl) (by decide) (by decide) ?_
  refine Go.aloadN (pc' := 46) C X104 d15_45 rfl rfl rfl ?_
  refine Go.bipush (z := (10 : Int32)) (pc' := 48) C X104 d15_46 rfl rfl ?_
  refine Go.iloadN (pc' := 49) C X104 d15_48 rfl rfl ?_
  refine Go.callS (y := (⟨"java/lang/Math", "max", "(II)I"⟩ : MethodName)) (pc' := 52) C X104 (tw hw 113 rfl) (tw hw 114 rfl) (by decide) (rm_mx l Z a0 hw  h0 O0 ) (tw hw 116 rfl) (tw hw 115 rfl) e104 (argsL := [(.int (10 : Int32)), (.int (1 : Int32))]) (rest := [(.ref r)]) (W := 1) rfl rfl pd_1 rfl (Nat.le_of_eq rfl) rfl (by decide) (by decide) (by decide) (by decide) d15_49 rfl ?_
  intro T105 v105 L105 X105 q105
  obtain ⟨rfl, rfl, e105⟩ := q105
  have N105 := Fr.app N0 (Fr.nil _)
  refine Go.newR (cap := 10) (vs := [.null, .null, .null, .null, .null, .null, .null, .null, .null, .null]) (ad := "[Ljava/lang/Object;") (pc' := 55) C X105 (by decide) (tw hw 117 rfl) (tw hw 118 rfl) e105 (by decide) (by decide) (by decide) (by decide) (by decide) rfl d15_52 rfl ?_
  intro T106 h106 b106 k106 X106 e106 g106 E106 A106 Ea106 O106v
  have n_b106 : Z.heap.size ≤ b106 := Nat.le_trans O0.1 (Nat.le_of_eq g106.symm)
  have z_b106 : h0.size ≤ b106 := Nat.le_trans (Nat.le_refl _) (Nat.le_of_eq g106.symm)
  have A106 : AL Z h106 b106 k106 (.object "java/lang/Object") [.null, .null, .null, .null, .null, .null, .null, .null, .null, .null] := A106
  refine Go.dupX1 (pc' := 56) C X106 d15_55 rfl rfl rfl ?_
  have c108 : Fld Z h106 r "java/util/ArrayList" "elementData" "[Ljava/lang/Object;" (.ref dc) := (Fld.ext E106 F2)
  have c109 : Exa Z h106 r "java/util/ArrayList" := (Exa.ext E106 E0)
  refine Go.putF (pc' := 59) (host := "") (ty := (.array (.object "java/lang/Object"))) C X106 (Or.inl (tw hw 39 rfl)) Via.refl e106 c108 c109 (Or.inl (tw hw 40 rfl)) (tw hw 16 rfl) (by decide) rfl rfl d15_56 rfl ?_
  intro T107 h107 X107 e107 W107 F107
  have N107 := Fr.snoc X107 N105 hn
  have K110 : Keep h0 h107 [r] := (((Keep.refl h0 [r]).ext E106).wr W107 (Or.inl (by simp)))
  have c111 : Fld Z h107 r "java/util/AbstractList" "modCount" "I" (.int mc) := (Fld.other W107 (Fld.ext E106 F1) (Or.inr (slot_ne (Or.inl (tw hw 37 rfl)) (Or.inl (tw hw 40 rfl)) (by decide) (t := .int) (t' := (.array (.object "java/lang/Object"))) (by decide) (by decide))))
  have c112 : Fld Z h107 r "java/util/ArrayList" "size" "I" (.int (0 : Int32)) := (Fld.other W107 (Fld.ext E106 F3) (Or.inr (slot_ne (Or.inl (tw hw 74 rfl)) (Or.inl (tw hw 40 rfl)) (by decide) (t := .int) (t' := (.array (.object "java/lang/Object"))) (by decide) (by decide))))
  have c113 : Exa Z h107 b106 "[Ljava/lang/Object;" := (Exa.wr W107 Ea106)
  have ne114 : b106 ≠ r := (Nat.ne_of_gt (Nat.lt_of_lt_of_le E0.lt (Nat.le_trans (Nat.le_refl _) (Nat.le_of_eq g106.symm))))
  have c115 : AL Z h107 b106 k106 (.object "java/lang/Object") [.null, .null, .null, .null, .null, .null, .null, .null, .null, .null] := (AL.other W107 A106 ne114)
  exact Go.retA C X107 rfl d15_59 rfl rfl rfl (by rw [e107]; exact ⟨b106, k106, rfl, N107, K110, z_b106, c111, F107, c112, c113, c115, O106v⟩) (by decide) (by decide)
theorem pd_2 : parseMethodDescriptor "(I)[Ljava/lang/Object;" = some ⟨[.int], some (.array (.object "java/lang/Object"))⟩ := by decide +kernel
theorem pf_14 : plainFor (⟨"java/util/ArrayList", "grow", "()[Ljava/lang/Object;"⟩ : MethodName) = true := plainFor_of_name (by first | (simp [plainName, overriddenIn]; done) | decide +kernel)
theorem d14_0 : decode jdk_38_method_7_code 0 = .ok (.aload_n 0, 1) := by decide +kernel
theorem d14_1 : decode jdk_38_method_7_code 1 = .ok (.aload_n 0, 1) := by decide +kernel
theorem d14_2 : decode jdk_38_method_7_code 2 = .ok (.getfield 48, 3) := by decide +kernel
theorem d14_5 : decode jdk_38_method_7_code 5 = .ok (.iconst 1, 1) := by decide +kernel
theorem d14_6 : decode jdk_38_method_7_code 6 = .ok (.iadd, 1) := by decide +kernel
theorem d14_7 : decode jdk_38_method_7_code 7 = .ok (.invokevirtual 69, 3) := by decide +kernel
theorem d14_10 : decode jdk_38_method_7_code 10 = .ok (.areturn, 1) := by decide +kernel
def Q_gr0 (Z : State) (r : Addr) (dc : Addr) (kd : ClassId) (mc : Int32) (h0 : Heap) (rv : Option Value) (h : Heap) (L : List Loc) : Prop := ∃ w : Addr, ∃ kw : ClassId, rv = some (.ref w) ∧ Fr Z.heap.size L ∧ Keep h0 h [r] ∧ h0.size ≤ w ∧ Fld Z h r "java/util/AbstractList" "modCount" "I" (.int mc) ∧ Fld Z h r "java/util/ArrayList" "elementData" "[Ljava/lang/Object;" (.ref w) ∧ Fld Z h r "java/util/ArrayList" "size" "I" (.int (0 : Int32)) ∧ Exa Z h w "[Ljava/lang/Object;" ∧ AL Z h w kw (.object "java/lang/Object") [.null, .null, .null, .null, .null, .null, .null, .null, .null, .null] ∧ (Ovr Z kw "java/lang/Object")
set_option maxRecDepth 65536 in
set_option maxHeartbeats 40000000 in
theorem rm_gr0 (l : Launch) (Z : State) (a0 : Array Value) (hw : ∀ d ∈ tables_1, d.before a0 Z = true) (r : Addr) (dc : Addr) (kd : ClassId) (mc : Int32) (h0 : Heap) (O0 : Ext Z.heap h0) (E0 : Exa Z h0 r "java/util/ArrayList") (F1 : Fld Z h0 r "java/util/AbstractList" "modCount" "I" (.int mc)) (F3 : Fld Z h0 r "java/util/ArrayList" "size" "I" (.int (0 : Int32))) (F2 : Fld Z h0 r "java/util/ArrayList" "elementData" "[Ljava/lang/Object;" (.ref dc)) (SD : Sta Z Z.heap "java/util/ArrayList" "DEFAULTCAPACITY_EMPTY_ELEMENTDATA" "[Ljava/lang/Object;" (.ref dc)) (AD : AL Z Z.heap dc kd (.object "java/lang/Object") []) (hn : Z.heap.size ≤ r) :
    Met1 l Z (⟨"java/util/ArrayList", "grow", "()[Ljava/lang/Object;"⟩ : MethodName) jdk_38_method_7_code 1 (some (.array (.object "java/lang/Object"))) ({ frames := 2, cells := 1, slots := 10, locals := 29 } : Room) #[(.ref r)] h0 (Q_gr0 Z r dc kd mc h0) := by
  refine Met1.of_body (Ls := #[.val (.ref r)]) pf_14 (fun m => by first | (simp [entryFrame, mkF, argsToLocals, Value.category]; done) | rfl) ?_
  intro p e s m below meth c T0 C X0 e0
  have N0 : Fr Z.heap.size [] := Fr.nil _
  refine Go.aloadN (pc' := 1) C X0 d14_0 rfl rfl rfl ?_
  refine Go.aloadN (pc' := 2) C X0 d14_1 rfl rfl rfl ?_
  refine Go.getF (pc' := 5) (host := "") C X0 (Or.inl (tw hw 73 rfl)) Via.refl e0 F3 d14_2 rfl ?_
  intro T101 X101 e101
  refine Go.iconst (z := (1 : Int32)) (pc' := 6) C X101 d14_5 rfl rfl ?_
  refine Go.iadd (pc' := 7) C X101 d14_6 rfl ?_
  rw [show ((0 : Int32) + (1 : Int32)) = (1 : Int32) from by decide]
  refine Go.callP (y := (⟨"java/util/ArrayList", "grow", "(I)[Ljava/lang/Object;"⟩ : MethodName)) (a := r) (pc' := 10) C X101 (tw hw 108 rfl) (tw hw 109 rfl) (tw hw 111 rfl) (tw hw 110 rfl) E0 (by decide) (rm_gr1 l Z a0 hw r dc kd mc h0 O0 E0 F1 F3 F2 SD AD hn) (tw hw 112 rfl) (tw hw 17 rfl) e101 (argsL := [(.int (1 : Int32))]) (rest := []) (W := 0) rfl rfl pd_2 rfl (Nat.le_of_eq rfl) rfl (by decide) (by decide) (by decide) (by decide) d14_7 rfl ?_
  intro T102 v102 L102 X102 q102
  obtain ⟨w_102, kw_102, rfl, N102q, K102, B102_0, P102_0, P102_1, P102_2, P102_3, P102_4, p102_0⟩ := q102
  have N102 := Fr.app N0 N102q
  have n_w_102 : Z.heap.size ≤ w_102 := Nat.le_trans O0.1 B102_0
  have z_w_102 : h0.size ≤ w_102 := Nat.le_trans (Nat.le_refl _) B102_0
  have K103 : Keep h0 T102.heap [r] := ((Keep.refl h0 [r]).trans K102 (allS (Or.inl (by simp)) all0))
  exact Go.retA C X102 rfl d14_10 rfl rfl rfl ⟨w_102, kw_102, rfl, N102, K103, z_w_102, P102_0, P102_1, P102_2, P102_3, P102_4, p102_0⟩ (by decide) (by decide)
theorem pd_3 : parseMethodDescriptor "()[Ljava/lang/Object;" = some ⟨[], some (.array (.object "java/lang/Object"))⟩ := by decide +kernel
theorem pf_13 : plainFor (⟨"java/util/ArrayList", "add", "(Ljava/lang/Object;[Ljava/lang/Object;I)V"⟩ : MethodName) = true := plainFor_of_name (by first | (simp [plainName, overriddenIn]; done) | decide +kernel)
theorem d13_0 : decode jdk_38_method_24_code 0 = .ok (.iload_n 3, 1) := by decide +kernel
theorem d13_1 : decode jdk_38_method_24_code 1 = .ok (.aload_n 2, 1) := by decide +kernel
theorem d13_2 : decode jdk_38_method_24_code 2 = .ok (.arraylength, 1) := by decide +kernel
theorem d13_3 : decode jdk_38_method_24_code 3 = .ok (.if_icmp .ne 8, 3) := by decide +kernel
theorem d13_6 : decode jdk_38_method_24_code 6 = .ok (.aload_n 0, 1) := by decide +kernel
theorem d13_7 : decode jdk_38_method_24_code 7 = .ok (.invokevirtual 129, 3) := by decide +kernel
theorem d13_10 : decode jdk_38_method_24_code 10 = .ok (.astore_n 2, 1) := by decide +kernel
theorem d13_11 : decode jdk_38_method_24_code 11 = .ok (.aload_n 2, 1) := by decide +kernel
theorem d13_12 : decode jdk_38_method_24_code 12 = .ok (.iload_n 3, 1) := by decide +kernel
theorem d13_13 : decode jdk_38_method_24_code 13 = .ok (.aload_n 1, 1) := by decide +kernel
theorem d13_14 : decode jdk_38_method_24_code 14 = .ok (.aastore, 1) := by decide +kernel
theorem d13_15 : decode jdk_38_method_24_code 15 = .ok (.aload_n 0, 1) := by decide +kernel
theorem d13_16 : decode jdk_38_method_24_code 16 = .ok (.iload_n 3, 1) := by decide +kernel
theorem d13_17 : decode jdk_38_method_24_code 17 = .ok (.iconst 1, 1) := by decide +kernel
theorem d13_18 : decode jdk_38_method_24_code 18 = .ok (.iadd, 1) := by decide +kernel
theorem d13_19 : decode jdk_38_method_24_code 19 = .ok (.putfield 48, 3) := by decide +kernel
theorem d13_22 : decode jdk_38_method_24_code 22 = .ok (.return_, 1) := by decide +kernel
def Q_ad0 (Z : State) (r : Addr) (d1 : Addr) (dc : Addr) (kd : ClassId) (mc : Int32) (h0 : Heap) (rv : Option Value) (h : Heap) (L : List Loc) : Prop := ∃ w : Addr, ∃ kw : ClassId, rv = none ∧ Fr Z.heap.size L ∧ Keep h0 h [r] ∧ h0.size ≤ w ∧ Fld Z h r "java/util/AbstractList" "modCount" "I" (.int mc) ∧ Fld Z h r "java/util/ArrayList" "elementData" "[Ljava/lang/Object;" (.ref w) ∧ Fld Z h r "java/util/ArrayList" "size" "I" (.int (1 : Int32)) ∧ AL Z h w kw (.object "java/lang/Object") [(.ref d1), .null, .null, .null, .null, .null, .null, .null, .null, .null] ∧ Exa Z h w "[Ljava/lang/Object;" ∧ (Ovr Z kw "java/lang/Object")
set_option maxRecDepth 65536 in
set_option maxHeartbeats 40000000 in
theorem rm_ad0 (l : Launch) (Z : State) (a0 : Array Value) (hw : ∀ d ∈ tables_1, d.before a0 Z = true) (r : Addr) (d1 : Addr) (dc : Addr) (kd : ClassId) (mc : Int32) (h0 : Heap) (O0 : Ext Z.heap h0) (E0 : Exa Z h0 r "java/util/ArrayList") (Ed : Exa Z h0 d1 "com/example/barrault/barrault/model/PathPattern$Step") (F1 : Fld Z h0 r "java/util/AbstractList" "modCount" "I" (.int mc)) (F3 : Fld Z h0 r "java/util/ArrayList" "size" "I" (.int (0 : Int32))) (F2 : Fld Z h0 r "java/util/ArrayList" "elementData" "[Ljava/lang/Object;" (.ref dc)) (SD : Sta Z Z.heap "java/util/ArrayList" "DEFAULTCAPACITY_EMPTY_ELEMENTDATA" "[Ljava/lang/Object;" (.ref dc)) (AD : AL Z Z.heap dc kd (.object "java/lang/Object") []) (hn : Z.heap.size ≤ r) :
    Met1 l Z (⟨"java/util/ArrayList", "add", "(Ljava/lang/Object;[Ljava/lang/Object;I)V"⟩ : MethodName) jdk_38_method_24_code 4 none ({ frames := 3, cells := 1, slots := 10, locals := 41 } : Room) #[(.ref r), (.ref d1), (.ref dc), (.int (0 : Int32))] h0 (Q_ad0 Z r d1 dc kd mc h0) := by
  refine Met1.of_body (Ls := #[.val (.ref r), .val (.ref d1), .val (.ref dc), .val (.int (0 : Int32))]) pf_13 (fun m => by first | (simp [entryFrame, mkF, argsToLocals, Value.category]; done) | rfl) ?_
  intro p e s m below meth c T0 C X0 e0
  have N0 : Fr Z.heap.size [] := Fr.nil _
  refine Go.iloadN (pc' := 1) C X0 d13_0 rfl rfl ?_
  refine Go.aloadN (pc' := 2) C X0 d13_1 rfl rfl rfl ?_
  refine Go.alen (z := (0 : Int32)) (pc' := 3) C X0 e0 (AD.ext O0) rfl d13_2 rfl ?_
  refine Go.icmpNo (pc' := 6) C X0 d13_3 (teq (x := (0 : Int32)) (y := (0 : Int32)) (by decide)).2 rfl ?_
  refine Go.aloadN (pc' := 7) C X0 d13_6 rfl rfl rfl ?_
  refine Go.callP (y := (⟨"java/util/ArrayList", "grow", "()[Ljava/lang/Object;"⟩ : MethodName)) (a := r) (pc' := 10) C X0 (tw hw 103 rfl) (tw hw 104 rfl) (tw hw 106 rfl) (tw hw 105 rfl) E0 (by decide) (rm_gr0 l Z a0 hw r dc kd mc h0 O0 E0 F1 F3 F2 SD AD hn) (tw hw 107 rfl) (tw hw 17 rfl) e0 (argsL := []) (rest := []) (W := 0) rfl rfl pd_3 rfl (Nat.le_of_eq rfl) rfl (by decide) (by decide) (by decide) (by decide) d13_7 rfl ?_
  intro T102 v102 L102 X102 q102
  obtain ⟨w_102, kw_102, rfl, N102q, K102, B102_0, P102_0, P102_1, P102_2, P102_3, P102_4, p102_0⟩ := q102
  have N102 := Fr.app N0 N102q
  have n_w_102 : Z.heap.size ≤ w_102 := Nat.le_trans O0.1 B102_0
  have z_w_102 : h0.size ≤ w_102 := Nat.le_trans (Nat.le_refl _) B102_0
  refine Go.astoreN (Ls' := #[.val (.ref r), .val (.ref d1), .val (.ref w_102), .val (.int (0 : Int32))]) (pc' := 11) C X102 d13_10 rfl rfl rfl ?_
  refine Go.aloadN (pc' := 12) C X102 d13_11 rfl rfl rfl ?_
  refine Go.iloadN (pc' := 13) C X102 d13_12 rfl rfl ?_
  refine Go.aloadN (pc' := 14) C X102 d13_13 rfl rfl rfl ?_
  have c104 : Exa Z T102.heap d1 "com/example/barrault/barrault/model/PathPattern$Step" := (Exa.keep Ed K102)
  refine Go.stR (i := 0) (vs' := [(.ref d1), .null, .null, .null, .null, .null, .null, .null, .null, .null]) (pc' := 15) C X102 rfl P102_4 (by decide) (by decide) (by simp) rfl (AL.sto P102_4 p102_0 (Ins.of_exa c104 (tw hw 119 rfl))) rfl d13_14 rfl ?_
  intro T103 h103 X103 e103 W103 A103
  have N103 := Fr.snoc X103 N102 n_w_102
  refine Go.aloadN (pc' := 16) C X103 d13_15 rfl rfl rfl ?_
  refine Go.iloadN (pc' := 17) C X103 d13_16 rfl rfl ?_
  refine Go.iconst (z := (1 : Int32)) (pc' := 18) C X103 d13_17 rfl rfl ?_
  refine Go.iadd (pc' := 19) C X103 d13_18 rfl ?_
  rw [show ((0 : Int32) + (1 : Int32)) = (1 : Int32) from by decide]
  have ne106 : r ≠ w_102 := Nat.ne_of_lt (Nat.lt_of_lt_of_le E0.lt (Nat.le_trans (Nat.le_refl _) B102_0))
  have c107 : Fld Z h103 r "java/util/ArrayList" "size" "I" (.int (0 : Int32)) := (Fld.other W103 P102_2 (Or.inl ne106))
  have c108 : Exa Z h103 r "java/util/ArrayList" := (Exa.wr W103 (Exa.keep E0 K102))
  refine Go.putF (pc' := 22) (host := "") (ty := .int) C X103 (Or.inl (tw hw 73 rfl)) Via.refl e103 c107 c108 (Or.inl (tw hw 74 rfl)) (tw hw 16 rfl) (by decide) rfl rfl d13_19 rfl ?_
  intro T105 h105 X105 e105 W105 F105
  have N105 := Fr.snoc X105 N103 hn
  have K109 : Keep h0 h105 [r] := ((((Keep.refl h0 [r]).trans K102 (allS (Or.inl (by simp)) all0)).wr W103 (Or.inr z_w_102)).wr W105 (Or.inl (by simp)))
  have c110 : Fld Z h105 r "java/util/AbstractList" "modCount" "I" (.int mc) := (Fld.other W105 (Fld.other W103 P102_0 (Or.inl ne106)) (Or.inr (slot_ne (Or.inl (tw hw 37 rfl)) (Or.inl (tw hw 74 rfl)) (by decide) (t := .int) (t' := .int) (by decide) (by decide))))
  have c111 : Fld Z h105 r "java/util/ArrayList" "elementData" "[Ljava/lang/Object;" (.ref w_102) := (Fld.other W105 (Fld.other W103 P102_1 (Or.inl ne106)) (Or.inr (slot_ne (Or.inl (tw hw 40 rfl)) (Or.inl (tw hw 74 rfl)) (by decide) (t := (.array (.object "java/lang/Object"))) (t' := .int) (by decide) (by decide))))
  have c112 : AL Z h105 w_102 kw_102 (.object "java/lang/Object") [(.ref d1), .null, .null, .null, .null, .null, .null, .null, .null, .null] := (AL.other W105 A103 (Ne.symm ne106))
  have c113 : Exa Z h105 w_102 "[Ljava/lang/Object;" := (Exa.wr W105 (Exa.wr W103 P102_3))
  exact Go.retV C X105 rfl d13_22 (by rw [e105]; exact ⟨w_102, kw_102, rfl, N105, K109, z_w_102, c110, c111, F105, c112, c113, p102_0⟩) (by decide) (by decide)
theorem pd_4 : parseMethodDescriptor "(Ljava/lang/Object;[Ljava/lang/Object;I)V" = some ⟨[(.object "java/lang/Object"), (.array (.object "java/lang/Object")), .int], none⟩ := by decide +kernel
theorem pf_12 : plainFor (⟨"java/util/ArrayList", "add", "(Ljava/lang/Object;)Z"⟩ : MethodName) = true := plainFor_of_name (by first | (simp [plainName, overriddenIn]; done) | decide +kernel)
theorem d12_0 : decode jdk_38_method_25_code 0 = .ok (.aload_n 0, 1) := by decide +kernel
theorem d12_1 : decode jdk_38_method_25_code 1 = .ok (.dup, 1) := by decide +kernel
theorem d12_2 : decode jdk_38_method_25_code 2 = .ok (.getfield 63, 3) := by decide +kernel
theorem d12_5 : decode jdk_38_method_25_code 5 = .ok (.iconst 1, 1) := by decide +kernel
theorem d12_6 : decode jdk_38_method_25_code 6 = .ok (.iadd, 1) := by decide +kernel
theorem d12_7 : decode jdk_38_method_25_code 7 = .ok (.putfield 63, 3) := by decide +kernel
theorem d12_10 : decode jdk_38_method_25_code 10 = .ok (.aload_n 0, 1) := by decide +kernel
theorem d12_11 : decode jdk_38_method_25_code 11 = .ok (.aload_n 1, 1) := by decide +kernel
theorem d12_12 : decode jdk_38_method_25_code 12 = .ok (.aload_n 0, 1) := by decide +kernel
theorem d12_13 : decode jdk_38_method_25_code 13 = .ok (.getfield 9, 3) := by decide +kernel
theorem d12_16 : decode jdk_38_method_25_code 16 = .ok (.aload_n 0, 1) := by decide +kernel
theorem d12_17 : decode jdk_38_method_25_code 17 = .ok (.getfield 48, 3) := by decide +kernel
theorem d12_20 : decode jdk_38_method_25_code 20 = .ok (.invokevirtual 131, 3) := by decide +kernel
theorem d12_23 : decode jdk_38_method_25_code 23 = .ok (.iconst 1, 1) := by decide +kernel
theorem d12_24 : decode jdk_38_method_25_code 24 = .ok (.ireturn, 1) := by decide +kernel
def Q_add0 (Z : State) (r : Addr) (d1 : Addr) (dc : Addr) (kd : ClassId) (mc : Int32) (h0 : Heap) (rv : Option Value) (h : Heap) (L : List Loc) : Prop := ∃ w : Addr, ∃ kw : ClassId, rv = some (.int (1 : Int32)) ∧ Fr Z.heap.size L ∧ Keep h0 h [r] ∧ h0.size ≤ w ∧ Fld Z h r "java/util/AbstractList" "modCount" "I" (.int (mc + (1 : Int32))) ∧ Fld Z h r "java/util/ArrayList" "elementData" "[Ljava/lang/Object;" (.ref w) ∧ Fld Z h r "java/util/ArrayList" "size" "I" (.int (1 : Int32)) ∧ AL Z h w kw (.object "java/lang/Object") [(.ref d1), .null, .null, .null, .null, .null, .null, .null, .null, .null] ∧ Exa Z h w "[Ljava/lang/Object;" ∧ (Ovr Z kw "java/lang/Object")
set_option maxRecDepth 65536 in
set_option maxHeartbeats 40000000 in
theorem rm_add0 (l : Launch) (Z : State) (a0 : Array Value) (hw : ∀ d ∈ tables_1, d.before a0 Z = true) (r : Addr) (d1 : Addr) (dc : Addr) (kd : ClassId) (mc : Int32) (h0 : Heap) (O0 : Ext Z.heap h0) (E0 : Exa Z h0 r "java/util/ArrayList") (Ed : Exa Z h0 d1 "com/example/barrault/barrault/model/PathPattern$Step") (F1 : Fld Z h0 r "java/util/AbstractList" "modCount" "I" (.int mc)) (F3 : Fld Z h0 r "java/util/ArrayList" "size" "I" (.int (0 : Int32))) (F2 : Fld Z h0 r "java/util/ArrayList" "elementData" "[Ljava/lang/Object;" (.ref dc)) (SD : Sta Z Z.heap "java/util/ArrayList" "DEFAULTCAPACITY_EMPTY_ELEMENTDATA" "[Ljava/lang/Object;" (.ref dc)) (AD : AL Z Z.heap dc kd (.object "java/lang/Object") []) (hn : Z.heap.size ≤ r) :
    Met1 l Z (⟨"java/util/ArrayList", "add", "(Ljava/lang/Object;)Z"⟩ : MethodName) jdk_38_method_25_code 2 (some .boolean) ({ frames := 4, cells := 1, slots := 10, locals := 56 } : Room) #[(.ref r), (.ref d1)] h0 (Q_add0 Z r d1 dc kd mc h0) := by
  refine Met1.of_body (Ls := #[.val (.ref r), .val (.ref d1)]) pf_12 (fun m => by first | (simp [entryFrame, mkF, argsToLocals, Value.category]; done) | rfl) ?_
  intro p e s m below meth c T0 C X0 e0
  have N0 : Fr Z.heap.size [] := Fr.nil _
  refine Go.aloadN (pc' := 1) C X0 d12_0 rfl rfl rfl ?_
  refine Go.dup (pc' := 2) C X0 d12_1 rfl rfl ?_
  refine Go.getF (pc' := 5) (host := "") C X0 (Or.inl (tw hw 96 rfl)) (Via.of (tw hw 97 rfl)) e0 F1 d12_2 rfl ?_
  intro T101 X101 e101
  refine Go.iconst (z := (1 : Int32)) (pc' := 6) C X101 d12_5 rfl rfl ?_
  refine Go.iadd (pc' := 7) C X101 d12_6 rfl ?_
  refine Go.putF (pc' := 10) (host := "") (ty := .int) C X101 (Or.inl (tw hw 96 rfl)) (Via.of (tw hw 97 rfl)) e101 F1 E0 (Or.inl (tw hw 37 rfl)) (tw hw 16 rfl) (by decide) rfl rfl d12_7 rfl ?_
  intro T102 h102 X102 e102 W102 F102
  have N102 := Fr.snoc X102 N0 hn
  refine Go.aloadN (pc' := 11) C X102 d12_10 rfl rfl rfl ?_
  refine Go.aloadN (pc' := 12) C X102 d12_11 rfl rfl rfl ?_
  refine Go.aloadN (pc' := 13) C X102 d12_12 rfl rfl rfl ?_
  have c104 : Fld Z h102 r "java/util/ArrayList" "elementData" "[Ljava/lang/Object;" (.ref dc) := (Fld.other W102 F2 (Or.inr (slot_ne (Or.inl (tw hw 40 rfl)) (Or.inl (tw hw 37 rfl)) (by decide) (t := (.array (.object "java/lang/Object"))) (t' := .int) (by decide) (by decide))))
  refine Go.getF (pc' := 16) (host := "") C X102 (Or.inl (tw hw 39 rfl)) Via.refl e102 c104 d12_13 rfl ?_
  intro T103 X103 e103
  refine Go.aloadN (pc' := 17) C X103 d12_16 rfl rfl rfl ?_
  have c106 : Fld Z h102 r "java/util/ArrayList" "size" "I" (.int (0 : Int32)) := (Fld.other W102 F3 (Or.inr (slot_ne (Or.inl (tw hw 74 rfl)) (Or.inl (tw hw 37 rfl)) (by decide) (t := .int) (t' := .int) (by decide) (by decide))))
  refine Go.getF (pc' := 20) (host := "") C X103 (Or.inl (tw hw 73 rfl)) Via.refl e103 c106 d12_17 rfl ?_
  intro T105 X105 e105
  have c108 : Exa Z h102 r "java/util/ArrayList" := (Exa.wr W102 E0)
  have c109 : Exa Z h102 d1 "com/example/barrault/barrault/model/PathPattern$Step" := (Exa.wr W102 Ed)
  have O110 : Ext Z.heap h102 := (Ext.wr O0 W102 hn)
  refine Go.callP (y := (⟨"java/util/ArrayList", "add", "(Ljava/lang/Object;[Ljava/lang/Object;I)V"⟩ : MethodName)) (a := r) (pc' := 23) C X105 (tw hw 98 rfl) (tw hw 99 rfl) (tw hw 101 rfl) (tw hw 100 rfl) c108 (by decide) (rm_ad0 l Z a0 hw r d1 dc kd ((mc + (1 : Int32))) h102 O110 c108 c109 F102 c106 c104 SD AD hn) (tw hw 102 rfl) (tw hw 17 rfl) e105 (argsL := [(.ref d1), (.ref dc), (.int (0 : Int32))]) (rest := []) (W := 0) rfl rfl pd_4 rfl (Nat.le_of_eq rfl) rfl (by decide) (by decide) (by decide) (by decide) d12_20 rfl ?_
  intro T107 v107 L107 X107 q107
  obtain ⟨w_107, kw_107, rfl, N107q, K107, B107_0, P107_0, P107_1, P107_2, P107_3, P107_4, p107_0⟩ := q107
  have N107 := Fr.app N102 N107q
  have n_w_107 : Z.heap.size ≤ w_107 := Nat.le_trans O110.1 B107_0
  have z_w_107 : h0.size ≤ w_107 := Nat.le_trans (Nat.le_trans (Nat.le_refl _) (Nat.le_of_eq W102.size.symm)) B107_0
  refine Go.iconst (z := (1 : Int32)) (pc' := 24) C X107 d12_23 rfl rfl ?_
  have K111 : Keep h0 T107.heap [r] := (((Keep.refl h0 [r]).wr W102 (Or.inl (by simp))).trans K107 (allS (Or.inl (by simp)) all0))
  exact Go.retN C X107 rfl d12_24 (by simp) ⟨w_107, kw_107, rfl, N107, K111, z_w_107, P107_0, P107_1, P107_2, P107_3, P107_4, p107_0⟩ (by decide) (by decide)
def Q_ad1 (Z : State) (r : Addr) (d1 : Addr) (d2 : Addr) (w : Addr) (kw : ClassId) (mc : Int32) (h0 : Heap) (rv : Option Value) (h : Heap) (L : List Loc) : Prop := rv = none ∧ Fr Z.heap.size L ∧ Keep h0 h [r, w] ∧ Fld Z h r "java/util/AbstractList" "modCount" "I" (.int mc) ∧ Fld Z h r "java/util/ArrayList" "elementData" "[Ljava/lang/Object;" (.ref w) ∧ Fld Z h r "java/util/ArrayList" "size" "I" (.int (2 : Int32)) ∧ AL Z h w kw (.object "java/lang/Object") [(.ref d1), (.ref d2), .null, .null, .null, .null, .null, .null, .null, .null]
set_option maxRecDepth 65536 in
set_option maxHeartbeats 40000000 in
theorem rm_ad1 (l : Launch) (Z : State) (a0 : Array Value) (hw : ∀ d ∈ tables_1, d.before a0 Z = true) (r : Addr) (d1 : Addr) (d2 : Addr) (w : Addr) (kw : ClassId) (mc : Int32) (h0 : Heap) (O0 : Ext Z.heap h0) (E0 : Exa Z h0 r "java/util/ArrayList") (Ed : Exa Z h0 d2 "com/example/barrault/barrault/model/PathPattern$Step") (F1 : Fld Z h0 r "java/util/AbstractList" "modCount" "I" (.int mc)) (F2 : Fld Z h0 r "java/util/ArrayList" "elementData" "[Ljava/lang/Object;" (.ref w)) (F3 : Fld Z h0 r "java/util/ArrayList" "size" "I" (.int (1 : Int32))) (Ew : Exa Z h0 w "[Ljava/lang/Object;") (Aw : AL Z h0 w kw (.object "java/lang/Object") [(.ref d1), .null, .null, .null, .null, .null, .null, .null, .null, .null]) (hn : Z.heap.size ≤ r) (hnw : Z.heap.size ≤ w) (ho : Ovr Z kw "java/lang/Object") :
    Met1 l Z (⟨"java/util/ArrayList", "add", "(Ljava/lang/Object;[Ljava/lang/Object;I)V"⟩ : MethodName) jdk_38_method_24_code 4 none ({ frames := 0, cells := 0, slots := 0, locals := 0 } : Room) #[(.ref r), (.ref d2), (.ref w), (.int (1 : Int32))] h0 (Q_ad1 Z r d1 d2 w kw mc h0) := by
  refine Met1.of_body (Ls := #[.val (.ref r), .val (.ref d2), .val (.ref w), .val (.int (1 : Int32))]) pf_13 (fun m => by first | (simp [entryFrame, mkF, argsToLocals, Value.category]; done) | rfl) ?_
  intro p e s m below meth c T0 C X0 e0
  have N0 : Fr Z.heap.size [] := Fr.nil _
  refine Go.iloadN (pc' := 1) C X0 d13_0 rfl rfl ?_
  refine Go.aloadN (pc' := 2) C X0 d13_1 rfl rfl rfl ?_
  refine Go.alen (z := (10 : Int32)) (pc' := 3) C X0 e0 Aw rfl d13_2 rfl ?_
  refine Go.icmpYes (pc' := 11) C X0 d13_3 (feq (x := (1 : Int32)) (y := (10 : Int32)) (by decide)).2 (by decide) (by decide) ?_
  refine Go.aloadN (pc' := 12) C X0 d13_11 rfl rfl rfl ?_
  refine Go.iloadN (pc' := 13) C X0 d13_12 rfl rfl ?_
  refine Go.aloadN (pc' := 14) C X0 d13_13 rfl rfl rfl ?_
  refine Go.stR (i := 1) (vs' := [(.ref d1), (.ref d2), .null, .null, .null, .null, .null, .null, .null, .null]) (pc' := 15) C X0 e0 Aw (by decide) (by decide) (by simp) rfl (AL.sto Aw ho (Ins.of_exa Ed (tw hw 119 rfl))) rfl d13_14 rfl ?_
  intro T102 h102 X102 e102 W102 A102
  have N102 := Fr.snoc X102 N0 hnw
  refine Go.aloadN (pc' := 16) C X102 d13_15 rfl rfl rfl ?_
  refine Go.iloadN (pc' := 17) C X102 d13_16 rfl rfl ?_
  refine Go.iconst (z := (1 : Int32)) (pc' := 18) C X102 d13_17 rfl rfl ?_
  refine Go.iadd (pc' := 19) C X102 d13_18 rfl ?_
  rw [show ((1 : Int32) + (1 : Int32)) = (2 : Int32) from by decide]
  have c104 : Exa Z h102 r "java/util/ArrayList" := (Exa.wr W102 E0)
  have c105 : Exa Z h102 w "[Ljava/lang/Object;" := (Exa.wr W102 Ew)
  have ne106 : r ≠ w := ne_exa c104 c105 (by decide)
  have c107 : Fld Z h102 r "java/util/ArrayList" "size" "I" (.int (1 : Int32)) := (Fld.other W102 F3 (Or.inl ne106))
  refine Go.putF (pc' := 22) (host := "") (ty := .int) C X102 (Or.inl (tw hw 73 rfl)) Via.refl e102 c107 c104 (Or.inl (tw hw 74 rfl)) (tw hw 16 rfl) (by decide) rfl rfl d13_19 rfl ?_
  intro T103 h103 X103 e103 W103 F103
  have N103 := Fr.snoc X103 N102 hn
  have K108 : Keep h0 h103 [r, w] := (((Keep.refl h0 [r, w]).wr W102 (Or.inl (by simp))).wr W103 (Or.inl (by simp)))
  have c109 : Fld Z h103 r "java/util/AbstractList" "modCount" "I" (.int mc) := (Fld.other W103 (Fld.other W102 F1 (Or.inl ne106)) (Or.inr (slot_ne (Or.inl (tw hw 37 rfl)) (Or.inl (tw hw 74 rfl)) (by decide) (t := .int) (t' := .int) (by decide) (by decide))))
  have c110 : Fld Z h103 r "java/util/ArrayList" "elementData" "[Ljava/lang/Object;" (.ref w) := (Fld.other W103 (Fld.other W102 F2 (Or.inl ne106)) (Or.inr (slot_ne (Or.inl (tw hw 40 rfl)) (Or.inl (tw hw 74 rfl)) (by decide) (t := (.array (.object "java/lang/Object"))) (t' := .int) (by decide) (by decide))))
  have c111 : AL Z h103 w kw (.object "java/lang/Object") [(.ref d1), (.ref d2), .null, .null, .null, .null, .null, .null, .null, .null] := (AL.other W103 A102 (Ne.symm ne106))
  exact Go.retV C X103 rfl d13_22 (by rw [e103]; exact ⟨rfl, N103, K108, c109, c110, F103, c111⟩) (by decide) (by decide)
def Q_add1 (Z : State) (r : Addr) (d1 : Addr) (d2 : Addr) (w : Addr) (kw : ClassId) (mc : Int32) (h0 : Heap) (rv : Option Value) (h : Heap) (L : List Loc) : Prop := rv = some (.int (1 : Int32)) ∧ Fr Z.heap.size L ∧ Keep h0 h [r, w] ∧ Fld Z h r "java/util/AbstractList" "modCount" "I" (.int (mc + (1 : Int32))) ∧ Fld Z h r "java/util/ArrayList" "elementData" "[Ljava/lang/Object;" (.ref w) ∧ Fld Z h r "java/util/ArrayList" "size" "I" (.int (2 : Int32)) ∧ AL Z h w kw (.object "java/lang/Object") [(.ref d1), (.ref d2), .null, .null, .null, .null, .null, .null, .null, .null]
set_option maxRecDepth 65536 in
set_option maxHeartbeats 40000000 in
theorem rm_add1 (l : Launch) (Z : State) (a0 : Array Value) (hw : ∀ d ∈ tables_1, d.before a0 Z = true) (r : Addr) (d1 : Addr) (d2 : Addr) (w : Addr) (kw : ClassId) (mc : Int32) (h0 : Heap) (O0 : Ext Z.heap h0) (E0 : Exa Z h0 r "java/util/ArrayList") (Ed : Exa Z h0 d2 "com/example/barrault/barrault/model/PathPattern$Step") (F1 : Fld Z h0 r "java/util/AbstractList" "modCount" "I" (.int mc)) (F2 : Fld Z h0 r "java/util/ArrayList" "elementData" "[Ljava/lang/Object;" (.ref w)) (F3 : Fld Z h0 r "java/util/ArrayList" "size" "I" (.int (1 : Int32))) (Ew : Exa Z h0 w "[Ljava/lang/Object;") (Aw : AL Z h0 w kw (.object "java/lang/Object") [(.ref d1), .null, .null, .null, .null, .null, .null, .null, .null, .null]) (hn : Z.heap.size ≤ r) (hnw : Z.heap.size ≤ w) (ho : Ovr Z kw "java/lang/Object") :
    Met1 l Z (⟨"java/util/ArrayList", "add", "(Ljava/lang/Object;)Z"⟩ : MethodName) jdk_38_method_25_code 2 (some .boolean) ({ frames := 1, cells := 0, slots := 0, locals := 15 } : Room) #[(.ref r), (.ref d2)] h0 (Q_add1 Z r d1 d2 w kw mc h0) := by
  refine Met1.of_body (Ls := #[.val (.ref r), .val (.ref d2)]) pf_12 (fun m => by first | (simp [entryFrame, mkF, argsToLocals, Value.category]; done) | rfl) ?_
  intro p e s m below meth c T0 C X0 e0
  have N0 : Fr Z.heap.size [] := Fr.nil _
  refine Go.aloadN (pc' := 1) C X0 d12_0 rfl rfl rfl ?_
  refine Go.dup (pc' := 2) C X0 d12_1 rfl rfl ?_
  refine Go.getF (pc' := 5) (host := "") C X0 (Or.inl (tw hw 96 rfl)) (Via.of (tw hw 97 rfl)) e0 F1 d12_2 rfl ?_
  intro T101 X101 e101
  refine Go.iconst (z := (1 : Int32)) (pc' := 6) C X101 d12_5 rfl rfl ?_
  refine Go.iadd (pc' := 7) C X101 d12_6 rfl ?_
  refine Go.putF (pc' := 10) (host := "") (ty := .int) C X101 (Or.inl (tw hw 96 rfl)) (Via.of (tw hw 97 rfl)) e101 F1 E0 (Or.inl (tw hw 37 rfl)) (tw hw 16 rfl) (by decide) rfl rfl d12_7 rfl ?_
  intro T102 h102 X102 e102 W102 F102
  have N102 := Fr.snoc X102 N0 hn
  refine Go.aloadN (pc' := 11) C X102 d12_10 rfl rfl rfl ?_
  refine Go.aloadN (pc' := 12) C X102 d12_11 rfl rfl rfl ?_
  refine Go.aloadN (pc' := 13) C X102 d12_12 rfl rfl rfl ?_
  have c104 : Fld Z h102 r "java/util/ArrayList" "elementData" "[Ljava/lang/Object;" (.ref w) := (Fld.other W102 F2 (Or.inr (slot_ne (Or.inl (tw hw 40 rfl)) (Or.inl (tw hw 37 rfl)) (by decide) (t := (.array (.object "java/lang/Object"))) (t' := .int) (by decide) (by decide))))
  refine Go.getF (pc' := 16) (host := "") C X102 (Or.inl (tw hw 39 rfl)) Via.refl e102 c104 d12_13 rfl ?_
  intro T103 X103 e103
  refine Go.aloadN (pc' := 17) C X103 d12_16 rfl rfl rfl ?_
  have c106 : Fld Z h102 r "java/util/ArrayList" "size" "I" (.int (1 : Int32)) := (Fld.other W102 F3 (Or.inr (slot_ne (Or.inl (tw hw 74 rfl)) (Or.inl (tw hw 37 rfl)) (by decide) (t := .int) (t' := .int) (by decide) (by decide))))
  refine Go.getF (pc' := 20) (host := "") C X103 (Or.inl (tw hw 73 rfl)) Via.refl e103 c106 d12_17 rfl ?_
  intro T105 X105 e105
  have c108 : Exa Z h102 r "java/util/ArrayList" := (Exa.wr W102 E0)
  have c109 : Exa Z h102 d2 "com/example/barrault/barrault/model/PathPattern$Step" := (Exa.wr W102 Ed)
  have c110 : Exa Z h102 w "[Ljava/lang/Object;" := (Exa.wr W102 Ew)
  have ne111 : w ≠ r := ne_exa c110 c108 (by decide)
  have c112 : AL Z h102 w kw (.object "java/lang/Object") [(.ref d1), .null, .null, .null, .null, .null, .null, .null, .null, .null] := (AL.other W102 Aw ne111)
  have O113 : Ext Z.heap h102 := (Ext.wr O0 W102 hn)
  refine Go.callP (y := (⟨"java/util/ArrayList", "add", "(Ljava/lang/Object;[Ljava/lang/Object;I)V"⟩ : MethodName)) (a := r) (pc' := 23) C X105 (tw hw 98 rfl) (tw hw 99 rfl) (tw hw 101 rfl) (tw hw 100 rfl) c108 (by decide) (rm_ad1 l Z a0 hw r d1 d2 w kw ((mc + (1 : Int32))) h102 O113 c108 c109 F102 c104 c106 c110 c112 hn hnw ho) (tw hw 102 rfl) (tw hw 17 rfl) e105 (argsL := [(.ref d2), (.ref w), (.int (1 : Int32))]) (rest := []) (W := 0) rfl rfl pd_4 rfl (Nat.le_of_eq rfl) rfl (by decide) (by decide) (by decide) (by decide) d12_20 rfl ?_
  intro T107 v107 L107 X107 q107
  obtain ⟨rfl, N107q, K107, P107_0, P107_1, P107_2, P107_3⟩ := q107
  have N107 := Fr.app N102 N107q
  refine Go.iconst (z := (1 : Int32)) (pc' := 24) C X107 d12_23 rfl rfl ?_
  have K114 : Keep h0 T107.heap [r, w] := (((Keep.refl h0 [r, w]).wr W102 (Or.inl (by simp))).trans K107 (allS (Or.inl (by simp)) (allS (Or.inl (by simp)) all0)))
  exact Go.retN C X107 rfl d12_24 (by simp) ⟨rfl, N107, K114, P107_0, P107_1, P107_2, P107_3⟩ (by decide) (by decide)
def Q_ad2 (Z : State) (r : Addr) (d1 : Addr) (d2 : Addr) (d3 : Addr) (w : Addr) (kw : ClassId) (mc : Int32) (h0 : Heap) (rv : Option Value) (h : Heap) (L : List Loc) : Prop := rv = none ∧ Fr Z.heap.size L ∧ Keep h0 h [r, w] ∧ Fld Z h r "java/util/AbstractList" "modCount" "I" (.int mc) ∧ Fld Z h r "java/util/ArrayList" "elementData" "[Ljava/lang/Object;" (.ref w) ∧ Fld Z h r "java/util/ArrayList" "size" "I" (.int (3 : Int32)) ∧ AL Z h w kw (.object "java/lang/Object") [(.ref d1), (.ref d2), (.ref d3), .null, .null, .null, .null, .null, .null, .null]
set_option maxRecDepth 65536 in
set_option maxHeartbeats 40000000 in
theorem rm_ad2 (l : Launch) (Z : State) (a0 : Array Value) (hw : ∀ d ∈ tables_1, d.before a0 Z = true) (r : Addr) (d1 : Addr) (d2 : Addr) (d3 : Addr) (w : Addr) (kw : ClassId) (mc : Int32) (h0 : Heap) (O0 : Ext Z.heap h0) (E0 : Exa Z h0 r "java/util/ArrayList") (Ed : Exa Z h0 d3 "com/example/barrault/barrault/model/PathPattern$Step") (F1 : Fld Z h0 r "java/util/AbstractList" "modCount" "I" (.int mc)) (F2 : Fld Z h0 r "java/util/ArrayList" "elementData" "[Ljava/lang/Object;" (.ref w)) (F3 : Fld Z h0 r "java/util/ArrayList" "size" "I" (.int (2 : Int32))) (Ew : Exa Z h0 w "[Ljava/lang/Object;") (Aw : AL Z h0 w kw (.object "java/lang/Object") [(.ref d1), (.ref d2), .null, .null, .null, .null, .null, .null, .null, .null]) (hn : Z.heap.size ≤ r) (hnw : Z.heap.size ≤ w) (ho : Ovr Z kw "java/lang/Object") :
    Met1 l Z (⟨"java/util/ArrayList", "add", "(Ljava/lang/Object;[Ljava/lang/Object;I)V"⟩ : MethodName) jdk_38_method_24_code 4 none ({ frames := 0, cells := 0, slots := 0, locals := 0 } : Room) #[(.ref r), (.ref d3), (.ref w), (.int (2 : Int32))] h0 (Q_ad2 Z r d1 d2 d3 w kw mc h0) := by
  refine Met1.of_body (Ls := #[.val (.ref r), .val (.ref d3), .val (.ref w), .val (.int (2 : Int32))]) pf_13 (fun m => by first | (simp [entryFrame, mkF, argsToLocals, Value.category]; done) | rfl) ?_
  intro p e s m below meth c T0 C X0 e0
  have N0 : Fr Z.heap.size [] := Fr.nil _
  refine Go.iloadN (pc' := 1) C X0 d13_0 rfl rfl ?_
  refine Go.aloadN (pc' := 2) C X0 d13_1 rfl rfl rfl ?_
  refine Go.alen (z := (10 : Int32)) (pc' := 3) C X0 e0 Aw rfl d13_2 rfl ?_
  refine Go.icmpYes (pc' := 11) C X0 d13_3 (feq (x := (2 : Int32)) (y := (10 : Int32)) (by decide)).2 (by decide) (by decide) ?_
  refine Go.aloadN (pc' := 12) C X0 d13_11 rfl rfl rfl ?_
  refine Go.iloadN (pc' := 13) C X0 d13_12 rfl rfl ?_
  refine Go.aloadN (pc' := 14) C X0 d13_13 rfl rfl rfl ?_
  refine Go.stR (i := 2) (vs' := [(.ref d1), (.ref d2), (.ref d3), .null, .null, .null, .null, .null, .null, .null]) (pc' := 15) C X0 e0 Aw (by decide) (by decide) (by simp) rfl (AL.sto Aw ho (Ins.of_exa Ed (tw hw 119 rfl))) rfl d13_14 rfl ?_
  intro T102 h102 X102 e102 W102 A102
  have N102 := Fr.snoc X102 N0 hnw
  refine Go.aloadN (pc' := 16) C X102 d13_15 rfl rfl rfl ?_
  refine Go.iloadN (pc' := 17) C X102 d13_16 rfl rfl ?_
  refine Go.iconst (z := (1 : Int32)) (pc' := 18) C X102 d13_17 rfl rfl ?_
  refine Go.iadd (pc' := 19) C X102 d13_18 rfl ?_
  rw [show ((2 : Int32) + (1 : Int32)) = (3 : Int32) from by decide]
  have c104 : Exa Z h102 r "java/util/ArrayList" := (Exa.wr W102 E0)
  have c105 : Exa Z h102 w "[Ljava/lang/Object;" := (Exa.wr W102 Ew)
  have ne106 : r ≠ w := ne_exa c104 c105 (by decide)
  have c107 : Fld Z h102 r "java/util/ArrayList" "size" "I" (.int (2 : Int32)) := (Fld.other W102 F3 (Or.inl ne106))
  refine Go.putF (pc' := 22) (host := "") (ty := .int) C X102 (Or.inl (tw hw 73 rfl)) Via.refl e102 c107 c104 (Or.inl (tw hw 74 rfl)) (tw hw 16 rfl) (by decide) rfl rfl d13_19 rfl ?_
  intro T103 h103 X103 e103 W103 F103
  have N103 := Fr.snoc X103 N102 hn
  have K108 : Keep h0 h103 [r, w] := (((Keep.refl h0 [r, w]).wr W102 (Or.inl (by simp))).wr W103 (Or.inl (by simp)))
  have c109 : Fld Z h103 r "java/util/AbstractList" "modCount" "I" (.int mc) := (Fld.other W103 (Fld.other W102 F1 (Or.inl ne106)) (Or.inr (slot_ne (Or.inl (tw hw 37 rfl)) (Or.inl (tw hw 74 rfl)) (by decide) (t := .int) (t' := .int) (by decide) (by decide))))
  have c110 : Fld Z h103 r "java/util/ArrayList" "elementData" "[Ljava/lang/Object;" (.ref w) := (Fld.other W103 (Fld.other W102 F2 (Or.inl ne106)) (Or.inr (slot_ne (Or.inl (tw hw 40 rfl)) (Or.inl (tw hw 74 rfl)) (by decide) (t := (.array (.object "java/lang/Object"))) (t' := .int) (by decide) (by decide))))
  have c111 : AL Z h103 w kw (.object "java/lang/Object") [(.ref d1), (.ref d2), (.ref d3), .null, .null, .null, .null, .null, .null, .null] := (AL.other W103 A102 (Ne.symm ne106))
  exact Go.retV C X103 rfl d13_22 (by rw [e103]; exact ⟨rfl, N103, K108, c109, c110, F103, c111⟩) (by decide) (by decide)
def Q_add2 (Z : State) (r : Addr) (d1 : Addr) (d2 : Addr) (d3 : Addr) (w : Addr) (kw : ClassId) (mc : Int32) (h0 : Heap) (rv : Option Value) (h : Heap) (L : List Loc) : Prop := rv = some (.int (1 : Int32)) ∧ Fr Z.heap.size L ∧ Keep h0 h [r, w] ∧ Fld Z h r "java/util/AbstractList" "modCount" "I" (.int (mc + (1 : Int32))) ∧ Fld Z h r "java/util/ArrayList" "elementData" "[Ljava/lang/Object;" (.ref w) ∧ Fld Z h r "java/util/ArrayList" "size" "I" (.int (3 : Int32)) ∧ AL Z h w kw (.object "java/lang/Object") [(.ref d1), (.ref d2), (.ref d3), .null, .null, .null, .null, .null, .null, .null]
set_option maxRecDepth 65536 in
set_option maxHeartbeats 40000000 in
theorem rm_add2 (l : Launch) (Z : State) (a0 : Array Value) (hw : ∀ d ∈ tables_1, d.before a0 Z = true) (r : Addr) (d1 : Addr) (d2 : Addr) (d3 : Addr) (w : Addr) (kw : ClassId) (mc : Int32) (h0 : Heap) (O0 : Ext Z.heap h0) (E0 : Exa Z h0 r "java/util/ArrayList") (Ed : Exa Z h0 d3 "com/example/barrault/barrault/model/PathPattern$Step") (F1 : Fld Z h0 r "java/util/AbstractList" "modCount" "I" (.int mc)) (F2 : Fld Z h0 r "java/util/ArrayList" "elementData" "[Ljava/lang/Object;" (.ref w)) (F3 : Fld Z h0 r "java/util/ArrayList" "size" "I" (.int (2 : Int32))) (Ew : Exa Z h0 w "[Ljava/lang/Object;") (Aw : AL Z h0 w kw (.object "java/lang/Object") [(.ref d1), (.ref d2), .null, .null, .null, .null, .null, .null, .null, .null]) (hn : Z.heap.size ≤ r) (hnw : Z.heap.size ≤ w) (ho : Ovr Z kw "java/lang/Object") :
    Met1 l Z (⟨"java/util/ArrayList", "add", "(Ljava/lang/Object;)Z"⟩ : MethodName) jdk_38_method_25_code 2 (some .boolean) ({ frames := 1, cells := 0, slots := 0, locals := 15 } : Room) #[(.ref r), (.ref d3)] h0 (Q_add2 Z r d1 d2 d3 w kw mc h0) := by
  refine Met1.of_body (Ls := #[.val (.ref r), .val (.ref d3)]) pf_12 (fun m => by first | (simp [entryFrame, mkF, argsToLocals, Value.category]; done) | rfl) ?_
  intro p e s m below meth c T0 C X0 e0
  have N0 : Fr Z.heap.size [] := Fr.nil _
  refine Go.aloadN (pc' := 1) C X0 d12_0 rfl rfl rfl ?_
  refine Go.dup (pc' := 2) C X0 d12_1 rfl rfl ?_
  refine Go.getF (pc' := 5) (host := "") C X0 (Or.inl (tw hw 96 rfl)) (Via.of (tw hw 97 rfl)) e0 F1 d12_2 rfl ?_
  intro T101 X101 e101
  refine Go.iconst (z := (1 : Int32)) (pc' := 6) C X101 d12_5 rfl rfl ?_
  refine Go.iadd (pc' := 7) C X101 d12_6 rfl ?_
  refine Go.putF (pc' := 10) (host := "") (ty := .int) C X101 (Or.inl (tw hw 96 rfl)) (Via.of (tw hw 97 rfl)) e101 F1 E0 (Or.inl (tw hw 37 rfl)) (tw hw 16 rfl) (by decide) rfl rfl d12_7 rfl ?_
  intro T102 h102 X102 e102 W102 F102
  have N102 := Fr.snoc X102 N0 hn
  refine Go.aloadN (pc' := 11) C X102 d12_10 rfl rfl rfl ?_
  refine Go.aloadN (pc' := 12) C X102 d12_11 rfl rfl rfl ?_
  refine Go.aloadN (pc' := 13) C X102 d12_12 rfl rfl rfl ?_
  have c104 : Fld Z h102 r "java/util/ArrayList" "elementData" "[Ljava/lang/Object;" (.ref w) := (Fld.other W102 F2 (Or.inr (slot_ne (Or.inl (tw hw 40 rfl)) (Or.inl (tw hw 37 rfl)) (by decide) (t := (.array (.object "java/lang/Object"))) (t' := .int) (by decide) (by decide))))
  refine Go.getF (pc' := 16) (host := "") C X102 (Or.inl (tw hw 39 rfl)) Via.refl e102 c104 d12_13 rfl ?_
  intro T103 X103 e103
  refine Go.aloadN (pc' := 17) C X103 d12_16 rfl rfl rfl ?_
  have c106 : Fld Z h102 r "java/util/ArrayList" "size" "I" (.int (2 : Int32)) := (Fld.other W102 F3 (Or.inr (slot_ne (Or.inl (tw hw 74 rfl)) (Or.inl (tw hw 37 rfl)) (by decide) (t := .int) (t' := .int) (by decide) (by decide))))
  refine Go.getF (pc' := 20) (host := "") C X103 (Or.inl (tw hw 73 rfl)) Via.refl e103 c106 d12_17 rfl ?_
  intro T105 X105 e105
  have c108 : Exa Z h102 r "java/util/ArrayList" := (Exa.wr W102 E0)
  have c109 : Exa Z h102 d3 "com/example/barrault/barrault/model/PathPattern$Step" := (Exa.wr W102 Ed)
  have c110 : Exa Z h102 w "[Ljava/lang/Object;" := (Exa.wr W102 Ew)
  have ne111 : w ≠ r := ne_exa c110 c108 (by decide)
  have c112 : AL Z h102 w kw (.object "java/lang/Object") [(.ref d1), (.ref d2), .null, .null, .null, .null, .null, .null, .null, .null] := (AL.other W102 Aw ne111)
  have O113 : Ext Z.heap h102 := (Ext.wr O0 W102 hn)
  refine Go.callP (y := (⟨"java/util/ArrayList", "add", "(Ljava/lang/Object;[Ljava/lang/Object;I)V"⟩ : MethodName)) (a := r) (pc' := 23) C X105 (tw hw 98 rfl) (tw hw 99 rfl) (tw hw 101 rfl) (tw hw 100 rfl) c108 (by decide) (rm_ad2 l Z a0 hw r d1 d2 d3 w kw ((mc + (1 : Int32))) h102 O113 c108 c109 F102 c104 c106 c110 c112 hn hnw ho) (tw hw 102 rfl) (tw hw 17 rfl) e105 (argsL := [(.ref d3), (.ref w), (.int (2 : Int32))]) (rest := []) (W := 0) rfl rfl pd_4 rfl (Nat.le_of_eq rfl) rfl (by decide) (by decide) (by decide) (by decide) d12_20 rfl ?_
  intro T107 v107 L107 X107 q107
  obtain ⟨rfl, N107q, K107, P107_0, P107_1, P107_2, P107_3⟩ := q107
  have N107 := Fr.app N102 N107q
  refine Go.iconst (z := (1 : Int32)) (pc' := 24) C X107 d12_23 rfl rfl ?_
  have K114 : Keep h0 T107.heap [r, w] := (((Keep.refl h0 [r, w]).wr W102 (Or.inl (by simp))).trans K107 (allS (Or.inl (by simp)) (allS (Or.inl (by simp)) all0)))
  exact Go.retN C X107 rfl d12_24 (by simp) ⟨rfl, N107, K114, P107_0, P107_1, P107_2, P107_3⟩ (by decide) (by decide)
theorem pf_26 : plainFor (⟨"java/util/Objects", "requireNonNull", "(Ljava/lang/Object;)Ljava/lang/Object;"⟩ : MethodName) = true := plainFor_of_name (by first | (simp [plainName, overriddenIn]; done) | decide +kernel)
theorem d26_0 : decode jdk_31_method_10_code 0 = .ok (.aload_n 0, 1) := by decide +kernel
theorem d26_1 : decode jdk_31_method_10_code 1 = .ok (.ifnonnull 11, 3) := by decide +kernel
theorem d26_12 : decode jdk_31_method_10_code 12 = .ok (.aload_n 0, 1) := by decide +kernel
theorem d26_13 : decode jdk_31_method_10_code 13 = .ok (.areturn, 1) := by decide +kernel
def Q_rn (Z : State) (d : Addr) (h0 : Heap) (rv : Option Value) (h : Heap) (L : List Loc) : Prop := rv = some (.ref d) ∧ L = [] ∧ h = h0
set_option maxRecDepth 65536 in
set_option maxHeartbeats 40000000 in
theorem rm_rn (l : Launch) (Z : State) (a0 : Array Value) (hw : ∀ d ∈ tables_1, d.before a0 Z = true) (d : Addr) (h0 : Heap) (O0 : Ext Z.heap h0) :
    Met1 l Z (⟨"java/util/Objects", "requireNonNull", "(Ljava/lang/Object;)Ljava/lang/Object;"⟩ : MethodName) jdk_31_method_10_code 1 (some (.object "java/lang/Object")) ({ frames := 0, cells := 0, slots := 0, locals := 0 } : Room) #[(.ref d)] h0 (Q_rn Z d h0) := by
  refine Met1.of_body (Ls := #[.val (.ref d)]) pf_26 (fun m => by first | (simp [entryFrame, mkF, argsToLocals, Value.category]; done) | rfl) ?_
  intro p e s m below meth c T0 C X0 e0
  have N0 : Fr Z.heap.size [] := Fr.nil _
  refine Go.aloadN (pc' := 1) C X0 d26_0 rfl rfl rfl ?_
  refine Go.ifnonnullYes (pc' := 12) C X0 d26_1 (by decide) (by decide) ?_
  refine Go.aloadN (pc' := 13) C X0 d26_12 rfl rfl rfl ?_
  exact Go.retA C X0 rfl d26_13 rfl rfl rfl (by rw [e0]; exact ⟨rfl, rfl, rfl⟩) (by decide) (by decide)
theorem pf_25 : plainFor (⟨"java/util/ImmutableCollections$AbstractImmutableCollection", "<init>", "()V"⟩ : MethodName) = true := plainFor_of_name (by first | (simp [plainName, overriddenIn]; done) | decide +kernel)
theorem d25_0 : decode jdk_47_method_1_code 0 = .ok (.aload_n 0, 1) := by decide +kernel
theorem d25_1 : decode jdk_47_method_1_code 1 = .ok (.invokespecial 1, 3) := by decide +kernel
theorem d25_4 : decode jdk_47_method_1_code 4 = .ok (.return_, 1) := by decide +kernel
def Q_aic (Z : State) (r : Addr) (h0 : Heap) (rv : Option Value) (h : Heap) (L : List Loc) : Prop := rv = none ∧ L = [] ∧ h = h0
set_option maxRecDepth 65536 in
set_option maxHeartbeats 40000000 in
theorem rm_aic (l : Launch) (Z : State) (a0 : Array Value) (hw : ∀ d ∈ tables_1, d.before a0 Z = true) (r : Addr) (h0 : Heap) (O0 : Ext Z.heap h0) :
    Met1 l Z (⟨"java/util/ImmutableCollections$AbstractImmutableCollection", "<init>", "()V"⟩ : MethodName) jdk_47_method_1_code 1 none ({ frames := 2, cells := 0, slots := 0, locals := 24 } : Room) #[(.ref r)] h0 (Q_aic Z r h0) := by
  refine Met1.of_body (Ls := #[.val (.ref r)]) pf_25 (fun m => by first | (simp [entryFrame, mkF, argsToLocals, Value.category]; done) | rfl) ?_
  intro p e s m below meth c T0 C X0 e0
  have N0 : Fr Z.heap.size [] := Fr.nil _
  refine Go.aloadN (pc' := 1) C X0 d25_0 rfl rfl rfl ?_
  refine Go.callI (y := (⟨"java/util/AbstractCollection", "<init>", "()V"⟩ : MethodName)) (a := r) (pc' := 4) C X0 rfl (tw hw 188 rfl) (tw hw 28 rfl) (by decide) (rm_ac l Z a0 hw r h0 O0 ) (tw hw 32 rfl) (tw hw 31 rfl) e0 (argsL := []) (rest := []) (W := 0) rfl rfl pd_0 rfl (Nat.le_of_eq rfl) rfl (by decide) (by decide) (by decide) (by decide) rfl d25_1 rfl ?_
  intro T101 v101 L101 X101 q101
  obtain ⟨rfl, rfl, e101⟩ := q101
  have N101 := Fr.app N0 (Fr.nil _)
  exact Go.retV C X101 rfl d25_4 (by rw [e101]; exact ⟨rfl, (by simp), rfl⟩) (by decide) (by decide)
theorem pf_24 : plainFor (⟨"java/util/ImmutableCollections$AbstractImmutableList", "<init>", "()V"⟩ : MethodName) = true := plainFor_of_name (by first | (simp [plainName, overriddenIn]; done) | decide +kernel)
theorem d24_0 : decode jdk_46_method_1_code 0 = .ok (.aload_n 0, 1) := by decide +kernel
theorem d24_1 : decode jdk_46_method_1_code 1 = .ok (.invokespecial 1, 3) := by decide +kernel
theorem d24_4 : decode jdk_46_method_1_code 4 = .ok (.return_, 1) := by decide +kernel
def Q_ail (Z : State) (r : Addr) (h0 : Heap) (rv : Option Value) (h : Heap) (L : List Loc) : Prop := rv = none ∧ L = [] ∧ h = h0
set_option maxRecDepth 65536 in
set_option maxHeartbeats 40000000 in
theorem rm_ail (l : Launch) (Z : State) (a0 : Array Value) (hw : ∀ d ∈ tables_1, d.before a0 Z = true) (r : Addr) (h0 : Heap) (O0 : Ext Z.heap h0) :
    Met1 l Z (⟨"java/util/ImmutableCollections$AbstractImmutableList", "<init>", "()V"⟩ : MethodName) jdk_46_method_1_code 1 none ({ frames := 3, cells := 0, slots := 0, locals := 36 } : Room) #[(.ref r)] h0 (Q_ail Z r h0) := by
  refine Met1.of_body (Ls := #[.val (.ref r)]) pf_24 (fun m => by first | (simp [entryFrame, mkF, argsToLocals, Value.category]; done) | rfl) ?_
  intro p e s m below meth c T0 C X0 e0
  have N0 : Fr Z.heap.size [] := Fr.nil _
  refine Go.aloadN (pc' := 1) C X0 d24_0 rfl rfl rfl ?_
  refine Go.callI (y := (⟨"java/util/ImmutableCollections$AbstractImmutableCollection", "<init>", "()V"⟩ : MethodName)) (a := r) (pc' := 4) C X0 rfl (tw hw 182 rfl) (tw hw 183 rfl) (by decide) (rm_aic l Z a0 hw r h0 O0 ) (tw hw 187 rfl) (tw hw 186 rfl) e0 (argsL := []) (rest := []) (W := 0) rfl rfl pd_0 rfl (Nat.le_of_eq rfl) rfl (by decide) (by decide) (by decide) (by decide) rfl d24_1 rfl ?_
  intro T101 v101 L101 X101 q101
  obtain ⟨rfl, rfl, e101⟩ := q101
  have N101 := Fr.app N0 (Fr.nil _)
  exact Go.retV C X101 rfl d24_4 (by rw [e101]; exact ⟨rfl, (by simp), rfl⟩) (by decide) (by decide)
theorem pf_33 : plainFor (⟨"java/util/ImmutableCollections$ListN", "<init>", "([Ljava/lang/Object;Z)V"⟩ : MethodName) = true := plainFor_of_name (by first | (simp [plainName, overriddenIn]; done) | decide +kernel)
theorem d33_0 : decode jdk_45_method_1_code 0 = .ok (.aload_n 0, 1) := by decide +kernel
theorem d33_1 : decode jdk_45_method_1_code 1 = .ok (.invokespecial 1, 3) := by decide +kernel
theorem d33_4 : decode jdk_45_method_1_code 4 = .ok (.aload_n 0, 1) := by decide +kernel
theorem d33_5 : decode jdk_45_method_1_code 5 = .ok (.aload_n 1, 1) := by decide +kernel
theorem d33_6 : decode jdk_45_method_1_code 6 = .ok (.putfield 7, 3) := by decide +kernel
theorem d33_9 : decode jdk_45_method_1_code 9 = .ok (.aload_n 0, 1) := by decide +kernel
theorem d33_10 : decode jdk_45_method_1_code 10 = .ok (.iload_n 2, 1) := by decide +kernel
theorem d33_11 : decode jdk_45_method_1_code 11 = .ok (.putfield 13, 3) := by decide +kernel
theorem d33_14 : decode jdk_45_method_1_code 14 = .ok (.return_, 1) := by decide +kernel
def Q_lnI (Z : State) (r : Addr) (v : Addr) (h0 : Heap) (rv : Option Value) (h : Heap) (L : List Loc) : Prop := rv = none ∧ Fr Z.heap.size L ∧ Keep h0 h [r] ∧ Fld Z h r "java/util/ImmutableCollections$ListN" "elements" "[Ljava/lang/Object;" (.ref v)
set_option maxRecDepth 65536 in
set_option maxHeartbeats 40000000 in
theorem rm_lnI (l : Launch) (Z : State) (a0 : Array Value) (hw : ∀ d ∈ tables_1, d.before a0 Z = true) (r : Addr) (v : Addr) (h0 : Heap) (O0 : Ext Z.heap h0) (E0 : Exa Z h0 r "java/util/ImmutableCollections$ListN") (F1 : Fld Z h0 r "java/util/ImmutableCollections$ListN" "elements" "[Ljava/lang/Object;" .null) (F2 : Fld Z h0 r "java/util/ImmutableCollections$ListN" "allowNulls" "Z" (.int (0 : Int32))) (hn : Z.heap.size ≤ r) :
    Met1 l Z (⟨"java/util/ImmutableCollections$ListN", "<init>", "([Ljava/lang/Object;Z)V"⟩ : MethodName) jdk_45_method_1_code 3 none ({ frames := 4, cells := 0, slots := 0, locals := 48 } : Room) #[(.ref r), (.ref v), (.int (0 : Int32))] h0 (Q_lnI Z r v h0) := by
  refine Met1.of_body (Ls := #[.val (.ref r), .val (.ref v), .val (.int (0 : Int32))]) pf_33 (fun m => by first | (simp [entryFrame, mkF, argsToLocals, Value.category]; done) | rfl) ?_
  intro p e s m below meth c T0 C X0 e0
  have N0 : Fr Z.heap.size [] := Fr.nil _
  refine Go.aloadN (pc' := 1) C X0 d33_0 rfl rfl rfl ?_
  refine Go.callI (y := (⟨"java/util/ImmutableCollections$AbstractImmutableList", "<init>", "()V"⟩ : MethodName)) (a := r) (pc' := 4) C X0 rfl (tw hw 247 rfl) (tw hw 177 rfl) (by decide) (rm_ail l Z a0 hw r h0 O0 ) (tw hw 181 rfl) (tw hw 180 rfl) e0 (argsL := []) (rest := []) (W := 0) rfl rfl pd_0 rfl (Nat.le_of_eq rfl) rfl (by decide) (by decide) (by decide) (by decide) rfl d33_1 rfl ?_
  intro T101 v101 L101 X101 q101
  obtain ⟨rfl, rfl, e101⟩ := q101
  have N101 := Fr.app N0 (Fr.nil _)
  refine Go.aloadN (pc' := 5) C X101 d33_4 rfl rfl rfl ?_
  refine Go.aloadN (pc' := 6) C X101 d33_5 rfl rfl rfl ?_
  refine Go.putF (pc' := 9) (host := "") (ty := (.array (.object "java/lang/Object"))) C X101 (Or.inl (tw hw 251 rfl)) Via.refl e101 F1 E0 (Or.inr ⟨(tw hw 252 rfl), rfl, rfl⟩) (tw hw 241 rfl) (by decide) rfl rfl d33_6 rfl ?_
  intro T102 h102 X102 e102 W102 F102
  have N102 := Fr.snoc X102 N101 hn
  refine Go.aloadN (pc' := 10) C X102 d33_9 rfl rfl rfl ?_
  refine Go.iloadN (pc' := 11) C X102 d33_10 rfl rfl ?_
  have c104 : Fld Z h102 r "java/util/ImmutableCollections$ListN" "allowNulls" "Z" (.int (0 : Int32)) := (Fld.other W102 F2 (Or.inr (slot_ne (Or.inr (tw hw 254 rfl)) (Or.inr (tw hw 252 rfl)) (by decide) (t := .boolean) (t' := (.array (.object "java/lang/Object"))) (by decide) (by decide))))
  have c105 : Exa Z h102 r "java/util/ImmutableCollections$ListN" := (Exa.wr W102 E0)
  refine Go.putFN (pc' := 14) (ty := .boolean) (v' := .int (0 : Int32)) C X102 (tw hw 253 rfl) Via.refl e102 c104 c105 (Or.inr ⟨(tw hw 254 rfl), rfl, rfl⟩) (tw hw 241 rfl) (by decide) rfl (by decide) d33_11 rfl ?_
  intro T103 h103 X103 e103 W103 F103
  have N103 := Fr.snoc X103 N102 hn
  have K106 : Keep h0 h103 [r] := (((Keep.refl h0 [r]).wr W102 (Or.inl (by simp))).wr W103 (Or.inl (by simp)))
  have c107 : Fld Z h103 r "java/util/ImmutableCollections$ListN" "elements" "[Ljava/lang/Object;" (.ref v) := (Fld.other W103 F102 (Or.inr (slot_ne (Or.inr (tw hw 252 rfl)) (Or.inr (tw hw 254 rfl)) (by decide) (t := (.array (.object "java/lang/Object"))) (t' := .boolean) (by decide) (by decide))))
  exact Go.retV C X103 rfl d33_14 (by rw [e103]; exact ⟨rfl, N103, K106, c107⟩) (by decide) (by decide)
theorem pd_5 : parseMethodDescriptor "(Ljava/lang/Object;)Ljava/lang/Object;" = some ⟨[(.object "java/lang/Object")], some (.object "java/lang/Object")⟩ := by decide +kernel
theorem pf_31 : plainFor (⟨"java/util/ImmutableCollections$List12", "<init>", "(Ljava/lang/Object;Ljava/lang/Object;)V"⟩ : MethodName) = true := plainFor_of_name (by first | (simp [plainName, overriddenIn]; done) | decide +kernel)
theorem d31_0 : decode jdk_44_method_2_code 0 = .ok (.aload_n 0, 1) := by decide +kernel
theorem d31_1 : decode jdk_44_method_2_code 1 = .ok (.invokespecial 1, 3) := by decide +kernel
theorem d31_4 : decode jdk_44_method_2_code 4 = .ok (.aload_n 0, 1) := by decide +kernel
theorem d31_5 : decode jdk_44_method_2_code 5 = .ok (.aload_n 1, 1) := by decide +kernel
theorem d31_6 : decode jdk_44_method_2_code 6 = .ok (.invokestatic 7, 3) := by decide +kernel
theorem d31_9 : decode jdk_44_method_2_code 9 = .ok (.putfield 13, 3) := by decide +kernel
theorem d31_12 : decode jdk_44_method_2_code 12 = .ok (.aload_n 0, 1) := by decide +kernel
theorem d31_13 : decode jdk_44_method_2_code 13 = .ok (.aload_n 2, 1) := by decide +kernel
theorem d31_14 : decode jdk_44_method_2_code 14 = .ok (.invokestatic 7, 3) := by decide +kernel
theorem d31_17 : decode jdk_44_method_2_code 17 = .ok (.putfield 24, 3) := by decide +kernel
theorem d31_20 : decode jdk_44_method_2_code 20 = .ok (.return_, 1) := by decide +kernel
def Q_l2I (Z : State) (r : Addr) (d1 : Addr) (d2 : Addr) (h0 : Heap) (rv : Option Value) (h : Heap) (L : List Loc) : Prop := rv = none ∧ Fr Z.heap.size L ∧ Keep h0 h [r] ∧ Fld Z h r "java/util/ImmutableCollections$List12" "e0" "Ljava/lang/Object;" (.ref d1) ∧ Fld Z h r "java/util/ImmutableCollections$List12" "e1" "Ljava/lang/Object;" (.ref d2)
set_option maxRecDepth 65536 in
set_option maxHeartbeats 40000000 in
theorem rm_l2I (l : Launch) (Z : State) (a0 : Array Value) (hw : ∀ d ∈ tables_1, d.before a0 Z = true) (r : Addr) (d1 : Addr) (d2 : Addr) (h0 : Heap) (O0 : Ext Z.heap h0) (E0 : Exa Z h0 r "java/util/ImmutableCollections$List12") (F1 : Fld Z h0 r "java/util/ImmutableCollections$List12" "e0" "Ljava/lang/Object;" .null) (F2 : Fld Z h0 r "java/util/ImmutableCollections$List12" "e1" "Ljava/lang/Object;" .null) (hn : Z.heap.size ≤ r) :
    Met1 l Z (⟨"java/util/ImmutableCollections$List12", "<init>", "(Ljava/lang/Object;Ljava/lang/Object;)V"⟩ : MethodName) jdk_44_method_2_code 3 none ({ frames := 4, cells := 0, slots := 0, locals := 48 } : Room) #[(.ref r), (.ref d1), (.ref d2)] h0 (Q_l2I Z r d1 d2 h0) := by
  refine Met1.of_body (Ls := #[.val (.ref r), .val (.ref d1), .val (.ref d2)]) pf_31 (fun m => by first | (simp [entryFrame, mkF, argsToLocals, Value.category]; done) | rfl) ?_
  intro p e s m below meth c T0 C X0 e0
  have N0 : Fr Z.heap.size [] := Fr.nil _
  refine Go.aloadN (pc' := 1) C X0 d31_0 rfl rfl rfl ?_
  refine Go.callI (y := (⟨"java/util/ImmutableCollections$AbstractImmutableList", "<init>", "()V"⟩ : MethodName)) (a := r) (pc' := 4) C X0 rfl (tw hw 176 rfl) (tw hw 177 rfl) (by decide) (rm_ail l Z a0 hw r h0 O0 ) (tw hw 181 rfl) (tw hw 180 rfl) e0 (argsL := []) (rest := []) (W := 0) rfl rfl pd_0 rfl (Nat.le_of_eq rfl) rfl (by decide) (by decide) (by decide) (by decide) rfl d31_1 rfl ?_
  intro T101 v101 L101 X101 q101
  obtain ⟨rfl, rfl, e101⟩ := q101
  have N101 := Fr.app N0 (Fr.nil _)
  refine Go.aloadN (pc' := 5) C X101 d31_4 rfl rfl rfl ?_
  refine Go.aloadN (pc' := 6) C X101 d31_5 rfl rfl rfl ?_
  refine Go.callS (y := (⟨"java/util/Objects", "requireNonNull", "(Ljava/lang/Object;)Ljava/lang/Object;"⟩ : MethodName)) (pc' := 9) C X101 (tw hw 190 rfl) (tw hw 191 rfl) (by decide) (rm_rn l Z a0 hw d1 h0 O0 ) (tw hw 193 rfl) (tw hw 192 rfl) e101 (argsL := [(.ref d1)]) (rest := [(.ref r)]) (W := 1) rfl rfl pd_5 rfl (Nat.le_of_eq rfl) rfl (by decide) (by decide) (by decide) (by decide) d31_6 rfl ?_
  intro T102 v102 L102 X102 q102
  obtain ⟨rfl, rfl, e102⟩ := q102
  have N102 := Fr.app N101 (Fr.nil _)
  refine Go.putF (pc' := 12) (host := "") (ty := (.object "java/lang/Object")) C X102 (Or.inl (tw hw 194 rfl)) Via.refl e102 F1 E0 (Or.inr ⟨(tw hw 195 rfl), rfl, rfl⟩) (tw hw 170 rfl) (by decide) rfl rfl d31_9 rfl ?_
  intro T103 h103 X103 e103 W103 F103
  have N103 := Fr.snoc X103 N102 hn
  refine Go.aloadN (pc' := 13) C X103 d31_12 rfl rfl rfl ?_
  refine Go.aloadN (pc' := 14) C X103 d31_13 rfl rfl rfl ?_
  have O105 : Ext Z.heap h103 := (Ext.wr O0 W103 hn)
  refine Go.callS (y := (⟨"java/util/Objects", "requireNonNull", "(Ljava/lang/Object;)Ljava/lang/Object;"⟩ : MethodName)) (pc' := 17) C X103 (tw hw 190 rfl) (tw hw 191 rfl) (by decide) (rm_rn l Z a0 hw d2 h103 O105 ) (tw hw 193 rfl) (tw hw 192 rfl) e103 (argsL := [(.ref d2)]) (rest := [(.ref r)]) (W := 1) rfl rfl pd_5 rfl (Nat.le_of_eq rfl) rfl (by decide) (by decide) (by decide) (by decide) d31_14 rfl ?_
  intro T104 v104 L104 X104 q104
  obtain ⟨rfl, rfl, e104⟩ := q104
  have N104 := Fr.app N103 (Fr.nil _)
  have c107 : Fld Z h103 r "java/util/ImmutableCollections$List12" "e1" "Ljava/lang/Object;" .null := (Fld.other W103 F2 (Or.inr (slot_ne (Or.inr (tw hw 198 rfl)) (Or.inr (tw hw 195 rfl)) (by decide) (t := (.object "java/lang/Object")) (t' := (.object "java/lang/Object")) (by decide) (by decide))))
  have c108 : Exa Z h103 r "java/util/ImmutableCollections$List12" := (Exa.wr W103 E0)
  refine Go.putF (pc' := 20) (host := "") (ty := (.object "java/lang/Object")) C X104 (Or.inl (tw hw 197 rfl)) Via.refl e104 c107 c108 (Or.inr ⟨(tw hw 198 rfl), rfl, rfl⟩) (tw hw 170 rfl) (by decide) rfl rfl d31_17 rfl ?_
  intro T106 h106 X106 e106 W106 F106
  have N106 := Fr.snoc X106 N104 hn
  have K109 : Keep h0 h106 [r] := (((Keep.refl h0 [r]).wr W103 (Or.inl (by simp))).wr W106 (Or.inl (by simp)))
  have c110 : Fld Z h106 r "java/util/ImmutableCollections$List12" "e0" "Ljava/lang/Object;" (.ref d1) := (Fld.other W106 F103 (Or.inr (slot_ne (Or.inr (tw hw 195 rfl)) (Or.inr (tw hw 198 rfl)) (by decide) (t := (.object "java/lang/Object")) (t' := (.object "java/lang/Object")) (by decide) (by decide))))
  exact Go.retV C X106 rfl d31_20 (by rw [e106]; exact ⟨rfl, N106, K109, c110, F106⟩) (by decide) (by decide)
theorem pf_23 : plainFor (⟨"java/util/ImmutableCollections$List12", "<init>", "(Ljava/lang/Object;)V"⟩ : MethodName) = true := plainFor_of_name (by first | (simp [plainName, overriddenIn]; done) | decide +kernel)
theorem d23_0 : decode jdk_44_method_1_code 0 = .ok (.aload_n 0, 1) := by decide +kernel
theorem d23_1 : decode jdk_44_method_1_code 1 = .ok (.invokespecial 1, 3) := by decide +kernel
theorem d23_4 : decode jdk_44_method_1_code 4 = .ok (.aload_n 0, 1) := by decide +kernel
theorem d23_5 : decode jdk_44_method_1_code 5 = .ok (.aload_n 1, 1) := by decide +kernel
theorem d23_6 : decode jdk_44_method_1_code 6 = .ok (.invokestatic 7, 3) := by decide +kernel
theorem d23_9 : decode jdk_44_method_1_code 9 = .ok (.putfield 13, 3) := by decide +kernel
theorem d23_12 : decode jdk_44_method_1_code 12 = .ok (.aload_n 0, 1) := by decide +kernel
theorem d23_13 : decode jdk_44_method_1_code 13 = .ok (.getstatic 19, 3) := by decide +kernel
theorem d23_16 : decode jdk_44_method_1_code 16 = .ok (.putfield 24, 3) := by decide +kernel
theorem d23_19 : decode jdk_44_method_1_code 19 = .ok (.return_, 1) := by decide +kernel
def Q_l1I (Z : State) (r : Addr) (d1 : Addr) (em : Addr) (h0 : Heap) (rv : Option Value) (h : Heap) (L : List Loc) : Prop := rv = none ∧ Fr Z.heap.size L ∧ Keep h0 h [r] ∧ Fld Z h r "java/util/ImmutableCollections$List12" "e0" "Ljava/lang/Object;" (.ref d1) ∧ Fld Z h r "java/util/ImmutableCollections$List12" "e1" "Ljava/lang/Object;" (.ref em)
set_option maxRecDepth 65536 in
set_option maxHeartbeats 40000000 in
theorem rm_l1I (l : Launch) (Z : State) (a0 : Array Value) (hw : ∀ d ∈ tables_1, d.before a0 Z = true) (r : Addr) (d1 : Addr) (em : Addr) (h0 : Heap) (O0 : Ext Z.heap h0) (E0 : Exa Z h0 r "java/util/ImmutableCollections$List12") (F1 : Fld Z h0 r "java/util/ImmutableCollections$List12" "e0" "Ljava/lang/Object;" .null) (F2 : Fld Z h0 r "java/util/ImmutableCollections$List12" "e1" "Ljava/lang/Object;" .null) (SE : Sta Z Z.heap "java/util/ImmutableCollections" "EMPTY" "Ljava/lang/Object;" (.ref em)) (hn : Z.heap.size ≤ r) :
    Met1 l Z (⟨"java/util/ImmutableCollections$List12", "<init>", "(Ljava/lang/Object;)V"⟩ : MethodName) jdk_44_method_1_code 2 none ({ frames := 4, cells := 0, slots := 0, locals := 48 } : Room) #[(.ref r), (.ref d1)] h0 (Q_l1I Z r d1 em h0) := by
  refine Met1.of_body (Ls := #[.val (.ref r), .val (.ref d1)]) pf_23 (fun m => by first | (simp [entryFrame, mkF, argsToLocals, Value.category]; done) | rfl) ?_
  intro p e s m below meth c T0 C X0 e0
  have N0 : Fr Z.heap.size [] := Fr.nil _
  refine Go.aloadN (pc' := 1) C X0 d23_0 rfl rfl rfl ?_
  refine Go.callI (y := (⟨"java/util/ImmutableCollections$AbstractImmutableList", "<init>", "()V"⟩ : MethodName)) (a := r) (pc' := 4) C X0 rfl (tw hw 176 rfl) (tw hw 177 rfl) (by decide) (rm_ail l Z a0 hw r h0 O0 ) (tw hw 181 rfl) (tw hw 180 rfl) e0 (argsL := []) (rest := []) (W := 0) rfl rfl pd_0 rfl (Nat.le_of_eq rfl) rfl (by decide) (by decide) (by decide) (by decide) rfl d23_1 rfl ?_
  intro T101 v101 L101 X101 q101
  obtain ⟨rfl, rfl, e101⟩ := q101
  have N101 := Fr.app N0 (Fr.nil _)
  refine Go.aloadN (pc' := 5) C X101 d23_4 rfl rfl rfl ?_
  refine Go.aloadN (pc' := 6) C X101 d23_5 rfl rfl rfl ?_
  refine Go.callS (y := (⟨"java/util/Objects", "requireNonNull", "(Ljava/lang/Object;)Ljava/lang/Object;"⟩ : MethodName)) (pc' := 9) C X101 (tw hw 190 rfl) (tw hw 191 rfl) (by decide) (rm_rn l Z a0 hw d1 h0 O0 ) (tw hw 193 rfl) (tw hw 192 rfl) e101 (argsL := [(.ref d1)]) (rest := [(.ref r)]) (W := 1) rfl rfl pd_5 rfl (Nat.le_of_eq rfl) rfl (by decide) (by decide) (by decide) (by decide) d23_6 rfl ?_
  intro T102 v102 L102 X102 q102
  obtain ⟨rfl, rfl, e102⟩ := q102
  have N102 := Fr.app N101 (Fr.nil _)
  refine Go.putF (pc' := 12) (host := "") (ty := (.object "java/lang/Object")) C X102 (Or.inl (tw hw 194 rfl)) Via.refl e102 F1 E0 (Or.inr ⟨(tw hw 195 rfl), rfl, rfl⟩) (tw hw 170 rfl) (by decide) rfl rfl d23_9 rfl ?_
  intro T103 h103 X103 e103 W103 F103
  have N103 := Fr.snoc X103 N102 hn
  refine Go.aloadN (pc' := 13) C X103 d23_12 rfl rfl rfl ?_
  have O105 : Ext Z.heap h103 := (Ext.wr O0 W103 hn)
  refine Go.getS (pc' := 16)  C X103 (Or.inr (tw hw 196 rfl)) Via.refl e103 (SE.ext O105) d23_13 rfl ?_
  intro T104 X104 e104
  have c107 : Fld Z h103 r "java/util/ImmutableCollections$List12" "e1" "Ljava/lang/Object;" .null := (Fld.other W103 F2 (Or.inr (slot_ne (Or.inr (tw hw 198 rfl)) (Or.inr (tw hw 195 rfl)) (by decide) (t := (.object "java/lang/Object")) (t' := (.object "java/lang/Object")) (by decide) (by decide))))
  have c108 : Exa Z h103 r "java/util/ImmutableCollections$List12" := (Exa.wr W103 E0)
  refine Go.putF (pc' := 19) (host := "") (ty := (.object "java/lang/Object")) C X104 (Or.inl (tw hw 197 rfl)) Via.refl e104 c107 c108 (Or.inr ⟨(tw hw 198 rfl), rfl, rfl⟩) (tw hw 170 rfl) (by decide) rfl rfl d23_16 rfl ?_
  intro T106 h106 X106 e106 W106 F106
  have N106 := Fr.snoc X106 N103 hn
  have K109 : Keep h0 h106 [r] := (((Keep.refl h0 [r]).wr W103 (Or.inl (by simp))).wr W106 (Or.inl (by simp)))
  have c110 : Fld Z h106 r "java/util/ImmutableCollections$List12" "e0" "Ljava/lang/Object;" (.ref d1) := (Fld.other W106 F103 (Or.inr (slot_ne (Or.inr (tw hw 195 rfl)) (Or.inr (tw hw 198 rfl)) (by decide) (t := (.object "java/lang/Object")) (t' := (.object "java/lang/Object")) (by decide) (by decide))))
  exact Go.retV C X106 rfl d23_19 (by rw [e106]; exact ⟨rfl, N106, K109, c110, F106⟩) (by decide) (by decide)
theorem pf_10 : plainFor (⟨"java/util/ArrayList", "isEmpty", "()Z"⟩ : MethodName) = true := plainFor_of_name (by first | (simp [plainName, overriddenIn]; done) | decide +kernel)
theorem d10_0 : decode jdk_38_method_9_code 0 = .ok (.aload_n 0, 1) := by decide +kernel
theorem d10_1 : decode jdk_38_method_9_code 1 = .ok (.getfield 48, 3) := by decide +kernel
theorem d10_4 : decode jdk_38_method_9_code 4 = .ok (.ifCond .ne 7, 3) := by decide +kernel
theorem d10_7 : decode jdk_38_method_9_code 7 = .ok (.iconst 1, 1) := by decide +kernel
theorem d10_8 : decode jdk_38_method_9_code 8 = .ok (.goto 4, 3) := by decide +kernel
theorem d10_12 : decode jdk_38_method_9_code 12 = .ok (.ireturn, 1) := by decide +kernel
def Q_emp0 (Z : State) (r : Addr) (h0 : Heap) (rv : Option Value) (h : Heap) (L : List Loc) : Prop := rv = some (.int (1 : Int32)) ∧ L = [] ∧ h = h0
set_option maxRecDepth 65536 in
set_option maxHeartbeats 40000000 in
theorem rm_emp0 (l : Launch) (Z : State) (a0 : Array Value) (hw : ∀ d ∈ tables_1, d.before a0 Z = true) (r : Addr) (h0 : Heap) (O0 : Ext Z.heap h0) (F3 : Fld Z h0 r "java/util/ArrayList" "size" "I" (.int (0 : Int32))) :
    Met1 l Z (⟨"java/util/ArrayList", "isEmpty", "()Z"⟩ : MethodName) jdk_38_method_9_code 1 (some .boolean) ({ frames := 0, cells := 0, slots := 0, locals := 0 } : Room) #[(.ref r)] h0 (Q_emp0 Z r h0) := by
  refine Met1.of_body (Ls := #[.val (.ref r)]) pf_10 (fun m => by first | (simp [entryFrame, mkF, argsToLocals, Value.category]; done) | rfl) ?_
  intro p e s m below meth c T0 C X0 e0
  have N0 : Fr Z.heap.size [] := Fr.nil _
  refine Go.aloadN (pc' := 1) C X0 d10_0 rfl rfl rfl ?_
  refine Go.getF (pc' := 4) (host := "") C X0 (Or.inl (tw hw 73 rfl)) Via.refl e0 F3 d10_1 rfl ?_
  intro T101 X101 e101
  refine Go.ifNo (pc' := 7) C X101 d10_4 ((if0 _ _).trans (teq (x := (0 : Int32)) (y := (0 : Int32)) (by decide)).2) rfl ?_
  refine Go.iconst (z := (1 : Int32)) (pc' := 8) C X101 d10_7 rfl rfl ?_
  refine Go.goto (pc' := 12) C X101 d10_8 (by decide) (by decide) ?_
  exact Go.retN C X101 rfl d10_12 (by simp) (by rw [e101]; exact ⟨rfl, rfl, rfl⟩) (by decide) (by decide)
theorem pf_11 : plainFor (⟨"java/util/List", "of", "()Ljava/util/List;"⟩ : MethodName) = true := plainFor_of_name (by first | (simp [plainName, overriddenIn]; done) | decide +kernel)
theorem d11_0 : decode jdk_40_method_36_code 0 = .ok (.getstatic 90, 3) := by decide +kernel
theorem d11_3 : decode jdk_40_method_36_code 3 = .ok (.areturn, 1) := by decide +kernel
def Q_lof0 (Z : State) (el : Addr) (h0 : Heap) (rv : Option Value) (h : Heap) (L : List Loc) : Prop := rv = some (.ref el) ∧ L = [] ∧ h = h0
set_option maxRecDepth 65536 in
set_option maxHeartbeats 40000000 in
theorem rm_lof0 (l : Launch) (Z : State) (a0 : Array Value) (hw : ∀ d ∈ tables_1, d.before a0 Z = true) (el : Addr) (h0 : Heap) (O0 : Ext Z.heap h0) (SL : Sta Z Z.heap "java/util/ImmutableCollections" "EMPTY_LIST" "Ljava/util/ImmutableCollections$ListN;" (.ref el)) :
    Met1 l Z (⟨"java/util/List", "of", "()Ljava/util/List;"⟩ : MethodName) jdk_40_method_36_code 0 (some (.object "java/util/List")) ({ frames := 0, cells := 0, slots := 0, locals := 0 } : Room) #[] h0 (Q_lof0 Z el h0) := by
  refine Met1.of_body (Ls := #[]) pf_11 (fun m => by first | (simp [entryFrame, mkF, argsToLocals, Value.category]; done) | rfl) ?_
  intro p e s m below meth c T0 C X0 e0
  have N0 : Fr Z.heap.size [] := Fr.nil _
  refine Go.getS (pc' := 3) (host := "") C X0 (Or.inl (tw hw 78 rfl)) Via.refl e0 (SL.ext O0) d11_0 rfl ?_
  intro T101 X101 e101
  exact Go.retA C X101 rfl d11_3 rfl rfl rfl (by rw [e101]; exact ⟨rfl, rfl, rfl⟩) (by decide) (by decide)
theorem d10_11 : decode jdk_38_method_9_code 11 = .ok (.iconst 0, 1) := by decide +kernel
def Q_emp1 (Z : State) (r : Addr) (h0 : Heap) (rv : Option Value) (h : Heap) (L : List Loc) : Prop := rv = some (.int (0 : Int32)) ∧ L = [] ∧ h = h0
set_option maxRecDepth 65536 in
set_option maxHeartbeats 40000000 in
theorem rm_emp1 (l : Launch) (Z : State) (a0 : Array Value) (hw : ∀ d ∈ tables_1, d.before a0 Z = true) (r : Addr) (h0 : Heap) (O0 : Ext Z.heap h0) (F3 : Fld Z h0 r "java/util/ArrayList" "size" "I" (.int (1 : Int32))) :
    Met1 l Z (⟨"java/util/ArrayList", "isEmpty", "()Z"⟩ : MethodName) jdk_38_method_9_code 1 (some .boolean) ({ frames := 0, cells := 0, slots := 0, locals := 0 } : Room) #[(.ref r)] h0 (Q_emp1 Z r h0) := by
  refine Met1.of_body (Ls := #[.val (.ref r)]) pf_10 (fun m => by first | (simp [entryFrame, mkF, argsToLocals, Value.category]; done) | rfl) ?_
  intro p e s m below meth c T0 C X0 e0
  have N0 : Fr Z.heap.size [] := Fr.nil _
  refine Go.aloadN (pc' := 1) C X0 d10_0 rfl rfl rfl ?_
  refine Go.getF (pc' := 4) (host := "") C X0 (Or.inl (tw hw 73 rfl)) Via.refl e0 F3 d10_1 rfl ?_
  intro T101 X101 e101
  refine Go.ifYes (pc' := 11) C X101 d10_4 ((if0 _ _).trans (feq (x := (1 : Int32)) (y := (0 : Int32)) (by decide)).2) (by decide) (by decide) ?_
  refine Go.iconst (z := (0 : Int32)) (pc' := 12) C X101 d10_11 rfl rfl ?_
  exact Go.retN C X101 rfl d10_12 (by simp) (by rw [e101]; exact ⟨rfl, rfl, rfl⟩) (by decide) (by decide)
theorem pf_21 : plainFor (⟨"java/lang/Math", "min", "(II)I"⟩ : MethodName) = true := Jvm.Free.JP.mathPlain rfl (by decide +kernel)
theorem d21_0 : decode jdk_29_method_69_code 0 = .ok (.iload_n 0, 1) := by decide +kernel
theorem d21_1 : decode jdk_29_method_69_code 1 = .ok (.iload_n 1, 1) := by decide +kernel
theorem d21_2 : decode jdk_29_method_69_code 2 = .ok (.if_icmp .gt 7, 3) := by decide +kernel
theorem d21_9 : decode jdk_29_method_69_code 9 = .ok (.iload_n 1, 1) := by decide +kernel
theorem d21_10 : decode jdk_29_method_69_code 10 = .ok (.ireturn, 1) := by decide +kernel
def Q_mn1 (Z : State)  (h0 : Heap) (rv : Option Value) (h : Heap) (L : List Loc) : Prop := rv = some (.int (1 : Int32)) ∧ L = [] ∧ h = h0
set_option maxRecDepth 65536 in
set_option maxHeartbeats 40000000 in
theorem rm_mn1 (l : Launch) (Z : State) (a0 : Array Value) (hw : ∀ d ∈ tables_1, d.before a0 Z = true)  (h0 : Heap) (O0 : Ext Z.heap h0) :
    Met1 l Z (⟨"java/lang/Math", "min", "(II)I"⟩ : MethodName) jdk_29_method_69_code 2 (some .int) ({ frames := 0, cells := 0, slots := 0, locals := 0 } : Room) #[(.int (10 : Int32)), (.int (1 : Int32))] h0 (Q_mn1 Z  h0) := by
  refine Met1.of_body (Ls := #[.val (.int (10 : Int32)), .val (.int (1 : Int32))]) pf_21 (fun m => by first | (simp [entryFrame, mkF, argsToLocals, Value.category]; done) | rfl) ?_
  intro p e s m below meth c T0 C X0 e0
  have N0 : Fr Z.heap.size [] := Fr.nil _
  refine Go.iloadN (pc' := 1) C X0 d21_0 rfl rfl ?_
  refine Go.iloadN (pc' := 2) C X0 d21_1 rfl rfl ?_
  refine Go.icmpYes (pc' := 9) C X0 d21_2 (tlt (x := (1 : Int32)) (y := (10 : Int32)) (by decide)).2.2.1 (by decide) (by decide) ?_
  refine Go.iloadN (pc' := 10) C X0 d21_9 rfl rfl ?_
  exact Go.retI C X0 rfl d21_10 (by rw [e0]; exact ⟨rfl, rfl, rfl⟩) (by decide) (by decide)
theorem pf_20 : plainFor (⟨"java/util/Arrays", "copyOf", "([Ljava/lang/Object;ILjava/lang/Class;)[Ljava/lang/Object;"⟩ : MethodName) = true := plainFor_of_name (by first | (simp [plainName, overriddenIn]; done) | decide +kernel)
theorem d20_0 : decode jdk_65_method_120_code 0 = .ok (.aload_n 2, 1) := by decide +kernel
theorem d20_1 : decode jdk_65_method_120_code 1 = .ok (.ldc 110, 2) := by decide +kernel
theorem d20_3 : decode jdk_65_method_120_code 3 = .ok (.if_acmp .ne 10, 3) := by decide +kernel
theorem d20_6 : decode jdk_65_method_120_code 6 = .ok (.iload_n 1, 1) := by decide +kernel
theorem d20_7 : decode jdk_65_method_120_code 7 = .ok (.anewarray 2, 3) := by decide +kernel
theorem d20_10 : decode jdk_65_method_120_code 10 = .ok (.goto 14, 3) := by decide +kernel
theorem d20_24 : decode jdk_65_method_120_code 24 = .ok (.astore_n 3, 1) := by decide +kernel
theorem d20_25 : decode jdk_65_method_120_code 25 = .ok (.aload_n 0, 1) := by decide +kernel
theorem d20_26 : decode jdk_65_method_120_code 26 = .ok (.iconst 0, 1) := by decide +kernel
theorem d20_27 : decode jdk_65_method_120_code 27 = .ok (.aload_n 3, 1) := by decide +kernel
theorem d20_28 : decode jdk_65_method_120_code 28 = .ok (.iconst 0, 1) := by decide +kernel
theorem d20_29 : decode jdk_65_method_120_code 29 = .ok (.aload_n 0, 1) := by decide +kernel
theorem d20_30 : decode jdk_65_method_120_code 30 = .ok (.arraylength, 1) := by decide +kernel
theorem d20_31 : decode jdk_65_method_120_code 31 = .ok (.iload_n 1, 1) := by decide +kernel
theorem d20_32 : decode jdk_65_method_120_code 32 = .ok (.invokestatic 304, 3) := by decide +kernel
theorem d20_35 : decode jdk_65_method_120_code 35 = .ok (.invokestatic 150, 3) := by decide +kernel
theorem d20_38 : decode jdk_65_method_120_code 38 = .ok (.aload_n 3, 1) := by decide +kernel
theorem d20_39 : decode jdk_65_method_120_code 39 = .ok (.areturn, 1) := by decide +kernel
def Q_cpc1 (Z : State) (d1 : Addr) (w : Addr) (kw : ClassId) (mr : Addr) (h0 : Heap) (rv : Option Value) (h : Heap) (L : List Loc) : Prop := ∃ v : Addr, ∃ kv : ClassId, rv = some (.ref v) ∧ Fr Z.heap.size L ∧ Keep h0 h [] ∧ h0.size ≤ v ∧ AL Z h v kv (.object "java/lang/Object") [(.ref d1)]
set_option maxRecDepth 65536 in
set_option maxHeartbeats 40000000 in
theorem rm_cpc1 (l : Launch) (Z : State) (a0 : Array Value) (hw : ∀ d ∈ tables_1, d.before a0 Z = true) (d1 : Addr) (w : Addr) (kw : ClassId) (mr : Addr) (h0 : Heap) (O0 : Ext Z.heap h0) (Ew : Exa Z h0 w "[Ljava/lang/Object;") (Aw : AL Z h0 w kw (.object "java/lang/Object") [(.ref d1), .null, .null, .null, .null, .null, .null, .null, .null, .null]) (Ed0 : Exa Z h0 d1 "com/example/barrault/barrault/model/PathPattern$Step") (hM : Mir Z "[Ljava/lang/Object;" mr) :
    Met1 l Z (⟨"java/util/Arrays", "copyOf", "([Ljava/lang/Object;ILjava/lang/Class;)[Ljava/lang/Object;"⟩ : MethodName) jdk_65_method_120_code 4 (some (.array (.object "java/lang/Object"))) ({ frames := 1, cells := 1, slots := 1, locals := 18 } : Room) #[(.ref w), (.int (1 : Int32)), (.ref mr)] h0 (Q_cpc1 Z d1 w kw mr h0) := by
  refine Met1.of_body (Ls := #[.val (.ref w), .val (.int (1 : Int32)), .val (.ref mr), .unset]) pf_20 (fun m => by first | (simp [entryFrame, mkF, argsToLocals, Value.category]; done) | rfl) ?_
  intro p e s m below meth c T0 C X0 e0
  have N0 : Fr Z.heap.size [] := Fr.nil _
  refine Go.aloadN (pc' := 1) C X0 d20_0 rfl rfl rfl ?_
  refine Go.ldcM (pc' := 3) C X0 (tw hw 157 rfl) e0 hM d20_1 rfl ?_
  intro T101 X101 e101
  refine Go.acmpNo (pc' := 6) C X101 d20_3 rfl rfl (XT.aa_ne_f rfl) rfl ?_
  refine Go.iloadN (pc' := 7) C X101 d20_6 rfl rfl ?_
  refine Go.newR (cap := 1) (vs := [.null]) (ad := "[Ljava/lang/Object;") (pc' := 10) C X101 (by decide) (tw hw 158 rfl) (tw hw 118 rfl) e101 (by decide) (by decide) (by decide) (by decide) (by decide) rfl d20_7 rfl ?_
  intro T102 h102 b102 k102 X102 e102 g102 E102 A102 Ea102 O102v
  have n_b102 : Z.heap.size ≤ b102 := Nat.le_trans O0.1 (Nat.le_of_eq g102.symm)
  have z_b102 : h0.size ≤ b102 := Nat.le_trans (Nat.le_refl _) (Nat.le_of_eq g102.symm)
  have A102 : AL Z h102 b102 k102 (.object "java/lang/Object") [.null] := A102
  refine Go.goto (pc' := 24) C X102 d20_10 (by decide) (by decide) ?_
  refine Go.astoreN (Ls' := #[.val (.ref w), .val (.int (1 : Int32)), .val (.ref mr), .val (.ref b102)]) (pc' := 25) C X102 d20_24 rfl rfl rfl ?_
  refine Go.aloadN (pc' := 26) C X102 d20_25 rfl rfl rfl ?_
  refine Go.iconst (z := (0 : Int32)) (pc' := 27) C X102 d20_26 rfl rfl ?_
  refine Go.aloadN (pc' := 28) C X102 d20_27 rfl rfl rfl ?_
  refine Go.iconst (z := (0 : Int32)) (pc' := 29) C X102 d20_28 rfl rfl ?_
  refine Go.aloadN (pc' := 30) C X102 d20_29 rfl rfl rfl ?_
  have c103 : AL Z h102 w kw (.object "java/lang/Object") [(.ref d1), .null, .null, .null, .null, .null, .null, .null, .null, .null] := (AL.ext E102 Aw)
  refine Go.alen (z := (10 : Int32)) (pc' := 31) C X102 e102 c103 rfl d20_30 rfl ?_
  refine Go.iloadN (pc' := 32) C X102 d20_31 rfl rfl ?_
  have O105 : Ext Z.heap h102 := (Ext.trans O0 E102)
  refine Go.callS (y := (⟨"java/lang/Math", "min", "(II)I"⟩ : MethodName)) (pc' := 35) C X102 (tw hw 159 rfl) (tw hw 160 rfl) (by decide) (rm_mn1 l Z a0 hw  h102 O105 ) (tw hw 161 rfl) (tw hw 115 rfl) e102 (argsL := [(.int (10 : Int32)), (.int (1 : Int32))]) (rest := [(.int (0 : Int32)), (.ref b102), (.int (0 : Int32)), (.ref w)]) (W := 4) rfl rfl pd_1 rfl (Nat.le_of_eq rfl) rfl (by decide) (by decide) (by decide) (by decide) d20_32 rfl ?_
  intro T104 v104 L104 X104 q104
  obtain ⟨rfl, rfl, e104⟩ := q104
  have N104 := Fr.app N0 (Fr.nil _)
  have c107 : Exa Z h102 d1 "com/example/barrault/barrault/model/PathPattern$Step" := (Exa.ext E102 Ed0)
  refine Go.arrcopy (i := 0) (j := 0) (n := 1) (vd' := [(.ref d1)]) (W := 0) (n0 := Z.heap.size) (pc' := 38) C X104 (tw hw 162 rfl) (tw hw 165 rfl) (tw hw 163 rfl) (tw hw 164 rfl) e104 c103 A102 (by simp [fits]) (by simp [fits]) (by simp) (by simp) (Or.inr ⟨rfl, rfl, ⟨(AL.sto A102 O102v (Ins.of_exa c107 (tw hw 119 rfl))), trivial⟩⟩) (by decide) (by decide) (by decide) (by decide) (by decide) (by decide) (by simp) (by simp) rfl N104 n_b102 rfl (by decide) (Nat.le_of_eq rfl) (by decide) d20_35 rfl ?_
  intro T106 h106 L106 X106 e106 N106 K106 A106
  refine Go.aloadN (pc' := 39) C X106 d20_38 rfl rfl rfl ?_
  have K108 : Keep h0 h106 [] := (((Keep.refl h0 []).ext E102).trans K106 (allS (Or.inr z_b102) all0))
  exact Go.retA C X106 rfl d20_39 rfl rfl rfl (by rw [e106]; exact ⟨b102, k102, rfl, N106, K108, z_b102, A106⟩) (by decide) (by decide)
theorem pd_6 : parseMethodDescriptor "([Ljava/lang/Object;ILjava/lang/Class;)[Ljava/lang/Object;" = some ⟨[(.array (.object "java/lang/Object")), .int, (.object "java/lang/Class")], some (.array (.object "java/lang/Object"))⟩ := by decide +kernel
theorem pf_19 : plainFor (⟨"java/util/Arrays", "copyOf", "([Ljava/lang/Object;I)[Ljava/lang/Object;"⟩ : MethodName) = true := plainFor_of_name (by first | (simp [plainName, overriddenIn]; done) | decide +kernel)
theorem d19_0 : decode jdk_65_method_119_code 0 = .ok (.aload_n 0, 1) := by decide +kernel
theorem d19_1 : decode jdk_65_method_119_code 1 = .ok (.iload_n 1, 1) := by decide +kernel
theorem d19_2 : decode jdk_65_method_119_code 2 = .ok (.aload_n 0, 1) := by decide +kernel
theorem d19_3 : decode jdk_65_method_119_code 3 = .ok (.invokevirtual 86, 3) := by decide +kernel
theorem d19_6 : decode jdk_65_method_119_code 6 = .ok (.invokestatic 300, 3) := by decide +kernel
theorem d19_9 : decode jdk_65_method_119_code 9 = .ok (.areturn, 1) := by decide +kernel
def Q_cp1 (Z : State) (d1 : Addr) (w : Addr) (kw : ClassId) (mr : Addr) (h0 : Heap) (rv : Option Value) (h : Heap) (L : List Loc) : Prop := ∃ v : Addr, ∃ kv : ClassId, rv = some (.ref v) ∧ Fr Z.heap.size L ∧ Keep h0 h [] ∧ h0.size ≤ v ∧ AL Z h v kv (.object "java/lang/Object") [(.ref d1)]
set_option maxRecDepth 65536 in
set_option maxHeartbeats 40000000 in
theorem rm_cp1 (l : Launch) (Z : State) (a0 : Array Value) (hw : ∀ d ∈ tables_1, d.before a0 Z = true) (d1 : Addr) (w : Addr) (kw : ClassId) (mr : Addr) (h0 : Heap) (O0 : Ext Z.heap h0) (Ew : Exa Z h0 w "[Ljava/lang/Object;") (Aw : AL Z h0 w kw (.object "java/lang/Object") [(.ref d1), .null, .null, .null, .null, .null, .null, .null, .null, .null]) (Ed0 : Exa Z h0 d1 "com/example/barrault/barrault/model/PathPattern$Step") (hM : Mir Z "[Ljava/lang/Object;" mr) :
    Met1 l Z (⟨"java/util/Arrays", "copyOf", "([Ljava/lang/Object;I)[Ljava/lang/Object;"⟩ : MethodName) jdk_65_method_119_code 2 (some (.array (.object "java/lang/Object"))) ({ frames := 2, cells := 1, slots := 1, locals := 33 } : Room) #[(.ref w), (.int (1 : Int32))] h0 (Q_cp1 Z d1 w kw mr h0) := by
  refine Met1.of_body (Ls := #[.val (.ref w), .val (.int (1 : Int32))]) pf_19 (fun m => by first | (simp [entryFrame, mkF, argsToLocals, Value.category]; done) | rfl) ?_
  intro p e s m below meth c T0 C X0 e0
  have N0 : Fr Z.heap.size [] := Fr.nil _
  refine Go.aloadN (pc' := 1) C X0 d19_0 rfl rfl rfl ?_
  refine Go.iloadN (pc' := 2) C X0 d19_1 rfl rfl ?_
  refine Go.aloadN (pc' := 3) C X0 d19_2 rfl rfl rfl ?_
  refine Go.gcls (W := 2) (pc' := 6) C X0 (tw hw 148 rfl) (tw hw 149 rfl) (tw hw 62 rfl) (tw hw 151 rfl) (tw hw 150 rfl) (tw hw 152 rfl) e0 Ew hM rfl (by decide) (Nat.le_of_eq rfl) (by decide) d19_3 rfl ?_
  intro T101 X101 e101
  refine Go.callS (y := (⟨"java/util/Arrays", "copyOf", "([Ljava/lang/Object;ILjava/lang/Class;)[Ljava/lang/Object;"⟩ : MethodName)) (pc' := 9) C X101 (tw hw 154 rfl) (tw hw 155 rfl) (by decide) (rm_cpc1 l Z a0 hw d1 w kw mr h0 O0 Ew Aw Ed0 hM) (tw hw 156 rfl) (tw hw 146 rfl) e101 (argsL := [(.ref w), (.int (1 : Int32)), (.ref mr)]) (rest := []) (W := 0) rfl rfl pd_6 rfl (Nat.le_of_eq rfl) rfl (by decide) (by decide) (by decide) (by decide) d19_6 rfl ?_
  intro T102 v102 L102 X102 q102
  obtain ⟨v_102, kv_102, rfl, N102q, K102, B102_0, P102_0⟩ := q102
  have N102 := Fr.app N0 N102q
  have n_v_102 : Z.heap.size ≤ v_102 := Nat.le_trans O0.1 B102_0
  have z_v_102 : h0.size ≤ v_102 := Nat.le_trans (Nat.le_refl _) B102_0
  have K103 : Keep h0 T102.heap [] := ((Keep.refl h0 []).trans K102 all0)
  exact Go.retA C X102 rfl d19_9 rfl rfl rfl ⟨v_102, kv_102, rfl, N102, K103, z_v_102, P102_0⟩ (by decide) (by decide)
theorem pd_7 : parseMethodDescriptor "([Ljava/lang/Object;I)[Ljava/lang/Object;" = some ⟨[(.array (.object "java/lang/Object")), .int], some (.array (.object "java/lang/Object"))⟩ := by decide +kernel
theorem pf_18 : plainFor (⟨"java/util/ArrayList", "toArray", "()[Ljava/lang/Object;"⟩ : MethodName) = true := plainFor_of_name (by first | (simp [plainName, overriddenIn]; done) | decide +kernel)
theorem d18_0 : decode jdk_38_method_16_code 0 = .ok (.aload_n 0, 1) := by decide +kernel
theorem d18_1 : decode jdk_38_method_16_code 1 = .ok (.getfield 9, 3) := by decide +kernel
theorem d18_4 : decode jdk_38_method_16_code 4 = .ok (.aload_n 0, 1) := by decide +kernel
theorem d18_5 : decode jdk_38_method_16_code 5 = .ok (.getfield 48, 3) := by decide +kernel
theorem d18_8 : decode jdk_38_method_16_code 8 = .ok (.invokestatic 66, 3) := by decide +kernel
theorem d18_11 : decode jdk_38_method_16_code 11 = .ok (.areturn, 1) := by decide +kernel
def Q_ta1 (Z : State) (r : Addr) (d1 : Addr) (w : Addr) (kw : ClassId) (mr : Addr) (h0 : Heap) (rv : Option Value) (h : Heap) (L : List Loc) : Prop := ∃ v : Addr, ∃ kv : ClassId, rv = some (.ref v) ∧ Fr Z.heap.size L ∧ Keep h0 h [] ∧ h0.size ≤ v ∧ AL Z h v kv (.object "java/lang/Object") [(.ref d1)]
set_option maxRecDepth 65536 in
set_option maxHeartbeats 40000000 in
theorem rm_ta1 (l : Launch) (Z : State) (a0 : Array Value) (hw : ∀ d ∈ tables_1, d.before a0 Z = true) (r : Addr) (d1 : Addr) (w : Addr) (kw : ClassId) (mr : Addr) (h0 : Heap) (O0 : Ext Z.heap h0) (F2 : Fld Z h0 r "java/util/ArrayList" "elementData" "[Ljava/lang/Object;" (.ref w)) (F3 : Fld Z h0 r "java/util/ArrayList" "size" "I" (.int (1 : Int32))) (Ew : Exa Z h0 w "[Ljava/lang/Object;") (Aw : AL Z h0 w kw (.object "java/lang/Object") [(.ref d1), .null, .null, .null, .null, .null, .null, .null, .null, .null]) (Ed0 : Exa Z h0 d1 "com/example/barrault/barrault/model/PathPattern$Step") (hM : Mir Z "[Ljava/lang/Object;" mr) :
    Met1 l Z (⟨"java/util/ArrayList", "toArray", "()[Ljava/lang/Object;"⟩ : MethodName) jdk_38_method_16_code 1 (some (.array (.object "java/lang/Object"))) ({ frames := 3, cells := 1, slots := 1, locals := 46 } : Room) #[(.ref r)] h0 (Q_ta1 Z r d1 w kw mr h0) := by
  refine Met1.of_body (Ls := #[.val (.ref r)]) pf_18 (fun m => by first | (simp [entryFrame, mkF, argsToLocals, Value.category]; done) | rfl) ?_
  intro p e s m below meth c T0 C X0 e0
  have N0 : Fr Z.heap.size [] := Fr.nil _
  refine Go.aloadN (pc' := 1) C X0 d18_0 rfl rfl rfl ?_
  refine Go.getF (pc' := 4) (host := "") C X0 (Or.inl (tw hw 39 rfl)) Via.refl e0 F2 d18_1 rfl ?_
  intro T101 X101 e101
  refine Go.aloadN (pc' := 5) C X101 d18_4 rfl rfl rfl ?_
  refine Go.getF (pc' := 8) (host := "") C X101 (Or.inl (tw hw 73 rfl)) Via.refl e101 F3 d18_5 rfl ?_
  intro T102 X102 e102
  refine Go.callS (y := (⟨"java/util/Arrays", "copyOf", "([Ljava/lang/Object;I)[Ljava/lang/Object;"⟩ : MethodName)) (pc' := 11) C X102 (tw hw 144 rfl) (tw hw 145 rfl) (by decide) (rm_cp1 l Z a0 hw d1 w kw mr h0 O0 Ew Aw Ed0 hM) (tw hw 147 rfl) (tw hw 146 rfl) e102 (argsL := [(.ref w), (.int (1 : Int32))]) (rest := []) (W := 0) rfl rfl pd_7 rfl (Nat.le_of_eq rfl) rfl (by decide) (by decide) (by decide) (by decide) d18_8 rfl ?_
  intro T103 v103 L103 X103 q103
  obtain ⟨v_103, kv_103, rfl, N103q, K103, B103_0, P103_0⟩ := q103
  have N103 := Fr.app N0 N103q
  have n_v_103 : Z.heap.size ≤ v_103 := Nat.le_trans O0.1 B103_0
  have z_v_103 : h0.size ≤ v_103 := Nat.le_trans (Nat.le_refl _) B103_0
  have K104 : Keep h0 T103.heap [] := ((Keep.refl h0 []).trans K103 all0)
  exact Go.retA C X103 rfl d18_11 rfl rfl rfl ⟨v_103, kv_103, rfl, N103, K104, z_v_103, P103_0⟩ (by decide) (by decide)
theorem pd_8 : parseMethodDescriptor "(Ljava/lang/Object;)V" = some ⟨[(.object "java/lang/Object")], none⟩ := by decide +kernel
theorem pf_22 : plainFor (⟨"java/util/List", "of", "([Ljava/lang/Object;)Ljava/util/List;"⟩ : MethodName) = true := plainFor_of_name (by first | (simp [plainName, overriddenIn]; done) | decide +kernel)
theorem d22_0 : decode jdk_40_method_47_code 0 = .ok (.aload_n 0, 1) := by decide +kernel
theorem d22_1 : decode jdk_40_method_47_code 1 = .ok (.arraylength, 1) := by decide +kernel
theorem d22_2 : decode jdk_40_method_47_code 2 = .ok (.tableswitch 57 0 2 #[26, 32, 43], 26) := by decide +kernel
theorem d22_34 : decode jdk_40_method_47_code 34 = .ok (.new 96, 3) := by decide +kernel
theorem d22_37 : decode jdk_40_method_47_code 37 = .ok (.dup, 1) := by decide +kernel
theorem d22_38 : decode jdk_40_method_47_code 38 = .ok (.aload_n 0, 1) := by decide +kernel
theorem d22_39 : decode jdk_40_method_47_code 39 = .ok (.iconst 0, 1) := by decide +kernel
theorem d22_40 : decode jdk_40_method_47_code 40 = .ok (.aaload, 1) := by decide +kernel
theorem d22_41 : decode jdk_40_method_47_code 41 = .ok (.invokespecial 98, 3) := by decide +kernel
theorem d22_44 : decode jdk_40_method_47_code 44 = .ok (.areturn, 1) := by decide +kernel
def Q_lof1 (Z : State) (d1 : Addr) (v : Addr) (kv : ClassId) (em : Addr) (h0 : Heap) (rv : Option Value) (h : Heap) (L : List Loc) : Prop := ∃ r : Addr, rv = some (.ref r) ∧ Fr Z.heap.size L ∧ Keep h0 h [] ∧ h0.size ≤ r ∧ Exa Z h r "java/util/ImmutableCollections$List12" ∧ Fld Z h r "java/util/ImmutableCollections$List12" "e0" "Ljava/lang/Object;" (.ref d1) ∧ Fld Z h r "java/util/ImmutableCollections$List12" "e1" "Ljava/lang/Object;" (.ref em)
set_option maxRecDepth 65536 in
set_option maxHeartbeats 40000000 in
theorem rm_lof1 (l : Launch) (Z : State) (a0 : Array Value) (hw : ∀ d ∈ tables_1, d.before a0 Z = true) (d1 : Addr) (v : Addr) (kv : ClassId) (em : Addr) (h0 : Heap) (O0 : Ext Z.heap h0) (Av : AL Z h0 v kv (.object "java/lang/Object") [(.ref d1)]) (Ed0 : Exa Z h0 d1 "com/example/barrault/barrault/model/PathPattern$Step") (SE : Sta Z Z.heap "java/util/ImmutableCollections" "EMPTY" "Ljava/lang/Object;" (.ref em)) :
    Met1 l Z (⟨"java/util/List", "of", "([Ljava/lang/Object;)Ljava/util/List;"⟩ : MethodName) jdk_40_method_47_code 2 (some (.object "java/util/List")) ({ frames := 5, cells := 1, slots := 2, locals := 62 } : Room) #[(.ref v)] h0 (Q_lof1 Z d1 v kv em h0) := by
  refine Met1.of_body (Ls := #[.val (.ref v), .unset]) pf_22 (fun m => by first | (simp [entryFrame, mkF, argsToLocals, Value.category]; done) | rfl) ?_
  intro p e s m below meth c T0 C X0 e0
  have N0 : Fr Z.heap.size [] := Fr.nil _
  refine Go.aloadN (pc' := 1) C X0 d22_0 rfl rfl rfl ?_
  refine Go.alen (z := (1 : Int32)) (pc' := 2) C X0 e0 Av rfl d22_1 rfl ?_
  refine Go.tswIn (pc' := 34) (o := 32) C X0 d22_2 (by decide) (by decide) (by decide) (by decide) ?_
  refine Go.newO (pc' := 37) C X0 (tw hw 169 rfl) (tw hw 170 rfl) (tw hw 171 rfl) e0 (by decide) (by decide) d22_34 rfl ?_
  intro T101 h101 b101 X101 e101 g101 E101 A101 D101
  have n_b101 : Z.heap.size ≤ b101 := Nat.le_trans O0.1 (Nat.le_of_eq g101.symm)
  have z_b101 : h0.size ≤ b101 := Nat.le_trans (Nat.le_refl _) (Nat.le_of_eq g101.symm)
  have F101_e0 : Fld Z h101 b101 "java/util/ImmutableCollections$List12" "e0" "Ljava/lang/Object;" .null := D101 (Or.inr (tw hw 195 rfl)) (ty := (.object "java/lang/Object")) (by decide)
  have F101_e1 : Fld Z h101 b101 "java/util/ImmutableCollections$List12" "e1" "Ljava/lang/Object;" .null := D101 (Or.inr (tw hw 198 rfl)) (ty := (.object "java/lang/Object")) (by decide)
  refine Go.dup (pc' := 38) C X101 d22_37 rfl rfl ?_
  refine Go.aloadN (pc' := 39) C X101 d22_38 rfl rfl rfl ?_
  refine Go.iconst (z := (0 : Int32)) (pc' := 40) C X101 d22_39 rfl rfl ?_
  have c102 : AL Z h101 v kv (.object "java/lang/Object") [(.ref d1)] := (AL.ext E101 Av)
  refine Go.ldR (i := 0) (v := (.ref d1)) (pc' := 41) C X101 e101 c102 (by decide) (by decide) rfl rfl d22_40 rfl ?_
  have O104 : Ext Z.heap h101 := (Ext.trans O0 E101)
  refine Go.callI (y := (⟨"java/util/ImmutableCollections$List12", "<init>", "(Ljava/lang/Object;)V"⟩ : MethodName)) (a := b101) (pc' := 44) C X101 rfl (tw hw 172 rfl) (tw hw 173 rfl) (by decide) (rm_l1I l Z a0 hw b101 d1 em h101 O104 A101 F101_e0 F101_e1 SE n_b101) (tw hw 175 rfl) (tw hw 171 rfl) e101 (argsL := [(.ref d1)]) (rest := [(.ref b101)]) (W := 1) rfl rfl pd_8 rfl (Nat.le_of_eq rfl) rfl (by decide) (by decide) (by decide) (by decide) rfl d22_41 rfl ?_
  intro T103 v103 L103 X103 q103
  obtain ⟨rfl, N103q, K103, P103_0, P103_1⟩ := q103
  have N103 := Fr.app N0 N103q
  have K105 : Keep h0 T103.heap [] := (((Keep.refl h0 []).ext E101).trans K103 (allS (Or.inr z_b101) all0))
  have c106 : Exa Z T103.heap b101 "java/util/ImmutableCollections$List12" := (Exa.keep A101 K103)
  exact Go.retA C X103 rfl d22_44 rfl rfl rfl ⟨b101, rfl, N103, K105, z_b101, c106, P103_0, P103_1⟩ (by decide) (by decide)
def Q_emp2 (Z : State) (r : Addr) (h0 : Heap) (rv : Option Value) (h : Heap) (L : List Loc) : Prop := rv = some (.int (0 : Int32)) ∧ L = [] ∧ h = h0
set_option maxRecDepth 65536 in
set_option maxHeartbeats 40000000 in
theorem rm_emp2 (l : Launch) (Z : State) (a0 : Array Value) (hw : ∀ d ∈ tables_1, d.before a0 Z = true) (r : Addr) (h0 : Heap) (O0 : Ext Z.heap h0) (F3 : Fld Z h0 r "java/util/ArrayList" "size" "I" (.int (2 : Int32))) :
    Met1 l Z (⟨"java/util/ArrayList", "isEmpty", "()Z"⟩ : MethodName) jdk_38_method_9_code 1 (some .boolean) ({ frames := 0, cells := 0, slots := 0, locals := 0 } : Room) #[(.ref r)] h0 (Q_emp2 Z r h0) := by
  refine Met1.of_body (Ls := #[.val (.ref r)]) pf_10 (fun m => by first | (simp [entryFrame, mkF, argsToLocals, Value.category]; done) | rfl) ?_
  intro p e s m below meth c T0 C X0 e0
  have N0 : Fr Z.heap.size [] := Fr.nil _
  refine Go.aloadN (pc' := 1) C X0 d10_0 rfl rfl rfl ?_
  refine Go.getF (pc' := 4) (host := "") C X0 (Or.inl (tw hw 73 rfl)) Via.refl e0 F3 d10_1 rfl ?_
  intro T101 X101 e101
  refine Go.ifYes (pc' := 11) C X101 d10_4 ((if0 _ _).trans (feq (x := (2 : Int32)) (y := (0 : Int32)) (by decide)).2) (by decide) (by decide) ?_
  refine Go.iconst (z := (0 : Int32)) (pc' := 12) C X101 d10_11 rfl rfl ?_
  exact Go.retN C X101 rfl d10_12 (by simp) (by rw [e101]; exact ⟨rfl, rfl, rfl⟩) (by decide) (by decide)
def Q_mn2 (Z : State)  (h0 : Heap) (rv : Option Value) (h : Heap) (L : List Loc) : Prop := rv = some (.int (2 : Int32)) ∧ L = [] ∧ h = h0
set_option maxRecDepth 65536 in
set_option maxHeartbeats 40000000 in
theorem rm_mn2 (l : Launch) (Z : State) (a0 : Array Value) (hw : ∀ d ∈ tables_1, d.before a0 Z = true)  (h0 : Heap) (O0 : Ext Z.heap h0) :
    Met1 l Z (⟨"java/lang/Math", "min", "(II)I"⟩ : MethodName) jdk_29_method_69_code 2 (some .int) ({ frames := 0, cells := 0, slots := 0, locals := 0 } : Room) #[(.int (10 : Int32)), (.int (2 : Int32))] h0 (Q_mn2 Z  h0) := by
  refine Met1.of_body (Ls := #[.val (.int (10 : Int32)), .val (.int (2 : Int32))]) pf_21 (fun m => by first | (simp [entryFrame, mkF, argsToLocals, Value.category]; done) | rfl) ?_
  intro p e s m below meth c T0 C X0 e0
  have N0 : Fr Z.heap.size [] := Fr.nil _
  refine Go.iloadN (pc' := 1) C X0 d21_0 rfl rfl ?_
  refine Go.iloadN (pc' := 2) C X0 d21_1 rfl rfl ?_
  refine Go.icmpYes (pc' := 9) C X0 d21_2 (tlt (x := (2 : Int32)) (y := (10 : Int32)) (by decide)).2.2.1 (by decide) (by decide) ?_
  refine Go.iloadN (pc' := 10) C X0 d21_9 rfl rfl ?_
  exact Go.retI C X0 rfl d21_10 (by rw [e0]; exact ⟨rfl, rfl, rfl⟩) (by decide) (by decide)
def Q_cpc2 (Z : State) (d1 : Addr) (d2 : Addr) (w : Addr) (kw : ClassId) (mr : Addr) (h0 : Heap) (rv : Option Value) (h : Heap) (L : List Loc) : Prop := ∃ v : Addr, ∃ kv : ClassId, rv = some (.ref v) ∧ Fr Z.heap.size L ∧ Keep h0 h [] ∧ h0.size ≤ v ∧ AL Z h v kv (.object "java/lang/Object") [(.ref d1), (.ref d2)]
set_option maxRecDepth 65536 in
set_option maxHeartbeats 40000000 in
theorem rm_cpc2 (l : Launch) (Z : State) (a0 : Array Value) (hw : ∀ d ∈ tables_1, d.before a0 Z = true) (d1 : Addr) (d2 : Addr) (w : Addr) (kw : ClassId) (mr : Addr) (h0 : Heap) (O0 : Ext Z.heap h0) (Ew : Exa Z h0 w "[Ljava/lang/Object;") (Aw : AL Z h0 w kw (.object "java/lang/Object") [(.ref d1), (.ref d2), .null, .null, .null, .null, .null, .null, .null, .null]) (Ed0 : Exa Z h0 d1 "com/example/barrault/barrault/model/PathPattern$Step") (Ed1 : Exa Z h0 d2 "com/example/barrault/barrault/model/PathPattern$Step") (hM : Mir Z "[Ljava/lang/Object;" mr) :
    Met1 l Z (⟨"java/util/Arrays", "copyOf", "([Ljava/lang/Object;ILjava/lang/Class;)[Ljava/lang/Object;"⟩ : MethodName) jdk_65_method_120_code 4 (some (.array (.object "java/lang/Object"))) ({ frames := 1, cells := 1, slots := 2, locals := 18 } : Room) #[(.ref w), (.int (2 : Int32)), (.ref mr)] h0 (Q_cpc2 Z d1 d2 w kw mr h0) := by
  refine Met1.of_body (Ls := #[.val (.ref w), .val (.int (2 : Int32)), .val (.ref mr), .unset]) pf_20 (fun m => by first | (simp [entryFrame, mkF, argsToLocals, Value.category]; done) | rfl) ?_
  intro p e s m below meth c T0 C X0 e0
  have N0 : Fr Z.heap.size [] := Fr.nil _
  refine Go.aloadN (pc' := 1) C X0 d20_0 rfl rfl rfl ?_
  refine Go.ldcM (pc' := 3) C X0 (tw hw 157 rfl) e0 hM d20_1 rfl ?_
  intro T101 X101 e101
  refine Go.acmpNo (pc' := 6) C X101 d20_3 rfl rfl (XT.aa_ne_f rfl) rfl ?_
  refine Go.iloadN (pc' := 7) C X101 d20_6 rfl rfl ?_
  refine Go.newR (cap := 2) (vs := [.null, .null]) (ad := "[Ljava/lang/Object;") (pc' := 10) C X101 (by decide) (tw hw 158 rfl) (tw hw 118 rfl) e101 (by decide) (by decide) (by decide) (by decide) (by decide) rfl d20_7 rfl ?_
  intro T102 h102 b102 k102 X102 e102 g102 E102 A102 Ea102 O102v
  have n_b102 : Z.heap.size ≤ b102 := Nat.le_trans O0.1 (Nat.le_of_eq g102.symm)
  have z_b102 : h0.size ≤ b102 := Nat.le_trans (Nat.le_refl _) (Nat.le_of_eq g102.symm)
  have A102 : AL Z h102 b102 k102 (.object "java/lang/Object") [.null, .null] := A102
  refine Go.goto (pc' := 24) C X102 d20_10 (by decide) (by decide) ?_
  refine Go.astoreN (Ls' := #[.val (.ref w), .val (.int (2 : Int32)), .val (.ref mr), .val (.ref b102)]) (pc' := 25) C X102 d20_24 rfl rfl rfl ?_
  refine Go.aloadN (pc' := 26) C X102 d20_25 rfl rfl rfl ?_
  refine Go.iconst (z := (0 : Int32)) (pc' := 27) C X102 d20_26 rfl rfl ?_
  refine Go.aloadN (pc' := 28) C X102 d20_27 rfl rfl rfl ?_
  refine Go.iconst (z := (0 : Int32)) (pc' := 29) C X102 d20_28 rfl rfl ?_
  refine Go.aloadN (pc' := 30) C X102 d20_29 rfl rfl rfl ?_
  have c103 : AL Z h102 w kw (.object "java/lang/Object") [(.ref d1), (.ref d2), .null, .null, .null, .null, .null, .null, .null, .null] := (AL.ext E102 Aw)
  refine Go.alen (z := (10 : Int32)) (pc' := 31) C X102 e102 c103 rfl d20_30 rfl ?_
  refine Go.iloadN (pc' := 32) C X102 d20_31 rfl rfl ?_
  have O105 : Ext Z.heap h102 := (Ext.trans O0 E102)
  refine Go.callS (y := (⟨"java/lang/Math", "min", "(II)I"⟩ : MethodName)) (pc' := 35) C X102 (tw hw 159 rfl) (tw hw 160 rfl) (by decide) (rm_mn2 l Z a0 hw  h102 O105 ) (tw hw 161 rfl) (tw hw 115 rfl) e102 (argsL := [(.int (10 : Int32)), (.int (2 : Int32))]) (rest := [(.int (0 : Int32)), (.ref b102), (.int (0 : Int32)), (.ref w)]) (W := 4) rfl rfl pd_1 rfl (Nat.le_of_eq rfl) rfl (by decide) (by decide) (by decide) (by decide) d20_32 rfl ?_
  intro T104 v104 L104 X104 q104
  obtain ⟨rfl, rfl, e104⟩ := q104
  have N104 := Fr.app N0 (Fr.nil _)
  have c107 : Exa Z h102 d2 "com/example/barrault/barrault/model/PathPattern$Step" := (Exa.ext E102 Ed1)
  have c108 : Exa Z h102 d1 "com/example/barrault/barrault/model/PathPattern$Step" := (Exa.ext E102 Ed0)
  refine Go.arrcopy (i := 0) (j := 0) (n := 2) (vd' := [(.ref d1), (.ref d2)]) (W := 0) (n0 := Z.heap.size) (pc' := 38) C X104 (tw hw 162 rfl) (tw hw 165 rfl) (tw hw 163 rfl) (tw hw 164 rfl) e104 c103 A102 (by simp [fits]) (by simp [fits]) (by simp) (by simp) (Or.inr ⟨rfl, rfl, ⟨(AL.sto A102 O102v (Ins.of_exa c108 (tw hw 119 rfl))), ⟨(AL.sto A102 O102v (Ins.of_exa c107 (tw hw 119 rfl))), trivial⟩⟩⟩) (by decide) (by decide) (by decide) (by decide) (by decide) (by decide) (by simp) (by simp) rfl N104 n_b102 rfl (by decide) (Nat.le_of_eq rfl) (by decide) d20_35 rfl ?_
  intro T106 h106 L106 X106 e106 N106 K106 A106
  refine Go.aloadN (pc' := 39) C X106 d20_38 rfl rfl rfl ?_
  have K109 : Keep h0 h106 [] := (((Keep.refl h0 []).ext E102).trans K106 (allS (Or.inr z_b102) all0))
  exact Go.retA C X106 rfl d20_39 rfl rfl rfl (by rw [e106]; exact ⟨b102, k102, rfl, N106, K109, z_b102, A106⟩) (by decide) (by decide)
def Q_cp2 (Z : State) (d1 : Addr) (d2 : Addr) (w : Addr) (kw : ClassId) (mr : Addr) (h0 : Heap) (rv : Option Value) (h : Heap) (L : List Loc) : Prop := ∃ v : Addr, ∃ kv : ClassId, rv = some (.ref v) ∧ Fr Z.heap.size L ∧ Keep h0 h [] ∧ h0.size ≤ v ∧ AL Z h v kv (.object "java/lang/Object") [(.ref d1), (.ref d2)]
set_option maxRecDepth 65536 in
set_option maxHeartbeats 40000000 in
theorem rm_cp2 (l : Launch) (Z : State) (a0 : Array Value) (hw : ∀ d ∈ tables_1, d.before a0 Z = true) (d1 : Addr) (d2 : Addr) (w : Addr) (kw : ClassId) (mr : Addr) (h0 : Heap) (O0 : Ext Z.heap h0) (Ew : Exa Z h0 w "[Ljava/lang/Object;") (Aw : AL Z h0 w kw (.object "java/lang/Object") [(.ref d1), (.ref d2), .null, .null, .null, .null, .null, .null, .null, .null]) (Ed0 : Exa Z h0 d1 "com/example/barrault/barrault/model/PathPattern$Step") (Ed1 : Exa Z h0 d2 "com/example/barrault/barrault/model/PathPattern$Step") (hM : Mir Z "[Ljava/lang/Object;" mr) :
    Met1 l Z (⟨"java/util/Arrays", "copyOf", "([Ljava/lang/Object;I)[Ljava/lang/Object;"⟩ : MethodName) jdk_65_method_119_code 2 (some (.array (.object "java/lang/Object"))) ({ frames := 2, cells := 1, slots := 2, locals := 33 } : Room) #[(.ref w), (.int (2 : Int32))] h0 (Q_cp2 Z d1 d2 w kw mr h0) := by
  refine Met1.of_body (Ls := #[.val (.ref w), .val (.int (2 : Int32))]) pf_19 (fun m => by first | (simp [entryFrame, mkF, argsToLocals, Value.category]; done) | rfl) ?_
  intro p e s m below meth c T0 C X0 e0
  have N0 : Fr Z.heap.size [] := Fr.nil _
  refine Go.aloadN (pc' := 1) C X0 d19_0 rfl rfl rfl ?_
  refine Go.iloadN (pc' := 2) C X0 d19_1 rfl rfl ?_
  refine Go.aloadN (pc' := 3) C X0 d19_2 rfl rfl rfl ?_
  refine Go.gcls (W := 2) (pc' := 6) C X0 (tw hw 148 rfl) (tw hw 149 rfl) (tw hw 62 rfl) (tw hw 151 rfl) (tw hw 150 rfl) (tw hw 152 rfl) e0 Ew hM rfl (by decide) (Nat.le_of_eq rfl) (by decide) d19_3 rfl ?_
  intro T101 X101 e101
  refine Go.callS (y := (⟨"java/util/Arrays", "copyOf", "([Ljava/lang/Object;ILjava/lang/Class;)[Ljava/lang/Object;"⟩ : MethodName)) (pc' := 9) C X101 (tw hw 154 rfl) (tw hw 155 rfl) (by decide) (rm_cpc2 l Z a0 hw d1 d2 w kw mr h0 O0 Ew Aw Ed0 Ed1 hM) (tw hw 156 rfl) (tw hw 146 rfl) e101 (argsL := [(.ref w), (.int (2 : Int32)), (.ref mr)]) (rest := []) (W := 0) rfl rfl pd_6 rfl (Nat.le_of_eq rfl) rfl (by decide) (by decide) (by decide) (by decide) d19_6 rfl ?_
  intro T102 v102 L102 X102 q102
  obtain ⟨v_102, kv_102, rfl, N102q, K102, B102_0, P102_0⟩ := q102
  have N102 := Fr.app N0 N102q
  have n_v_102 : Z.heap.size ≤ v_102 := Nat.le_trans O0.1 B102_0
  have z_v_102 : h0.size ≤ v_102 := Nat.le_trans (Nat.le_refl _) B102_0
  have K103 : Keep h0 T102.heap [] := ((Keep.refl h0 []).trans K102 all0)
  exact Go.retA C X102 rfl d19_9 rfl rfl rfl ⟨v_102, kv_102, rfl, N102, K103, z_v_102, P102_0⟩ (by decide) (by decide)
def Q_ta2 (Z : State) (r : Addr) (d1 : Addr) (d2 : Addr) (w : Addr) (kw : ClassId) (mr : Addr) (h0 : Heap) (rv : Option Value) (h : Heap) (L : List Loc) : Prop := ∃ v : Addr, ∃ kv : ClassId, rv = some (.ref v) ∧ Fr Z.heap.size L ∧ Keep h0 h [] ∧ h0.size ≤ v ∧ AL Z h v kv (.object "java/lang/Object") [(.ref d1), (.ref d2)]
set_option maxRecDepth 65536 in
set_option maxHeartbeats 40000000 in
theorem rm_ta2 (l : Launch) (Z : State) (a0 : Array Value) (hw : ∀ d ∈ tables_1, d.before a0 Z = true) (r : Addr) (d1 : Addr) (d2 : Addr) (w : Addr) (kw : ClassId) (mr : Addr) (h0 : Heap) (O0 : Ext Z.heap h0) (F2 : Fld Z h0 r "java/util/ArrayList" "elementData" "[Ljava/lang/Object;" (.ref w)) (F3 : Fld Z h0 r "java/util/ArrayList" "size" "I" (.int (2 : Int32))) (Ew : Exa Z h0 w "[Ljava/lang/Object;") (Aw : AL Z h0 w kw (.object "java/lang/Object") [(.ref d1), (.ref d2), .null, .null, .null, .null, .null, .null, .null, .null]) (Ed0 : Exa Z h0 d1 "com/example/barrault/barrault/model/PathPattern$Step") (Ed1 : Exa Z h0 d2 "com/example/barrault/barrault/model/PathPattern$Step") (hM : Mir Z "[Ljava/lang/Object;" mr) :
    Met1 l Z (⟨"java/util/ArrayList", "toArray", "()[Ljava/lang/Object;"⟩ : MethodName) jdk_38_method_16_code 1 (some (.array (.object "java/lang/Object"))) ({ frames := 3, cells := 1, slots := 2, locals := 46 } : Room) #[(.ref r)] h0 (Q_ta2 Z r d1 d2 w kw mr h0) := by
  refine Met1.of_body (Ls := #[.val (.ref r)]) pf_18 (fun m => by first | (simp [entryFrame, mkF, argsToLocals, Value.category]; done) | rfl) ?_
  intro p e s m below meth c T0 C X0 e0
  have N0 : Fr Z.heap.size [] := Fr.nil _
  refine Go.aloadN (pc' := 1) C X0 d18_0 rfl rfl rfl ?_
  refine Go.getF (pc' := 4) (host := "") C X0 (Or.inl (tw hw 39 rfl)) Via.refl e0 F2 d18_1 rfl ?_
  intro T101 X101 e101
  refine Go.aloadN (pc' := 5) C X101 d18_4 rfl rfl rfl ?_
  refine Go.getF (pc' := 8) (host := "") C X101 (Or.inl (tw hw 73 rfl)) Via.refl e101 F3 d18_5 rfl ?_
  intro T102 X102 e102
  refine Go.callS (y := (⟨"java/util/Arrays", "copyOf", "([Ljava/lang/Object;I)[Ljava/lang/Object;"⟩ : MethodName)) (pc' := 11) C X102 (tw hw 144 rfl) (tw hw 145 rfl) (by decide) (rm_cp2 l Z a0 hw d1 d2 w kw mr h0 O0 Ew Aw Ed0 Ed1 hM) (tw hw 147 rfl) (tw hw 146 rfl) e102 (argsL := [(.ref w), (.int (2 : Int32))]) (rest := []) (W := 0) rfl rfl pd_7 rfl (Nat.le_of_eq rfl) rfl (by decide) (by decide) (by decide) (by decide) d18_8 rfl ?_
  intro T103 v103 L103 X103 q103
  obtain ⟨v_103, kv_103, rfl, N103q, K103, B103_0, P103_0⟩ := q103
  have N103 := Fr.app N0 N103q
  have n_v_103 : Z.heap.size ≤ v_103 := Nat.le_trans O0.1 B103_0
  have z_v_103 : h0.size ≤ v_103 := Nat.le_trans (Nat.le_refl _) B103_0
  have K104 : Keep h0 T103.heap [] := ((Keep.refl h0 []).trans K103 all0)
  exact Go.retA C X103 rfl d18_11 rfl rfl rfl ⟨v_103, kv_103, rfl, N103, K104, z_v_103, P103_0⟩ (by decide) (by decide)
theorem pd_9 : parseMethodDescriptor "(Ljava/lang/Object;Ljava/lang/Object;)V" = some ⟨[(.object "java/lang/Object"), (.object "java/lang/Object")], none⟩ := by decide +kernel
theorem d22_45 : decode jdk_40_method_47_code 45 = .ok (.new 96, 3) := by decide +kernel
theorem d22_48 : decode jdk_40_method_47_code 48 = .ok (.dup, 1) := by decide +kernel
theorem d22_49 : decode jdk_40_method_47_code 49 = .ok (.aload_n 0, 1) := by decide +kernel
theorem d22_50 : decode jdk_40_method_47_code 50 = .ok (.iconst 0, 1) := by decide +kernel
theorem d22_51 : decode jdk_40_method_47_code 51 = .ok (.aaload, 1) := by decide +kernel
theorem d22_52 : decode jdk_40_method_47_code 52 = .ok (.aload_n 0, 1) := by decide +kernel
theorem d22_53 : decode jdk_40_method_47_code 53 = .ok (.iconst 1, 1) := by decide +kernel
theorem d22_54 : decode jdk_40_method_47_code 54 = .ok (.aaload, 1) := by decide +kernel
theorem d22_55 : decode jdk_40_method_47_code 55 = .ok (.invokespecial 100, 3) := by decide +kernel
theorem d22_58 : decode jdk_40_method_47_code 58 = .ok (.areturn, 1) := by decide +kernel
def Q_lof2 (Z : State) (d1 : Addr) (d2 : Addr) (v : Addr) (kv : ClassId) (h0 : Heap) (rv : Option Value) (h : Heap) (L : List Loc) : Prop := ∃ r : Addr, rv = some (.ref r) ∧ Fr Z.heap.size L ∧ Keep h0 h [] ∧ h0.size ≤ r ∧ Exa Z h r "java/util/ImmutableCollections$List12" ∧ Fld Z h r "java/util/ImmutableCollections$List12" "e0" "Ljava/lang/Object;" (.ref d1) ∧ Fld Z h r "java/util/ImmutableCollections$List12" "e1" "Ljava/lang/Object;" (.ref d2)
set_option maxRecDepth 65536 in
set_option maxHeartbeats 40000000 in
theorem rm_lof2 (l : Launch) (Z : State) (a0 : Array Value) (hw : ∀ d ∈ tables_1, d.before a0 Z = true) (d1 : Addr) (d2 : Addr) (v : Addr) (kv : ClassId) (h0 : Heap) (O0 : Ext Z.heap h0) (Av : AL Z h0 v kv (.object "java/lang/Object") [(.ref d1), (.ref d2)]) (Ed0 : Exa Z h0 d1 "com/example/barrault/barrault/model/PathPattern$Step") (Ed1 : Exa Z h0 d2 "com/example/barrault/barrault/model/PathPattern$Step") :
    Met1 l Z (⟨"java/util/List", "of", "([Ljava/lang/Object;)Ljava/util/List;"⟩ : MethodName) jdk_40_method_47_code 2 (some (.object "java/util/List")) ({ frames := 5, cells := 1, slots := 2, locals := 63 } : Room) #[(.ref v)] h0 (Q_lof2 Z d1 d2 v kv h0) := by
  refine Met1.of_body (Ls := #[.val (.ref v), .unset]) pf_22 (fun m => by first | (simp [entryFrame, mkF, argsToLocals, Value.category]; done) | rfl) ?_
  intro p e s m below meth c T0 C X0 e0
  have N0 : Fr Z.heap.size [] := Fr.nil _
  refine Go.aloadN (pc' := 1) C X0 d22_0 rfl rfl rfl ?_
  refine Go.alen (z := (2 : Int32)) (pc' := 2) C X0 e0 Av rfl d22_1 rfl ?_
  refine Go.tswIn (pc' := 45) (o := 43) C X0 d22_2 (by decide) (by decide) (by decide) (by decide) ?_
  refine Go.newO (pc' := 48) C X0 (tw hw 169 rfl) (tw hw 170 rfl) (tw hw 171 rfl) e0 (by decide) (by decide) d22_45 rfl ?_
  intro T101 h101 b101 X101 e101 g101 E101 A101 D101
  have n_b101 : Z.heap.size ≤ b101 := Nat.le_trans O0.1 (Nat.le_of_eq g101.symm)
  have z_b101 : h0.size ≤ b101 := Nat.le_trans (Nat.le_refl _) (Nat.le_of_eq g101.symm)
  have F101_e0 : Fld Z h101 b101 "java/util/ImmutableCollections$List12" "e0" "Ljava/lang/Object;" .null := D101 (Or.inr (tw hw 195 rfl)) (ty := (.object "java/lang/Object")) (by decide)
  have F101_e1 : Fld Z h101 b101 "java/util/ImmutableCollections$List12" "e1" "Ljava/lang/Object;" .null := D101 (Or.inr (tw hw 198 rfl)) (ty := (.object "java/lang/Object")) (by decide)
  refine Go.dup (pc' := 49) C X101 d22_48 rfl rfl ?_
  refine Go.aloadN (pc' := 50) C X101 d22_49 rfl rfl rfl ?_
  refine Go.iconst (z := (0 : Int32)) (pc' := 51) C X101 d22_50 rfl rfl ?_
  have c102 : AL Z h101 v kv (.object "java/lang/Object") [(.ref d1), (.ref d2)] := (AL.ext E101 Av)
  refine Go.ldR (i := 0) (v := (.ref d1)) (pc' := 52) C X101 e101 c102 (by decide) (by decide) rfl rfl d22_51 rfl ?_
  refine Go.aloadN (pc' := 53) C X101 d22_52 rfl rfl rfl ?_
  refine Go.iconst (z := (1 : Int32)) (pc' := 54) C X101 d22_53 rfl rfl ?_
  refine Go.ldR (i := 1) (v := (.ref d2)) (pc' := 55) C X101 e101 c102 (by decide) (by decide) rfl rfl d22_54 rfl ?_
  have O104 : Ext Z.heap h101 := (Ext.trans O0 E101)
  refine Go.callI (y := (⟨"java/util/ImmutableCollections$List12", "<init>", "(Ljava/lang/Object;Ljava/lang/Object;)V"⟩ : MethodName)) (a := b101) (pc' := 58) C X101 rfl (tw hw 233 rfl) (tw hw 234 rfl) (by decide) (rm_l2I l Z a0 hw b101 d1 d2 h101 O104 A101 F101_e0 F101_e1 n_b101) (tw hw 235 rfl) (tw hw 171 rfl) e101 (argsL := [(.ref d1), (.ref d2)]) (rest := [(.ref b101)]) (W := 1) rfl rfl pd_9 rfl (Nat.le_of_eq rfl) rfl (by decide) (by decide) (by decide) (by decide) rfl d22_55 rfl ?_
  intro T103 v103 L103 X103 q103
  obtain ⟨rfl, N103q, K103, P103_0, P103_1⟩ := q103
  have N103 := Fr.app N0 N103q
  have K105 : Keep h0 T103.heap [] := (((Keep.refl h0 []).ext E101).trans K103 (allS (Or.inr z_b101) all0))
  have c106 : Exa Z T103.heap b101 "java/util/ImmutableCollections$List12" := (Exa.keep A101 K103)
  exact Go.retA C X103 rfl d22_58 rfl rfl rfl ⟨b101, rfl, N103, K105, z_b101, c106, P103_0, P103_1⟩ (by decide) (by decide)
def Q_emp3 (Z : State) (r : Addr) (h0 : Heap) (rv : Option Value) (h : Heap) (L : List Loc) : Prop := rv = some (.int (0 : Int32)) ∧ L = [] ∧ h = h0
set_option maxRecDepth 65536 in
set_option maxHeartbeats 40000000 in
theorem rm_emp3 (l : Launch) (Z : State) (a0 : Array Value) (hw : ∀ d ∈ tables_1, d.before a0 Z = true) (r : Addr) (h0 : Heap) (O0 : Ext Z.heap h0) (F3 : Fld Z h0 r "java/util/ArrayList" "size" "I" (.int (3 : Int32))) :
    Met1 l Z (⟨"java/util/ArrayList", "isEmpty", "()Z"⟩ : MethodName) jdk_38_method_9_code 1 (some .boolean) ({ frames := 0, cells := 0, slots := 0, locals := 0 } : Room) #[(.ref r)] h0 (Q_emp3 Z r h0) := by
  refine Met1.of_body (Ls := #[.val (.ref r)]) pf_10 (fun m => by first | (simp [entryFrame, mkF, argsToLocals, Value.category]; done) | rfl) ?_
  intro p e s m below meth c T0 C X0 e0
  have N0 : Fr Z.heap.size [] := Fr.nil _
  refine Go.aloadN (pc' := 1) C X0 d10_0 rfl rfl rfl ?_
  refine Go.getF (pc' := 4) (host := "") C X0 (Or.inl (tw hw 73 rfl)) Via.refl e0 F3 d10_1 rfl ?_
  intro T101 X101 e101
  refine Go.ifYes (pc' := 11) C X101 d10_4 ((if0 _ _).trans (feq (x := (3 : Int32)) (y := (0 : Int32)) (by decide)).2) (by decide) (by decide) ?_
  refine Go.iconst (z := (0 : Int32)) (pc' := 12) C X101 d10_11 rfl rfl ?_
  exact Go.retN C X101 rfl d10_12 (by simp) (by rw [e101]; exact ⟨rfl, rfl, rfl⟩) (by decide) (by decide)
def Q_mn3 (Z : State)  (h0 : Heap) (rv : Option Value) (h : Heap) (L : List Loc) : Prop := rv = some (.int (3 : Int32)) ∧ L = [] ∧ h = h0
set_option maxRecDepth 65536 in
set_option maxHeartbeats 40000000 in
theorem rm_mn3 (l : Launch) (Z : State) (a0 : Array Value) (hw : ∀ d ∈ tables_1, d.before a0 Z = true)  (h0 : Heap) (O0 : Ext Z.heap h0) :
    Met1 l Z (⟨"java/lang/Math", "min", "(II)I"⟩ : MethodName) jdk_29_method_69_code 2 (some .int) ({ frames := 0, cells := 0, slots := 0, locals := 0 } : Room) #[(.int (10 : Int32)), (.int (3 : Int32))] h0 (Q_mn3 Z  h0) := by
  refine Met1.of_body (Ls := #[.val (.int (10 : Int32)), .val (.int (3 : Int32))]) pf_21 (fun m => by first | (simp [entryFrame, mkF, argsToLocals, Value.category]; done) | rfl) ?_
  intro p e s m below meth c T0 C X0 e0
  have N0 : Fr Z.heap.size [] := Fr.nil _
  refine Go.iloadN (pc' := 1) C X0 d21_0 rfl rfl ?_
  refine Go.iloadN (pc' := 2) C X0 d21_1 rfl rfl ?_
  refine Go.icmpYes (pc' := 9) C X0 d21_2 (tlt (x := (3 : Int32)) (y := (10 : Int32)) (by decide)).2.2.1 (by decide) (by decide) ?_
  refine Go.iloadN (pc' := 10) C X0 d21_9 rfl rfl ?_
  exact Go.retI C X0 rfl d21_10 (by rw [e0]; exact ⟨rfl, rfl, rfl⟩) (by decide) (by decide)
def Q_cpc3 (Z : State) (d1 : Addr) (d2 : Addr) (d3 : Addr) (w : Addr) (kw : ClassId) (mr : Addr) (h0 : Heap) (rv : Option Value) (h : Heap) (L : List Loc) : Prop := ∃ v : Addr, ∃ kv : ClassId, rv = some (.ref v) ∧ Fr Z.heap.size L ∧ Keep h0 h [] ∧ h0.size ≤ v ∧ AL Z h v kv (.object "java/lang/Object") [(.ref d1), (.ref d2), (.ref d3)]
set_option maxRecDepth 65536 in
set_option maxHeartbeats 40000000 in
theorem rm_cpc3 (l : Launch) (Z : State) (a0 : Array Value) (hw : ∀ d ∈ tables_1, d.before a0 Z = true) (d1 : Addr) (d2 : Addr) (d3 : Addr) (w : Addr) (kw : ClassId) (mr : Addr) (h0 : Heap) (O0 : Ext Z.heap h0) (Ew : Exa Z h0 w "[Ljava/lang/Object;") (Aw : AL Z h0 w kw (.object "java/lang/Object") [(.ref d1), (.ref d2), (.ref d3), .null, .null, .null, .null, .null, .null, .null]) (Ed0 : Exa Z h0 d1 "com/example/barrault/barrault/model/PathPattern$Step") (Ed1 : Exa Z h0 d2 "com/example/barrault/barrault/model/PathPattern$Step") (Ed2 : Exa Z h0 d3 "com/example/barrault/barrault/model/PathPattern$Step") (hM : Mir Z "[Ljava/lang/Object;" mr) :
    Met1 l Z (⟨"java/util/Arrays", "copyOf", "([Ljava/lang/Object;ILjava/lang/Class;)[Ljava/lang/Object;"⟩ : MethodName) jdk_65_method_120_code 4 (some (.array (.object "java/lang/Object"))) ({ frames := 1, cells := 1, slots := 3, locals := 18 } : Room) #[(.ref w), (.int (3 : Int32)), (.ref mr)] h0 (Q_cpc3 Z d1 d2 d3 w kw mr h0) := by
  refine Met1.of_body (Ls := #[.val (.ref w), .val (.int (3 : Int32)), .val (.ref mr), .unset]) pf_20 (fun m => by first | (simp [entryFrame, mkF, argsToLocals, Value.category]; done) | rfl) ?_
  intro p e s m below meth c T0 C X0 e0
  have N0 : Fr Z.heap.size [] := Fr.nil _
  refine Go.aloadN (pc' := 1) C X0 d20_0 rfl rfl rfl ?_
  refine Go.ldcM (pc' := 3) C X0 (tw hw 157 rfl) e0 hM d20_1 rfl ?_
  intro T101 X101 e101
  refine Go.acmpNo (pc' := 6) C X101 d20_3 rfl rfl (XT.aa_ne_f rfl) rfl ?_
  refine Go.iloadN (pc' := 7) C X101 d20_6 rfl rfl ?_
  refine Go.newR (cap := 3) (vs := [.null, .null, .null]) (ad := "[Ljava/lang/Object;") (pc' := 10) C X101 (by decide) (tw hw 158 rfl) (tw hw 118 rfl) e101 (by decide) (by decide) (by decide) (by decide) (by decide) rfl d20_7 rfl ?_
  intro T102 h102 b102 k102 X102 e102 g102 E102 A102 Ea102 O102v
  have n_b102 : Z.heap.size ≤ b102 := Nat.le_trans O0.1 (Nat.le_of_eq g102.symm)
  have z_b102 : h0.size ≤ b102 := Nat.le_trans (Nat.le_refl _) (Nat.le_of_eq g102.symm)
  have A102 : AL Z h102 b102 k102 (.object "java/lang/Object") [.null, .null, .null] := A102
  refine Go.goto (pc' := 24) C X102 d20_10 (by decide) (by decide) ?_
  refine Go.astoreN (Ls' := #[.val (.ref w), .val (.int (3 : Int32)), .val (.ref mr), .val (.ref b102)]) (pc' := 25) C X102 d20_24 rfl rfl rfl ?_
  refine Go.aloadN (pc' := 26) C X102 d20_25 rfl rfl rfl ?_
  refine Go.iconst (z := (0 : Int32)) (pc' := 27) C X102 d20_26 rfl rfl ?_
  refine Go.aloadN (pc' := 28) C X102 d20_27 rfl rfl rfl ?_
  refine Go.iconst (z := (0 : Int32)) (pc' := 29) C X102 d20_28 rfl rfl ?_
  refine Go.aloadN (pc' := 30) C X102 d20_29 rfl rfl rfl ?_
  have c103 : AL Z h102 w kw (.object "java/lang/Object") [(.ref d1), (.ref d2), (.ref d3), .null, .null, .null, .null, .null, .null, .null] := (AL.ext E102 Aw)
  refine Go.alen (z := (10 : Int32)) (pc' := 31) C X102 e102 c103 rfl d20_30 rfl ?_
  refine Go.iloadN (pc' := 32) C X102 d20_31 rfl rfl ?_
  have O105 : Ext Z.heap h102 := (Ext.trans O0 E102)
  refine Go.callS (y := (⟨"java/lang/Math", "min", "(II)I"⟩ : MethodName)) (pc' := 35) C X102 (tw hw 159 rfl) (tw hw 160 rfl) (by decide) (rm_mn3 l Z a0 hw  h102 O105 ) (tw hw 161 rfl) (tw hw 115 rfl) e102 (argsL := [(.int (10 : Int32)), (.int (3 : Int32))]) (rest := [(.int (0 : Int32)), (.ref b102), (.int (0 : Int32)), (.ref w)]) (W := 4) rfl rfl pd_1 rfl (Nat.le_of_eq rfl) rfl (by decide) (by decide) (by decide) (by decide) d20_32 rfl ?_
  intro T104 v104 L104 X104 q104
  obtain ⟨rfl, rfl, e104⟩ := q104
  have N104 := Fr.app N0 (Fr.nil _)
  have c107 : Exa Z h102 d3 "com/example/barrault/barrault/model/PathPattern$Step" := (Exa.ext E102 Ed2)
  have c108 : Exa Z h102 d2 "com/example/barrault/barrault/model/PathPattern$Step" := (Exa.ext E102 Ed1)
  have c109 : Exa Z h102 d1 "com/example/barrault/barrault/model/PathPattern$Step" := (Exa.ext E102 Ed0)
  refine Go.arrcopy (i := 0) (j := 0) (n := 3) (vd' := [(.ref d1), (.ref d2), (.ref d3)]) (W := 0) (n0 := Z.heap.size) (pc' := 38) C X104 (tw hw 162 rfl) (tw hw 165 rfl) (tw hw 163 rfl) (tw hw 164 rfl) e104 c103 A102 (by simp [fits]) (by simp [fits]) (by simp) (by simp) (Or.inr ⟨rfl, rfl, ⟨(AL.sto A102 O102v (Ins.of_exa c109 (tw hw 119 rfl))), ⟨(AL.sto A102 O102v (Ins.of_exa c108 (tw hw 119 rfl))), ⟨(AL.sto A102 O102v (Ins.of_exa c107 (tw hw 119 rfl))), trivial⟩⟩⟩⟩) (by decide) (by decide) (by decide) (by decide) (by decide) (by decide) (by simp) (by simp) rfl N104 n_b102 rfl (by decide) (Nat.le_of_eq rfl) (by decide) d20_35 rfl ?_
  intro T106 h106 L106 X106 e106 N106 K106 A106
  refine Go.aloadN (pc' := 39) C X106 d20_38 rfl rfl rfl ?_
  have K110 : Keep h0 h106 [] := (((Keep.refl h0 []).ext E102).trans K106 (allS (Or.inr z_b102) all0))
  exact Go.retA C X106 rfl d20_39 rfl rfl rfl (by rw [e106]; exact ⟨b102, k102, rfl, N106, K110, z_b102, A106⟩) (by decide) (by decide)
def Q_cp3 (Z : State) (d1 : Addr) (d2 : Addr) (d3 : Addr) (w : Addr) (kw : ClassId) (mr : Addr) (h0 : Heap) (rv : Option Value) (h : Heap) (L : List Loc) : Prop := ∃ v : Addr, ∃ kv : ClassId, rv = some (.ref v) ∧ Fr Z.heap.size L ∧ Keep h0 h [] ∧ h0.size ≤ v ∧ AL Z h v kv (.object "java/lang/Object") [(.ref d1), (.ref d2), (.ref d3)]
set_option maxRecDepth 65536 in
set_option maxHeartbeats 40000000 in
theorem rm_cp3 (l : Launch) (Z : State) (a0 : Array Value) (hw : ∀ d ∈ tables_1, d.before a0 Z = true) (d1 : Addr) (d2 : Addr) (d3 : Addr) (w : Addr) (kw : ClassId) (mr : Addr) (h0 : Heap) (O0 : Ext Z.heap h0) (Ew : Exa Z h0 w "[Ljava/lang/Object;") (Aw : AL Z h0 w kw (.object "java/lang/Object") [(.ref d1), (.ref d2), (.ref d3), .null, .null, .null, .null, .null, .null, .null]) (Ed0 : Exa Z h0 d1 "com/example/barrault/barrault/model/PathPattern$Step") (Ed1 : Exa Z h0 d2 "com/example/barrault/barrault/model/PathPattern$Step") (Ed2 : Exa Z h0 d3 "com/example/barrault/barrault/model/PathPattern$Step") (hM : Mir Z "[Ljava/lang/Object;" mr) :
    Met1 l Z (⟨"java/util/Arrays", "copyOf", "([Ljava/lang/Object;I)[Ljava/lang/Object;"⟩ : MethodName) jdk_65_method_119_code 2 (some (.array (.object "java/lang/Object"))) ({ frames := 2, cells := 1, slots := 3, locals := 33 } : Room) #[(.ref w), (.int (3 : Int32))] h0 (Q_cp3 Z d1 d2 d3 w kw mr h0) := by
  refine Met1.of_body (Ls := #[.val (.ref w), .val (.int (3 : Int32))]) pf_19 (fun m => by first | (simp [entryFrame, mkF, argsToLocals, Value.category]; done) | rfl) ?_
  intro p e s m below meth c T0 C X0 e0
  have N0 : Fr Z.heap.size [] := Fr.nil _
  refine Go.aloadN (pc' := 1) C X0 d19_0 rfl rfl rfl ?_
  refine Go.iloadN (pc' := 2) C X0 d19_1 rfl rfl ?_
  refine Go.aloadN (pc' := 3) C X0 d19_2 rfl rfl rfl ?_
  refine Go.gcls (W := 2) (pc' := 6) C X0 (tw hw 148 rfl) (tw hw 149 rfl) (tw hw 62 rfl) (tw hw 151 rfl) (tw hw 150 rfl) (tw hw 152 rfl) e0 Ew hM rfl (by decide) (Nat.le_of_eq rfl) (by decide) d19_3 rfl ?_
  intro T101 X101 e101
  refine Go.callS (y := (⟨"java/util/Arrays", "copyOf", "([Ljava/lang/Object;ILjava/lang/Class;)[Ljava/lang/Object;"⟩ : MethodName)) (pc' := 9) C X101 (tw hw 154 rfl) (tw hw 155 rfl) (by decide) (rm_cpc3 l Z a0 hw d1 d2 d3 w kw mr h0 O0 Ew Aw Ed0 Ed1 Ed2 hM) (tw hw 156 rfl) (tw hw 146 rfl) e101 (argsL := [(.ref w), (.int (3 : Int32)), (.ref mr)]) (rest := []) (W := 0) rfl rfl pd_6 rfl (Nat.le_of_eq rfl) rfl (by decide) (by decide) (by decide) (by decide) d19_6 rfl ?_
  intro T102 v102 L102 X102 q102
  obtain ⟨v_102, kv_102, rfl, N102q, K102, B102_0, P102_0⟩ := q102
  have N102 := Fr.app N0 N102q
  have n_v_102 : Z.heap.size ≤ v_102 := Nat.le_trans O0.1 B102_0
  have z_v_102 : h0.size ≤ v_102 := Nat.le_trans (Nat.le_refl _) B102_0
  have K103 : Keep h0 T102.heap [] := ((Keep.refl h0 []).trans K102 all0)
  exact Go.retA C X102 rfl d19_9 rfl rfl rfl ⟨v_102, kv_102, rfl, N102, K103, z_v_102, P102_0⟩ (by decide) (by decide)
def Q_ta3 (Z : State) (r : Addr) (d1 : Addr) (d2 : Addr) (d3 : Addr) (w : Addr) (kw : ClassId) (mr : Addr) (h0 : Heap) (rv : Option Value) (h : Heap) (L : List Loc) : Prop := ∃ v : Addr, ∃ kv : ClassId, rv = some (.ref v) ∧ Fr Z.heap.size L ∧ Keep h0 h [] ∧ h0.size ≤ v ∧ AL Z h v kv (.object "java/lang/Object") [(.ref d1), (.ref d2), (.ref d3)]
set_option maxRecDepth 65536 in
set_option maxHeartbeats 40000000 in
theorem rm_ta3 (l : Launch) (Z : State) (a0 : Array Value) (hw : ∀ d ∈ tables_1, d.before a0 Z = true) (r : Addr) (d1 : Addr) (d2 : Addr) (d3 : Addr) (w : Addr) (kw : ClassId) (mr : Addr) (h0 : Heap) (O0 : Ext Z.heap h0) (F2 : Fld Z h0 r "java/util/ArrayList" "elementData" "[Ljava/lang/Object;" (.ref w)) (F3 : Fld Z h0 r "java/util/ArrayList" "size" "I" (.int (3 : Int32))) (Ew : Exa Z h0 w "[Ljava/lang/Object;") (Aw : AL Z h0 w kw (.object "java/lang/Object") [(.ref d1), (.ref d2), (.ref d3), .null, .null, .null, .null, .null, .null, .null]) (Ed0 : Exa Z h0 d1 "com/example/barrault/barrault/model/PathPattern$Step") (Ed1 : Exa Z h0 d2 "com/example/barrault/barrault/model/PathPattern$Step") (Ed2 : Exa Z h0 d3 "com/example/barrault/barrault/model/PathPattern$Step") (hM : Mir Z "[Ljava/lang/Object;" mr) :
    Met1 l Z (⟨"java/util/ArrayList", "toArray", "()[Ljava/lang/Object;"⟩ : MethodName) jdk_38_method_16_code 1 (some (.array (.object "java/lang/Object"))) ({ frames := 3, cells := 1, slots := 3, locals := 46 } : Room) #[(.ref r)] h0 (Q_ta3 Z r d1 d2 d3 w kw mr h0) := by
  refine Met1.of_body (Ls := #[.val (.ref r)]) pf_18 (fun m => by first | (simp [entryFrame, mkF, argsToLocals, Value.category]; done) | rfl) ?_
  intro p e s m below meth c T0 C X0 e0
  have N0 : Fr Z.heap.size [] := Fr.nil _
  refine Go.aloadN (pc' := 1) C X0 d18_0 rfl rfl rfl ?_
  refine Go.getF (pc' := 4) (host := "") C X0 (Or.inl (tw hw 39 rfl)) Via.refl e0 F2 d18_1 rfl ?_
  intro T101 X101 e101
  refine Go.aloadN (pc' := 5) C X101 d18_4 rfl rfl rfl ?_
  refine Go.getF (pc' := 8) (host := "") C X101 (Or.inl (tw hw 73 rfl)) Via.refl e101 F3 d18_5 rfl ?_
  intro T102 X102 e102
  refine Go.callS (y := (⟨"java/util/Arrays", "copyOf", "([Ljava/lang/Object;I)[Ljava/lang/Object;"⟩ : MethodName)) (pc' := 11) C X102 (tw hw 144 rfl) (tw hw 145 rfl) (by decide) (rm_cp3 l Z a0 hw d1 d2 d3 w kw mr h0 O0 Ew Aw Ed0 Ed1 Ed2 hM) (tw hw 147 rfl) (tw hw 146 rfl) e102 (argsL := [(.ref w), (.int (3 : Int32))]) (rest := []) (W := 0) rfl rfl pd_7 rfl (Nat.le_of_eq rfl) rfl (by decide) (by decide) (by decide) (by decide) d18_8 rfl ?_
  intro T103 v103 L103 X103 q103
  obtain ⟨v_103, kv_103, rfl, N103q, K103, B103_0, P103_0⟩ := q103
  have N103 := Fr.app N0 N103q
  have n_v_103 : Z.heap.size ≤ v_103 := Nat.le_trans O0.1 B103_0
  have z_v_103 : h0.size ≤ v_103 := Nat.le_trans (Nat.le_refl _) B103_0
  have K104 : Keep h0 T103.heap [] := ((Keep.refl h0 []).trans K103 all0)
  exact Go.retA C X103 rfl d18_11 rfl rfl rfl ⟨v_103, kv_103, rfl, N103, K104, z_v_103, P103_0⟩ (by decide) (by decide)
theorem pd_10 : parseMethodDescriptor "([Ljava/lang/Object;Z)V" = some ⟨[(.array (.object "java/lang/Object")), .boolean], none⟩ := by decide +kernel
theorem pf_32 : plainFor (⟨"java/util/ImmutableCollections", "listFromArray", "([Ljava/lang/Object;)Ljava/util/List;"⟩ : MethodName) = true := plainFor_of_name (by first | (simp [plainName, overriddenIn]; done) | decide +kernel)
theorem d32_0 : decode jdk_56_method_4_code 0 = .ok (.aload_n 0, 1) := by decide +kernel
theorem d32_1 : decode jdk_56_method_4_code 1 = .ok (.arraylength, 1) := by decide +kernel
theorem d32_2 : decode jdk_56_method_4_code 2 = .ok (.anewarray 2, 3) := by decide +kernel
theorem d32_5 : decode jdk_56_method_4_code 5 = .ok (.astore_n 1, 1) := by decide +kernel
theorem d32_6 : decode jdk_56_method_4_code 6 = .ok (.iconst 0, 1) := by decide +kernel
theorem d32_7 : decode jdk_56_method_4_code 7 = .ok (.istore_n 2, 1) := by decide +kernel
theorem d32_8 : decode jdk_56_method_4_code 8 = .ok (.iload_n 2, 1) := by decide +kernel
theorem d32_9 : decode jdk_56_method_4_code 9 = .ok (.aload_n 0, 1) := by decide +kernel
theorem d32_10 : decode jdk_56_method_4_code 10 = .ok (.arraylength, 1) := by decide +kernel
theorem d32_11 : decode jdk_56_method_4_code 11 = .ok (.if_icmp .ge 18, 3) := by decide +kernel
theorem d32_14 : decode jdk_56_method_4_code 14 = .ok (.aload_n 1, 1) := by decide +kernel
theorem d32_15 : decode jdk_56_method_4_code 15 = .ok (.iload_n 2, 1) := by decide +kernel
theorem d32_16 : decode jdk_56_method_4_code 16 = .ok (.aload_n 0, 1) := by decide +kernel
theorem d32_17 : decode jdk_56_method_4_code 17 = .ok (.iload_n 2, 1) := by decide +kernel
theorem d32_18 : decode jdk_56_method_4_code 18 = .ok (.aaload, 1) := by decide +kernel
theorem d32_19 : decode jdk_56_method_4_code 19 = .ok (.invokestatic 37, 3) := by decide +kernel
theorem d32_22 : decode jdk_56_method_4_code 22 = .ok (.aastore, 1) := by decide +kernel
theorem d32_23 : decode jdk_56_method_4_code 23 = .ok (.iinc 2 1, 3) := by decide +kernel
theorem d32_26 : decode jdk_56_method_4_code 26 = .ok (.goto (-18), 3) := by decide +kernel
theorem d32_29 : decode jdk_56_method_4_code 29 = .ok (.new 12, 3) := by decide +kernel
theorem d32_32 : decode jdk_56_method_4_code 32 = .ok (.dup, 1) := by decide +kernel
theorem d32_33 : decode jdk_56_method_4_code 33 = .ok (.aload_n 1, 1) := by decide +kernel
theorem d32_34 : decode jdk_56_method_4_code 34 = .ok (.iconst 0, 1) := by decide +kernel
theorem d32_35 : decode jdk_56_method_4_code 35 = .ok (.invokespecial 43, 3) := by decide +kernel
theorem d32_38 : decode jdk_56_method_4_code 38 = .ok (.areturn, 1) := by decide +kernel
def Q_lfa3 (Z : State) (d1 : Addr) (d2 : Addr) (d3 : Addr) (v : Addr) (kv : ClassId) (h0 : Heap) (rv : Option Value) (h : Heap) (L : List Loc) : Prop := ∃ r : Addr, ∃ q : Addr, ∃ kq : ClassId, rv = some (.ref r) ∧ Fr Z.heap.size L ∧ Keep h0 h [] ∧ h0.size ≤ r ∧ h0.size ≤ q ∧ Exa Z h r "java/util/ImmutableCollections$ListN" ∧ Fld Z h r "java/util/ImmutableCollections$ListN" "elements" "[Ljava/lang/Object;" (.ref q) ∧ AL Z h q kq (.object "java/lang/Object") [(.ref d1), (.ref d2), (.ref d3)]
set_option maxRecDepth 65536 in
set_option maxHeartbeats 40000000 in
theorem rm_lfa3 (l : Launch) (Z : State) (a0 : Array Value) (hw : ∀ d ∈ tables_1, d.before a0 Z = true) (d1 : Addr) (d2 : Addr) (d3 : Addr) (v : Addr) (kv : ClassId) (h0 : Heap) (O0 : Ext Z.heap h0) (Av : AL Z h0 v kv (.object "java/lang/Object") [(.ref d1), (.ref d2), (.ref d3)]) (Ed0 : Exa Z h0 d1 "com/example/barrault/barrault/model/PathPattern$Step") (Ed1 : Exa Z h0 d2 "com/example/barrault/barrault/model/PathPattern$Step") (Ed2 : Exa Z h0 d3 "com/example/barrault/barrault/model/PathPattern$Step") :
    Met1 l Z (⟨"java/util/ImmutableCollections", "listFromArray", "([Ljava/lang/Object;)Ljava/util/List;"⟩ : MethodName) jdk_56_method_4_code 3 (some (.object "java/util/List")) ({ frames := 5, cells := 2, slots := 5, locals := 63 } : Room) #[(.ref v)] h0 (Q_lfa3 Z d1 d2 d3 v kv h0) := by
  refine Met1.of_body (Ls := #[.val (.ref v), .unset, .unset]) pf_32 (fun m => by first | (simp [entryFrame, mkF, argsToLocals, Value.category]; done) | rfl) ?_
  intro p e s m below meth c T0 C X0 e0
  have N0 : Fr Z.heap.size [] := Fr.nil _
  refine Go.aloadN (pc' := 1) C X0 d32_0 rfl rfl rfl ?_
  refine Go.alen (z := (3 : Int32)) (pc' := 2) C X0 e0 Av rfl d32_1 rfl ?_
  refine Go.newR (cap := 3) (vs := [.null, .null, .null]) (ad := "[Ljava/lang/Object;") (pc' := 5) C X0 (by decide) (tw hw 239 rfl) (tw hw 118 rfl) e0 (by decide) (by decide) (by decide) (by decide) (by decide) rfl d32_2 rfl ?_
  intro T101 h101 b101 k101 X101 e101 g101 E101 A101 Ea101 O101v
  have n_b101 : Z.heap.size ≤ b101 := Nat.le_trans O0.1 (Nat.le_of_eq g101.symm)
  have z_b101 : h0.size ≤ b101 := Nat.le_trans (Nat.le_refl _) (Nat.le_of_eq g101.symm)
  have A101 : AL Z h101 b101 k101 (.object "java/lang/Object") [.null, .null, .null] := A101
  refine Go.astoreN (Ls' := #[.val (.ref v), .val (.ref b101), .unset]) (pc' := 6) C X101 d32_5 rfl rfl rfl ?_
  refine Go.iconst (z := (0 : Int32)) (pc' := 7) C X101 d32_6 rfl rfl ?_
  refine Go.istoreN (Ls' := #[.val (.ref v), .val (.ref b101), .val (.int (0 : Int32))]) (pc' := 8) C X101 d32_7 rfl rfl ?_
  refine Go.iloadN (pc' := 9) C X101 d32_8 rfl rfl ?_
  refine Go.aloadN (pc' := 10) C X101 d32_9 rfl rfl rfl ?_
  have c102 : AL Z h101 v kv (.object "java/lang/Object") [(.ref d1), (.ref d2), (.ref d3)] := (AL.ext E101 Av)
  refine Go.alen (z := (3 : Int32)) (pc' := 11) C X101 e101 c102 rfl d32_10 rfl ?_
  refine Go.icmpNo (pc' := 14) C X101 d32_11 (tlt (x := (0 : Int32)) (y := (3 : Int32)) (by decide)).2.1 rfl ?_
  refine Go.aloadN (pc' := 15) C X101 d32_14 rfl rfl rfl ?_
  refine Go.iloadN (pc' := 16) C X101 d32_15 rfl rfl ?_
  refine Go.aloadN (pc' := 17) C X101 d32_16 rfl rfl rfl ?_
  refine Go.iloadN (pc' := 18) C X101 d32_17 rfl rfl ?_
  refine Go.ldR (i := 0) (v := (.ref d1)) (pc' := 19) C X101 e101 c102 (by decide) (by decide) rfl rfl d32_18 rfl ?_
  have O105 : Ext Z.heap h101 := (Ext.trans O0 E101)
  refine Go.callS (y := (⟨"java/util/Objects", "requireNonNull", "(Ljava/lang/Object;)Ljava/lang/Object;"⟩ : MethodName)) (pc' := 22) C X101 (tw hw 240 rfl) (tw hw 191 rfl) (by decide) (rm_rn l Z a0 hw d1 h101 O105 ) (tw hw 193 rfl) (tw hw 192 rfl) e101 (argsL := [(.ref d1)]) (rest := [(.int (0 : Int32)), (.ref b101)]) (W := 2) rfl rfl pd_5 rfl (Nat.le_of_eq rfl) rfl (by decide) (by decide) (by decide) (by decide) d32_19 rfl ?_
  intro T104 v104 L104 X104 q104
  obtain ⟨rfl, rfl, e104⟩ := q104
  have N104 := Fr.app N0 (Fr.nil _)
  have c107 : Exa Z h101 d1 "com/example/barrault/barrault/model/PathPattern$Step" := (Exa.ext E101 Ed0)
  refine Go.stR (i := 0) (vs' := [(.ref d1), .null, .null]) (pc' := 23) C X104 e104 A101 (by decide) (by decide) (by simp) rfl (AL.sto A101 O101v (Ins.of_exa c107 (tw hw 119 rfl))) rfl d32_22 rfl ?_
  intro T106 h106 X106 e106 W106 A106
  have N106 := Fr.snoc X106 N104 n_b101
  refine Go.iinc (Ls' := #[.val (.ref v), .val (.ref b101), .val (.int ((0 : Int32) + (1 : Int32)))]) (z := (1 : Int32)) (pc' := 26) C X106 d32_23 rfl rfl rfl rfl ?_
  rw [show ((0 : Int32) + (1 : Int32)) = (1 : Int32) from by decide]
  refine Go.goto (pc' := 8) C X106 d32_26 (by decide) (by decide) ?_
  refine Go.iloadN (pc' := 9) C X106 d32_8 rfl rfl ?_
  refine Go.aloadN (pc' := 10) C X106 d32_9 rfl rfl rfl ?_
  have ne108 : v ≠ b101 := Nat.ne_of_lt (Nat.lt_of_lt_of_le Av.lt (Nat.le_trans (Nat.le_refl _) (Nat.le_of_eq g101.symm)))
  have c109 : AL Z h106 v kv (.object "java/lang/Object") [(.ref d1), (.ref d2), (.ref d3)] := (AL.other W106 c102 ne108)
  refine Go.alen (z := (3 : Int32)) (pc' := 11) C X106 e106 c109 rfl d32_10 rfl ?_
  refine Go.icmpNo (pc' := 14) C X106 d32_11 (tlt (x := (1 : Int32)) (y := (3 : Int32)) (by decide)).2.1 rfl ?_
  refine Go.aloadN (pc' := 15) C X106 d32_14 rfl rfl rfl ?_
  refine Go.iloadN (pc' := 16) C X106 d32_15 rfl rfl ?_
  refine Go.aloadN (pc' := 17) C X106 d32_16 rfl rfl rfl ?_
  refine Go.iloadN (pc' := 18) C X106 d32_17 rfl rfl ?_
  refine Go.ldR (i := 1) (v := (.ref d2)) (pc' := 19) C X106 e106 c109 (by decide) (by decide) rfl rfl d32_18 rfl ?_
  have O112 : Ext Z.heap h106 := (Ext.wr O105 W106 n_b101)
  refine Go.callS (y := (⟨"java/util/Objects", "requireNonNull", "(Ljava/lang/Object;)Ljava/lang/Object;"⟩ : MethodName)) (pc' := 22) C X106 (tw hw 240 rfl) (tw hw 191 rfl) (by decide) (rm_rn l Z a0 hw d2 h106 O112 ) (tw hw 193 rfl) (tw hw 192 rfl) e106 (argsL := [(.ref d2)]) (rest := [(.int (1 : Int32)), (.ref b101)]) (W := 2) rfl rfl pd_5 rfl (Nat.le_of_eq rfl) rfl (by decide) (by decide) (by decide) (by decide) d32_19 rfl ?_
  intro T111 v111 L111 X111 q111
  obtain ⟨rfl, rfl, e111⟩ := q111
  have N111 := Fr.app N106 (Fr.nil _)
  have c114 : Exa Z h106 d2 "com/example/barrault/barrault/model/PathPattern$Step" := (Exa.wr W106 (Exa.ext E101 Ed1))
  refine Go.stR (i := 1) (vs' := [(.ref d1), (.ref d2), .null]) (pc' := 23) C X111 e111 A106 (by decide) (by decide) (by simp) rfl (AL.sto A106 O101v (Ins.of_exa c114 (tw hw 119 rfl))) rfl d32_22 rfl ?_
  intro T113 h113 X113 e113 W113 A113
  have N113 := Fr.snoc X113 N111 n_b101
  refine Go.iinc (Ls' := #[.val (.ref v), .val (.ref b101), .val (.int ((1 : Int32) + (1 : Int32)))]) (z := (1 : Int32)) (pc' := 26) C X113 d32_23 rfl rfl rfl rfl ?_
  rw [show ((1 : Int32) + (1 : Int32)) = (2 : Int32) from by decide]
  refine Go.goto (pc' := 8) C X113 d32_26 (by decide) (by decide) ?_
  refine Go.iloadN (pc' := 9) C X113 d32_8 rfl rfl ?_
  refine Go.aloadN (pc' := 10) C X113 d32_9 rfl rfl rfl ?_
  have c115 : AL Z h113 v kv (.object "java/lang/Object") [(.ref d1), (.ref d2), (.ref d3)] := (AL.other W113 c109 ne108)
  refine Go.alen (z := (3 : Int32)) (pc' := 11) C X113 e113 c115 rfl d32_10 rfl ?_
  refine Go.icmpNo (pc' := 14) C X113 d32_11 (tlt (x := (2 : Int32)) (y := (3 : Int32)) (by decide)).2.1 rfl ?_
  refine Go.aloadN (pc' := 15) C X113 d32_14 rfl rfl rfl ?_
  refine Go.iloadN (pc' := 16) C X113 d32_15 rfl rfl ?_
  refine Go.aloadN (pc' := 17) C X113 d32_16 rfl rfl rfl ?_
  refine Go.iloadN (pc' := 18) C X113 d32_17 rfl rfl ?_
  refine Go.ldR (i := 2) (v := (.ref d3)) (pc' := 19) C X113 e113 c115 (by decide) (by decide) rfl rfl d32_18 rfl ?_
  have O118 : Ext Z.heap h113 := (Ext.wr O112 W113 n_b101)
  refine Go.callS (y := (⟨"java/util/Objects", "requireNonNull", "(Ljava/lang/Object;)Ljava/lang/Object;"⟩ : MethodName)) (pc' := 22) C X113 (tw hw 240 rfl) (tw hw 191 rfl) (by decide) (rm_rn l Z a0 hw d3 h113 O118 ) (tw hw 193 rfl) (tw hw 192 rfl) e113 (argsL := [(.ref d3)]) (rest := [(.int (2 : Int32)), (.ref b101)]) (W := 2) rfl rfl pd_5 rfl (Nat.le_of_eq rfl) rfl (by decide) (by decide) (by decide) (by decide) d32_19 rfl ?_
  intro T117 v117 L117 X117 q117
  obtain ⟨rfl, rfl, e117⟩ := q117
  have N117 := Fr.app N113 (Fr.nil _)
  have c120 : Exa Z h113 d3 "com/example/barrault/barrault/model/PathPattern$Step" := (Exa.wr W113 (Exa.wr W106 (Exa.ext E101 Ed2)))
  refine Go.stR (i := 2) (vs' := [(.ref d1), (.ref d2), (.ref d3)]) (pc' := 23) C X117 e117 A113 (by decide) (by decide) (by simp) rfl (AL.sto A113 O101v (Ins.of_exa c120 (tw hw 119 rfl))) rfl d32_22 rfl ?_
  intro T119 h119 X119 e119 W119 A119
  have N119 := Fr.snoc X119 N117 n_b101
  refine Go.iinc (Ls' := #[.val (.ref v), .val (.ref b101), .val (.int ((2 : Int32) + (1 : Int32)))]) (z := (1 : Int32)) (pc' := 26) C X119 d32_23 rfl rfl rfl rfl ?_
  rw [show ((2 : Int32) + (1 : Int32)) = (3 : Int32) from by decide]
  refine Go.goto (pc' := 8) C X119 d32_26 (by decide) (by decide) ?_
  refine Go.iloadN (pc' := 9) C X119 d32_8 rfl rfl ?_
  refine Go.aloadN (pc' := 10) C X119 d32_9 rfl rfl rfl ?_
  have c121 : AL Z h119 v kv (.object "java/lang/Object") [(.ref d1), (.ref d2), (.ref d3)] := (AL.other W119 c115 ne108)
  refine Go.alen (z := (3 : Int32)) (pc' := 11) C X119 e119 c121 rfl d32_10 rfl ?_
  refine Go.icmpYes (pc' := 29) C X119 d32_11 (flt (x := (3 : Int32)) (y := (3 : Int32)) (by decide)).2.1 (by decide) (by decide) ?_
  have O124 : Ext Z.heap h119 := (Ext.wr O118 W119 n_b101)
  refine Go.newO (pc' := 32) C X119 (tw hw 63 rfl) (tw hw 241 rfl) (tw hw 242 rfl) e119 (by decide) (by decide) d32_29 rfl ?_
  intro T123 h123 b123 X123 e123 g123 E123 A123 D123
  have n_b123 : Z.heap.size ≤ b123 := Nat.le_trans O124.1 (Nat.le_of_eq g123.symm)
  have z_b123 : h0.size ≤ b123 := Nat.le_trans (Nat.le_trans (Nat.le_trans (Nat.le_trans (Nat.le_trans (Nat.le_refl _) E101.1) (Nat.le_of_eq W106.size.symm)) (Nat.le_of_eq W113.size.symm)) (Nat.le_of_eq W119.size.symm)) (Nat.le_of_eq g123.symm)
  have F123_elements : Fld Z h123 b123 "java/util/ImmutableCollections$ListN" "elements" "[Ljava/lang/Object;" .null := D123 (Or.inr (tw hw 252 rfl)) (ty := (.array (.object "java/lang/Object"))) (by decide)
  have F123_allowNulls : Fld Z h123 b123 "java/util/ImmutableCollections$ListN" "allowNulls" "Z" (.int (0 : Int32)) := D123 (Or.inr (tw hw 254 rfl)) (ty := .boolean) (by decide)
  refine Go.dup (pc' := 33) C X123 d32_32 rfl rfl ?_
  refine Go.aloadN (pc' := 34) C X123 d32_33 rfl rfl rfl ?_
  refine Go.iconst (z := (0 : Int32)) (pc' := 35) C X123 d32_34 rfl rfl ?_
  have O126 : Ext Z.heap h123 := (Ext.trans O124 E123)
  refine Go.callIN (y := (⟨"java/util/ImmutableCollections$ListN", "<init>", "([Ljava/lang/Object;Z)V"⟩ : MethodName)) (a := b123) (pc' := 38) C X123 rfl (tw hw 243 rfl) (tw hw 244 rfl) (by decide) (rm_lnI l Z a0 hw b123 b101 h123 O126 A123 F123_elements F123_allowNulls n_b123) (tw hw 246 rfl) (tw hw 242 rfl) e123 (argsL := [(.ref b101), (.int (0 : Int32))]) (rest := [(.ref b123)]) (W := 1) rfl rfl pd_10 rfl (Nat.le_of_eq rfl) rfl (by decide) (by decide) (by decide) (by decide) rfl d32_35 rfl ?_
  intro T125 v125 L125 X125 q125
  obtain ⟨rfl, N125q, K125, P125_0⟩ := q125
  have N125 := Fr.app N119 N125q
  have K127 : Keep h0 T125.heap [] := (((((((Keep.refl h0 []).ext E101).wr W106 (Or.inr z_b101)).wr W113 (Or.inr z_b101)).wr W119 (Or.inr z_b101)).ext E123).trans K125 (allS (Or.inr z_b123) all0))
  have c128 : Exa Z T125.heap b123 "java/util/ImmutableCollections$ListN" := (Exa.keep A123 K125)
  have ne129 : b101 ≠ b123 := Nat.ne_of_lt (Nat.lt_of_lt_of_le A101.lt (Nat.le_trans (Nat.le_trans (Nat.le_trans (Nat.le_trans (Nat.le_refl _) (Nat.le_of_eq W106.size.symm)) (Nat.le_of_eq W113.size.symm)) (Nat.le_of_eq W119.size.symm)) (Nat.le_of_eq g123.symm)))
  have c130 : AL Z T125.heap b101 k101 (.object "java/lang/Object") [(.ref d1), (.ref d2), (.ref d3)] := (AL.keep (AL.ext E123 A119) K125 (ninS ne129 nin0))
  exact Go.retA C X125 rfl d32_38 rfl rfl rfl ⟨b123, b101, k101, rfl, N125, K127, z_b123, z_b101, c128, P125_0, c130⟩ (by decide) (by decide)
theorem pd_11 : parseMethodDescriptor "([Ljava/lang/Object;)Ljava/util/List;" = some ⟨[(.array (.object "java/lang/Object"))], some (.object "java/util/List")⟩ := by decide +kernel
theorem d22_59 : decode jdk_40_method_47_code 59 = .ok (.aload_n 0, 1) := by decide +kernel
theorem d22_60 : decode jdk_40_method_47_code 60 = .ok (.invokestatic 109, 3) := by decide +kernel
theorem d22_63 : decode jdk_40_method_47_code 63 = .ok (.areturn, 1) := by decide +kernel
def Q_lof3 (Z : State) (d1 : Addr) (d2 : Addr) (d3 : Addr) (v : Addr) (kv : ClassId) (h0 : Heap) (rv : Option Value) (h : Heap) (L : List Loc) : Prop := ∃ r : Addr, ∃ q : Addr, ∃ kq : ClassId, rv = some (.ref r) ∧ Fr Z.heap.size L ∧ Keep h0 h [] ∧ h0.size ≤ r ∧ h0.size ≤ q ∧ Exa Z h r "java/util/ImmutableCollections$ListN" ∧ Fld Z h r "java/util/ImmutableCollections$ListN" "elements" "[Ljava/lang/Object;" (.ref q) ∧ AL Z h q kq (.object "java/lang/Object") [(.ref d1), (.ref d2), (.ref d3)]
set_option maxRecDepth 65536 in
set_option maxHeartbeats 40000000 in
theorem rm_lof3 (l : Launch) (Z : State) (a0 : Array Value) (hw : ∀ d ∈ tables_1, d.before a0 Z = true) (d1 : Addr) (d2 : Addr) (d3 : Addr) (v : Addr) (kv : ClassId) (h0 : Heap) (O0 : Ext Z.heap h0) (Av : AL Z h0 v kv (.object "java/lang/Object") [(.ref d1), (.ref d2), (.ref d3)]) (Ed0 : Exa Z h0 d1 "com/example/barrault/barrault/model/PathPattern$Step") (Ed1 : Exa Z h0 d2 "com/example/barrault/barrault/model/PathPattern$Step") (Ed2 : Exa Z h0 d3 "com/example/barrault/barrault/model/PathPattern$Step") :
    Met1 l Z (⟨"java/util/List", "of", "([Ljava/lang/Object;)Ljava/util/List;"⟩ : MethodName) jdk_40_method_47_code 2 (some (.object "java/util/List")) ({ frames := 6, cells := 2, slots := 5, locals := 77 } : Room) #[(.ref v)] h0 (Q_lof3 Z d1 d2 d3 v kv h0) := by
  refine Met1.of_body (Ls := #[.val (.ref v), .unset]) pf_22 (fun m => by first | (simp [entryFrame, mkF, argsToLocals, Value.category]; done) | rfl) ?_
  intro p e s m below meth c T0 C X0 e0
  have N0 : Fr Z.heap.size [] := Fr.nil _
  refine Go.aloadN (pc' := 1) C X0 d22_0 rfl rfl rfl ?_
  refine Go.alen (z := (3 : Int32)) (pc' := 2) C X0 e0 Av rfl d22_1 rfl ?_
  refine Go.tswOut (pc' := 59) C X0 d22_2 (by decide) (by decide) (by decide) ?_
  refine Go.aloadN (pc' := 60) C X0 d22_59 rfl rfl rfl ?_
  refine Go.callS (y := (⟨"java/util/ImmutableCollections", "listFromArray", "([Ljava/lang/Object;)Ljava/util/List;"⟩ : MethodName)) (pc' := 63) C X0 (tw hw 236 rfl) (tw hw 237 rfl) (by decide) (rm_lfa3 l Z a0 hw d1 d2 d3 v kv h0 O0 Av Ed0 Ed1 Ed2) (tw hw 238 rfl) (tw hw 56 rfl) e0 (argsL := [(.ref v)]) (rest := []) (W := 0) rfl rfl pd_11 rfl (Nat.le_of_eq rfl) rfl (by decide) (by decide) (by decide) (by decide) d22_60 rfl ?_
  intro T101 v101 L101 X101 q101
  obtain ⟨r_101, q_101, kq_101, rfl, N101q, K101, B101_0, B101_1, P101_0, P101_1, P101_2⟩ := q101
  have N101 := Fr.app N0 N101q
  have n_r_101 : Z.heap.size ≤ r_101 := Nat.le_trans O0.1 B101_0
  have z_r_101 : h0.size ≤ r_101 := Nat.le_trans (Nat.le_refl _) B101_0
  have n_q_101 : Z.heap.size ≤ q_101 := Nat.le_trans O0.1 B101_1
  have z_q_101 : h0.size ≤ q_101 := Nat.le_trans (Nat.le_refl _) B101_1
  have K102 : Keep h0 T101.heap [] := ((Keep.refl h0 []).trans K101 all0)
  exact Go.retA C X101 rfl d22_63 rfl rfl rfl ⟨r_101, q_101, kq_101, rfl, N101, K102, z_r_101, z_q_101, P101_0, P101_1, P101_2⟩ (by decide) (by decide)
theorem pd_12 : parseMethodDescriptor "()Z" = some ⟨[], some .boolean⟩ := by decide +kernel
theorem pd_13 : parseMethodDescriptor "()Ljava/util/List;" = some ⟨[], some (.object "java/util/List")⟩ := by decide +kernel
theorem pf_9 : plainFor (⟨"java/util/ImmutableCollections", "listCopy", "(Ljava/util/Collection;)Ljava/util/List;"⟩ : MethodName) = true := plainFor_of_name (by first | (simp [plainName, overriddenIn]; done) | decide +kernel)
theorem d9_0 : decode jdk_56_method_3_code 0 = .ok (.aload_n 0, 1) := by decide +kernel
theorem d9_1 : decode jdk_56_method_3_code 1 = .ok (.instanceof 10, 3) := by decide +kernel
theorem d9_4 : decode jdk_56_method_3_code 4 = .ok (.ifCond .ne 22, 3) := by decide +kernel
theorem d9_7 : decode jdk_56_method_3_code 7 = .ok (.aload_n 0, 1) := by decide +kernel
theorem d9_8 : decode jdk_56_method_3_code 8 = .ok (.instanceof 12, 3) := by decide +kernel
theorem d9_11 : decode jdk_56_method_3_code 11 = .ok (.ifCond .eq 20, 3) := by decide +kernel
theorem d9_31 : decode jdk_56_method_3_code 31 = .ok (.aload_n 0, 1) := by decide +kernel
theorem d9_32 : decode jdk_56_method_3_code 32 = .ok (.invokeinterface 20 1, 5) := by decide +kernel
theorem d9_37 : decode jdk_56_method_3_code 37 = .ok (.ifCond .eq 7, 3) := by decide +kernel
theorem d9_40 : decode jdk_56_method_3_code 40 = .ok (.invokestatic 26, 3) := by decide +kernel
theorem d9_43 : decode jdk_56_method_3_code 43 = .ok (.areturn, 1) := by decide +kernel
def Q_lc0 (Z : State) (a : Addr) (dc : Addr) (el : Addr) (h0 : Heap) (rv : Option Value) (h : Heap) (L : List Loc) : Prop := rv = some (.ref el) ∧ L = [] ∧ h = h0
set_option maxRecDepth 65536 in
set_option maxHeartbeats 40000000 in
theorem rm_lc0 (l : Launch) (Z : State) (a0 : Array Value) (hw : ∀ d ∈ tables_1, d.before a0 Z = true) (a : Addr) (dc : Addr) (el : Addr) (h0 : Heap) (O0 : Ext Z.heap h0) (Ea : Exa Z h0 a "java/util/ArrayList") (Fe : Fld Z h0 a "java/util/ArrayList" "elementData" "[Ljava/lang/Object;" (.ref dc)) (Fs : Fld Z h0 a "java/util/ArrayList" "size" "I" (.int (0 : Int32))) (SL : Sta Z Z.heap "java/util/ImmutableCollections" "EMPTY_LIST" "Ljava/util/ImmutableCollections$ListN;" (.ref el)) :
    Met1 l Z (⟨"java/util/ImmutableCollections", "listCopy", "(Ljava/util/Collection;)Ljava/util/List;"⟩ : MethodName) jdk_56_method_3_code 2 (some (.object "java/util/List")) ({ frames := 1, cells := 0, slots := 0, locals := 12 } : Room) #[(.ref a)] h0 (Q_lc0 Z a dc el h0) := by
  refine Met1.of_body (Ls := #[.val (.ref a), .unset]) pf_9 (fun m => by first | (simp [entryFrame, mkF, argsToLocals, Value.category]; done) | rfl) ?_
  intro p e s m below meth c T0 C X0 e0
  have N0 : Fr Z.heap.size [] := Fr.nil _
  refine Go.aloadN (pc' := 1) C X0 d9_0 rfl rfl rfl ?_
  refine Go.instNo (pc' := 4) C X0 (tw hw 58 rfl) e0 Ea (NS.noI (tw hw 59 rfl) (tw hw 170 rfl) (NS.step (tw hw 59 rfl) (NS.step (tw hw 60 rfl) (NS.step (tw hw 61 rfl) (NS.rootI (tw hw 62 rfl) (tw hw 170 rfl) (by decide)) (by decide)) (by decide)) (by decide)) (by decide)) d9_1 rfl ?_
  intro T101 X101 e101
  refine Go.ifNo (pc' := 7) C X101 d9_4 ((if0 _ _).trans (teq (x := (0 : Int32)) (y := (0 : Int32)) (by decide)).2) rfl ?_
  refine Go.aloadN (pc' := 8) C X101 d9_7 rfl rfl rfl ?_
  refine Go.instNo (pc' := 11) C X101 (tw hw 63 rfl) e101 Ea (NS.noI (tw hw 59 rfl) (tw hw 241 rfl) (NS.step (tw hw 59 rfl) (NS.step (tw hw 60 rfl) (NS.step (tw hw 61 rfl) (NS.rootI (tw hw 62 rfl) (tw hw 241 rfl) (by decide)) (by decide)) (by decide)) (by decide)) (by decide)) d9_8 rfl ?_
  intro T103 X103 e103
  refine Go.ifYes (pc' := 31) C X103 d9_11 ((if0 _ _).trans (teq (x := (0 : Int32)) (y := (0 : Int32)) (by decide)).1) (by decide) (by decide) ?_
  refine Go.aloadN (pc' := 32) C X103 d9_31 rfl rfl rfl ?_
  refine Go.callF (y := (⟨"java/util/Collection", "isEmpty", "()Z"⟩ : MethodName)) (z := (⟨"java/util/ArrayList", "isEmpty", "()Z"⟩ : MethodName)) (a := a) (pc' := 37) C X103 (tw hw 64 rfl) (tw hw 65 rfl) (tw hw 66 rfl) (tw hw 67 rfl) (tw hw 68 rfl) (tw hw 69 rfl) (tw hw 70 rfl) (tw hw 71 rfl) rfl Ea (by decide) (rm_emp0 l Z a0 hw a h0 O0 Fs) (tw hw 72 rfl) (tw hw 17 rfl) e103 (argsL := []) (rest := []) (W := 0) rfl rfl pd_12 rfl (Nat.le_of_eq rfl) rfl (by decide) (by decide) (by decide) (by decide) d9_32 rfl ?_
  intro T105 v105 L105 X105 q105
  obtain ⟨rfl, rfl, e105⟩ := q105
  have N105 := Fr.app N0 (Fr.nil _)
  refine Go.ifNo (pc' := 40) C X105 d9_37 ((if0 _ _).trans (feq (x := (1 : Int32)) (y := (0 : Int32)) (by decide)).1) rfl ?_
  refine Go.callS (y := (⟨"java/util/List", "of", "()Ljava/util/List;"⟩ : MethodName)) (pc' := 43) C X105 (tw hw 75 rfl) (tw hw 76 rfl) (by decide) (rm_lof0 l Z a0 hw el h0 O0 SL) (tw hw 77 rfl) (tw hw 52 rfl) e105 (argsL := []) (rest := []) (W := 0) rfl rfl pd_13 rfl (Nat.le_of_eq rfl) rfl (by decide) (by decide) (by decide) (by decide) d9_40 rfl ?_
  intro T107 v107 L107 X107 q107
  obtain ⟨rfl, rfl, e107⟩ := q107
  have N107 := Fr.app N105 (Fr.nil _)
  exact Go.retA C X107 rfl d9_43 rfl rfl rfl (by rw [e107]; exact ⟨rfl, (by simp), rfl⟩) (by decide) (by decide)
theorem pd_14 : parseMethodDescriptor "(Ljava/util/Collection;)Ljava/util/List;" = some ⟨[(.object "java/util/Collection")], some (.object "java/util/List")⟩ := by decide +kernel
theorem pf_8 : plainFor (⟨"java/util/List", "copyOf", "(Ljava/util/Collection;)Ljava/util/List;"⟩ : MethodName) = true := plainFor_of_name (by first | (simp [plainName, overriddenIn]; done) | decide +kernel)
theorem d8_0 : decode jdk_40_method_48_code 0 = .ok (.aload_n 0, 1) := by decide +kernel
theorem d8_1 : decode jdk_40_method_48_code 1 = .ok (.invokestatic 112, 3) := by decide +kernel
theorem d8_4 : decode jdk_40_method_48_code 4 = .ok (.areturn, 1) := by decide +kernel
def Q_lco0 (Z : State) (a : Addr) (dc : Addr) (el : Addr) (h0 : Heap) (rv : Option Value) (h : Heap) (L : List Loc) : Prop := rv = some (.ref el) ∧ L = [] ∧ h = h0
set_option maxRecDepth 65536 in
set_option maxHeartbeats 40000000 in
theorem rm_lco0 (l : Launch) (Z : State) (a0 : Array Value) (hw : ∀ d ∈ tables_1, d.before a0 Z = true) (a : Addr) (dc : Addr) (el : Addr) (h0 : Heap) (O0 : Ext Z.heap h0) (Ea : Exa Z h0 a "java/util/ArrayList") (Fe : Fld Z h0 a "java/util/ArrayList" "elementData" "[Ljava/lang/Object;" (.ref dc)) (Fs : Fld Z h0 a "java/util/ArrayList" "size" "I" (.int (0 : Int32))) (SL : Sta Z Z.heap "java/util/ImmutableCollections" "EMPTY_LIST" "Ljava/util/ImmutableCollections$ListN;" (.ref el)) :
    Met1 l Z (⟨"java/util/List", "copyOf", "(Ljava/util/Collection;)Ljava/util/List;"⟩ : MethodName) jdk_40_method_48_code 1 (some (.object "java/util/List")) ({ frames := 2, cells := 0, slots := 0, locals := 25 } : Room) #[(.ref a)] h0 (Q_lco0 Z a dc el h0) := by
  refine Met1.of_body (Ls := #[.val (.ref a)]) pf_8 (fun m => by first | (simp [entryFrame, mkF, argsToLocals, Value.category]; done) | rfl) ?_
  intro p e s m below meth c T0 C X0 e0
  have N0 : Fr Z.heap.size [] := Fr.nil _
  refine Go.aloadN (pc' := 1) C X0 d8_0 rfl rfl rfl ?_
  refine Go.callS (y := (⟨"java/util/ImmutableCollections", "listCopy", "(Ljava/util/Collection;)Ljava/util/List;"⟩ : MethodName)) (pc' := 4) C X0 (tw hw 54 rfl) (tw hw 55 rfl) (by decide) (rm_lc0 l Z a0 hw a dc el h0 O0 Ea Fe Fs SL) (tw hw 57 rfl) (tw hw 56 rfl) e0 (argsL := [(.ref a)]) (rest := []) (W := 0) rfl rfl pd_14 rfl (Nat.le_of_eq rfl) rfl (by decide) (by decide) (by decide) (by decide) d8_1 rfl ?_
  intro T101 v101 L101 X101 q101
  obtain ⟨rfl, rfl, e101⟩ := q101
  have N101 := Fr.app N0 (Fr.nil _)
  exact Go.retA C X101 rfl d8_4 rfl rfl rfl (by rw [e101]; exact ⟨rfl, (by simp), rfl⟩) (by decide) (by decide)
theorem pf_6 : plainFor (⟨"com/example/barrault/barrault/model/PathPattern$Step", "<init>", "(Lcom/example/barrault/barrault/model/PathPattern$Axis;Lcom/example/barrault/barrault/model/PathPattern$Kind;Ljava/lang/String;Ljava/util/List;)V"⟩ : MethodName) = true := plainFor_of_name (by first | (simp [plainName, overriddenIn]; done) | decide +kernel)
theorem d6_0 : decode prog_47_method_1_code 0 = .ok (.aload_n 0, 1) := by decide +kernel
theorem d6_1 : decode prog_47_method_1_code 1 = .ok (.invokespecial 1, 3) := by decide +kernel
theorem d6_4 : decode prog_47_method_1_code 4 = .ok (.aload 4, 2) := by decide +kernel
theorem d6_6 : decode prog_47_method_1_code 6 = .ok (.invokestatic 7, 3) := by decide +kernel
theorem d6_9 : decode prog_47_method_1_code 9 = .ok (.astore 4, 2) := by decide +kernel
theorem d6_11 : decode prog_47_method_1_code 11 = .ok (.aload_n 0, 1) := by decide +kernel
theorem d6_12 : decode prog_47_method_1_code 12 = .ok (.aload_n 1, 1) := by decide +kernel
theorem d6_13 : decode prog_47_method_1_code 13 = .ok (.putfield 13, 3) := by decide +kernel
theorem d6_16 : decode prog_47_method_1_code 16 = .ok (.aload_n 0, 1) := by decide +kernel
theorem d6_17 : decode prog_47_method_1_code 17 = .ok (.aload_n 2, 1) := by decide +kernel
theorem d6_18 : decode prog_47_method_1_code 18 = .ok (.putfield 19, 3) := by decide +kernel
theorem d6_21 : decode prog_47_method_1_code 21 = .ok (.aload_n 0, 1) := by decide +kernel
theorem d6_22 : decode prog_47_method_1_code 22 = .ok (.aload_n 3, 1) := by decide +kernel
theorem d6_23 : decode prog_47_method_1_code 23 = .ok (.putfield 23, 3) := by decide +kernel
theorem d6_26 : decode prog_47_method_1_code 26 = .ok (.aload_n 0, 1) := by decide +kernel
theorem d6_27 : decode prog_47_method_1_code 27 = .ok (.aload 4, 2) := by decide +kernel
theorem d6_29 : decode prog_47_method_1_code 29 = .ok (.putfield 27, 3) := by decide +kernel
theorem d6_32 : decode prog_47_method_1_code 32 = .ok (.return_, 1) := by decide +kernel
def Q_stI (Z : State) (j : Addr) (kv : Addr) (a : Addr) (dc : Addr) (el : Addr) (h0 : Heap) (rv : Option Value) (h : Heap) (L : List Loc) : Prop := rv = none ∧ Fr Z.heap.size L ∧ Keep h0 h [j] ∧ Fld Z h j "com/example/barrault/barrault/model/PathPattern$Step" "kind" "Lcom/example/barrault/barrault/model/PathPattern$Kind;" (.ref kv)
set_option maxRecDepth 65536 in
set_option maxHeartbeats 40000000 in
theorem rm_stI (l : Launch) (Z : State) (a0 : Array Value) (hw : ∀ d ∈ tables_1, d.before a0 Z = true) (j : Addr) (kv : Addr) (a : Addr) (dc : Addr) (el : Addr) (h0 : Heap) (O0 : Ext Z.heap h0) (E0 : Exa Z h0 j "com/example/barrault/barrault/model/PathPattern$Step") (F1 : Fld Z h0 j "com/example/barrault/barrault/model/PathPattern$Step" "axis" "Lcom/example/barrault/barrault/model/PathPattern$Axis;" .null) (F2 : Fld Z h0 j "com/example/barrault/barrault/model/PathPattern$Step" "kind" "Lcom/example/barrault/barrault/model/PathPattern$Kind;" .null) (F3 : Fld Z h0 j "com/example/barrault/barrault/model/PathPattern$Step" "name" "Ljava/lang/String;" .null) (F4 : Fld Z h0 j "com/example/barrault/barrault/model/PathPattern$Step" "predicates" "Ljava/util/List;" .null) (Ea : Exa Z h0 a "java/util/ArrayList") (Fe : Fld Z h0 a "java/util/ArrayList" "elementData" "[Ljava/lang/Object;" (.ref dc)) (Fs : Fld Z h0 a "java/util/ArrayList" "size" "I" (.int (0 : Int32))) (SL : Sta Z Z.heap "java/util/ImmutableCollections" "EMPTY_LIST" "Ljava/util/ImmutableCollections$ListN;" (.ref el)) (hn : Z.heap.size ≤ j) :
    Met1 l Z (⟨"com/example/barrault/barrault/model/PathPattern$Step", "<init>", "(Lcom/example/barrault/barrault/model/PathPattern$Axis;Lcom/example/barrault/barrault/model/PathPattern$Kind;Ljava/lang/String;Ljava/util/List;)V"⟩ : MethodName) prog_47_method_1_code 5 none ({ frames := 3, cells := 0, slots := 0, locals := 37 } : Room) #[(.ref j), .null, (.ref kv), .null, (.ref a)] h0 (Q_stI Z j kv a dc el h0) := by
  refine Met1.of_body (Ls := #[.val (.ref j), .val .null, .val (.ref kv), .val .null, .val (.ref a)]) pf_6 (fun m => by first | (simp [entryFrame, mkF, argsToLocals, Value.category]; done) | rfl) ?_
  intro p e s m below meth c T0 C X0 e0
  have N0 : Fr Z.heap.size [] := Fr.nil _
  refine Go.aloadN (pc' := 1) C X0 d6_0 rfl rfl rfl ?_
  refine Go.callI (y := (⟨"java/lang/Record", "<init>", "()V"⟩ : MethodName)) (a := j) (pc' := 4) C X0 rfl (tw hw 44 rfl) (tw hw 45 rfl) (by decide) (rm_rec l Z a0 hw j h0 O0 ) (tw hw 48 rfl) (tw hw 47 rfl) e0 (argsL := []) (rest := []) (W := 0) rfl rfl pd_0 rfl (Nat.le_of_eq rfl) rfl (by decide) (by decide) (by decide) (by decide) rfl d6_1 rfl ?_
  intro T101 v101 L101 X101 q101
  obtain ⟨rfl, rfl, e101⟩ := q101
  have N101 := Fr.app N0 (Fr.nil _)
  refine Go.aload (pc' := 6) C X101 d6_4 rfl rfl rfl ?_
  refine Go.callS (y := (⟨"java/util/List", "copyOf", "(Ljava/util/Collection;)Ljava/util/List;"⟩ : MethodName)) (pc' := 9) C X101 (tw hw 50 rfl) (tw hw 51 rfl) (by decide) (rm_lco0 l Z a0 hw a dc el h0 O0 Ea Fe Fs SL) (tw hw 53 rfl) (tw hw 52 rfl) e101 (argsL := [(.ref a)]) (rest := []) (W := 0) rfl rfl pd_14 rfl (Nat.le_of_eq rfl) rfl (by decide) (by decide) (by decide) (by decide) d6_6 rfl ?_
  intro T102 v102 L102 X102 q102
  obtain ⟨rfl, rfl, e102⟩ := q102
  have N102 := Fr.app N101 (Fr.nil _)
  refine Go.astore (Ls' := #[.val (.ref j), .val .null, .val (.ref kv), .val .null, .val (.ref el)]) (pc' := 11) C X102 d6_9 rfl rfl rfl ?_
  refine Go.aloadN (pc' := 12) C X102 d6_11 rfl rfl rfl ?_
  refine Go.aloadN (pc' := 13) C X102 d6_12 rfl rfl rfl ?_
  refine Go.putF (pc' := 16) (host := "") (ty := (.object "com/example/barrault/barrault/model/PathPattern$Axis")) C X102 (Or.inl (tw hw 79 rfl)) Via.refl e102 F1 E0 (Or.inr ⟨(tw hw 80 rfl), rfl, rfl⟩) (tw hw 13 rfl) (by decide) rfl rfl d6_13 rfl ?_
  intro T103 h103 X103 e103 W103 F103
  have N103 := Fr.snoc X103 N102 hn
  refine Go.aloadN (pc' := 17) C X103 d6_16 rfl rfl rfl ?_
  refine Go.aloadN (pc' := 18) C X103 d6_17 rfl rfl rfl ?_
  have c105 : Fld Z h103 j "com/example/barrault/barrault/model/PathPattern$Step" "kind" "Lcom/example/barrault/barrault/model/PathPattern$Kind;" .null := (Fld.other W103 F2 (Or.inr (slot_ne (Or.inr (tw hw 82 rfl)) (Or.inr (tw hw 80 rfl)) (by decide) (t := (.object "com/example/barrault/barrault/model/PathPattern$Kind")) (t' := (.object "com/example/barrault/barrault/model/PathPattern$Axis")) (by decide) (by decide))))
  have c106 : Exa Z h103 j "com/example/barrault/barrault/model/PathPattern$Step" := (Exa.wr W103 E0)
  refine Go.putF (pc' := 21) (host := "") (ty := (.object "com/example/barrault/barrault/model/PathPattern$Kind")) C X103 (Or.inl (tw hw 81 rfl)) Via.refl e103 c105 c106 (Or.inr ⟨(tw hw 82 rfl), rfl, rfl⟩) (tw hw 13 rfl) (by decide) rfl rfl d6_18 rfl ?_
  intro T104 h104 X104 e104 W104 F104
  have N104 := Fr.snoc X104 N103 hn
  refine Go.aloadN (pc' := 22) C X104 d6_21 rfl rfl rfl ?_
  refine Go.aloadN (pc' := 23) C X104 d6_22 rfl rfl rfl ?_
  have c108 : Fld Z h104 j "com/example/barrault/barrault/model/PathPattern$Step" "name" "Ljava/lang/String;" .null := (Fld.other W104 (Fld.other W103 F3 (Or.inr (slot_ne (Or.inr (tw hw 84 rfl)) (Or.inr (tw hw 80 rfl)) (by decide) (t := (.object "java/lang/String")) (t' := (.object "com/example/barrault/barrault/model/PathPattern$Axis")) (by decide) (by decide)))) (Or.inr (slot_ne (Or.inr (tw hw 84 rfl)) (Or.inr (tw hw 82 rfl)) (by decide) (t := (.object "java/lang/String")) (t' := (.object "com/example/barrault/barrault/model/PathPattern$Kind")) (by decide) (by decide))))
  have c109 : Exa Z h104 j "com/example/barrault/barrault/model/PathPattern$Step" := (Exa.wr W104 c106)
  refine Go.putF (pc' := 26) (host := "") (ty := (.object "java/lang/String")) C X104 (Or.inl (tw hw 83 rfl)) Via.refl e104 c108 c109 (Or.inr ⟨(tw hw 84 rfl), rfl, rfl⟩) (tw hw 13 rfl) (by decide) rfl rfl d6_23 rfl ?_
  intro T107 h107 X107 e107 W107 F107
  have N107 := Fr.snoc X107 N104 hn
  refine Go.aloadN (pc' := 27) C X107 d6_26 rfl rfl rfl ?_
  refine Go.aload (pc' := 29) C X107 d6_27 rfl rfl rfl ?_
  have c111 : Fld Z h107 j "com/example/barrault/barrault/model/PathPattern$Step" "predicates" "Ljava/util/List;" .null := (Fld.other W107 (Fld.other W104 (Fld.other W103 F4 (Or.inr (slot_ne (Or.inr (tw hw 86 rfl)) (Or.inr (tw hw 80 rfl)) (by decide) (t := (.object "java/util/List")) (t' := (.object "com/example/barrault/barrault/model/PathPattern$Axis")) (by decide) (by decide)))) (Or.inr (slot_ne (Or.inr (tw hw 86 rfl)) (Or.inr (tw hw 82 rfl)) (by decide) (t := (.object "java/util/List")) (t' := (.object "com/example/barrault/barrault/model/PathPattern$Kind")) (by decide) (by decide)))) (Or.inr (slot_ne (Or.inr (tw hw 86 rfl)) (Or.inr (tw hw 84 rfl)) (by decide) (t := (.object "java/util/List")) (t' := (.object "java/lang/String")) (by decide) (by decide))))
  have c112 : Exa Z h107 j "com/example/barrault/barrault/model/PathPattern$Step" := (Exa.wr W107 c109)
  refine Go.putF (pc' := 32) (host := "") (ty := (.object "java/util/List")) C X107 (Or.inl (tw hw 85 rfl)) Via.refl e107 c111 c112 (Or.inr ⟨(tw hw 86 rfl), rfl, rfl⟩) (tw hw 13 rfl) (by decide) rfl rfl d6_29 rfl ?_
  intro T110 h110 X110 e110 W110 F110
  have N110 := Fr.snoc X110 N107 hn
  have K113 : Keep h0 h110 [j] := (((((Keep.refl h0 [j]).wr W103 (Or.inl (by simp))).wr W104 (Or.inl (by simp))).wr W107 (Or.inl (by simp))).wr W110 (Or.inl (by simp)))
  have c114 : Fld Z h110 j "com/example/barrault/barrault/model/PathPattern$Step" "kind" "Lcom/example/barrault/barrault/model/PathPattern$Kind;" (.ref kv) := (Fld.other W110 (Fld.other W107 F104 (Or.inr (slot_ne (Or.inr (tw hw 82 rfl)) (Or.inr (tw hw 84 rfl)) (by decide) (t := (.object "com/example/barrault/barrault/model/PathPattern$Kind")) (t' := (.object "java/lang/String")) (by decide) (by decide)))) (Or.inr (slot_ne (Or.inr (tw hw 82 rfl)) (Or.inr (tw hw 86 rfl)) (by decide) (t := (.object "com/example/barrault/barrault/model/PathPattern$Kind")) (t' := (.object "java/util/List")) (by decide) (by decide))))
  exact Go.retV C X110 rfl d6_32 (by rw [e110]; exact ⟨rfl, N110, K113, c114⟩) (by decide) (by decide)
theorem pf_30 : plainFor (⟨"com/example/barrault/barrault/model/PathPattern$Step", "kind", "()Lcom/example/barrault/barrault/model/PathPattern$Kind;"⟩ : MethodName) = true := plainFor_of_name (by first | (simp [plainName, overriddenIn]; done) | decide +kernel)
theorem d30_0 : decode prog_47_method_6_code 0 = .ok (.aload_n 0, 1) := by decide +kernel
theorem d30_1 : decode prog_47_method_6_code 1 = .ok (.getfield 19, 3) := by decide +kernel
theorem d30_4 : decode prog_47_method_6_code 4 = .ok (.areturn, 1) := by decide +kernel
def Q_skd (Z : State) (d : Addr) (kv : Addr) (h0 : Heap) (rv : Option Value) (h : Heap) (L : List Loc) : Prop := rv = some (.ref kv) ∧ L = [] ∧ h = h0
set_option maxRecDepth 65536 in
set_option maxHeartbeats 40000000 in
theorem rm_skd (l : Launch) (Z : State) (a0 : Array Value) (hw : ∀ d ∈ tables_1, d.before a0 Z = true) (d : Addr) (kv : Addr) (h0 : Heap) (O0 : Ext Z.heap h0) (Fk : Fld Z h0 d "com/example/barrault/barrault/model/PathPattern$Step" "kind" "Lcom/example/barrault/barrault/model/PathPattern$Kind;" (.ref kv)) :
    Met1 l Z (⟨"com/example/barrault/barrault/model/PathPattern$Step", "kind", "()Lcom/example/barrault/barrault/model/PathPattern$Kind;"⟩ : MethodName) prog_47_method_6_code 1 (some (.object "com/example/barrault/barrault/model/PathPattern$Kind")) ({ frames := 0, cells := 0, slots := 0, locals := 0 } : Room) #[(.ref d)] h0 (Q_skd Z d kv h0) := by
  refine Met1.of_body (Ls := #[.val (.ref d)]) pf_30 (fun m => by first | (simp [entryFrame, mkF, argsToLocals, Value.category]; done) | rfl) ?_
  intro p e s m below meth c T0 C X0 e0
  have N0 : Fr Z.heap.size [] := Fr.nil _
  refine Go.aloadN (pc' := 1) C X0 d30_0 rfl rfl rfl ?_
  refine Go.getF (pc' := 4) (host := "") C X0 (Or.inl (tw hw 81 rfl)) Via.refl e0 Fk d30_1 rfl ?_
  intro T101 X101 e101
  exact Go.retA C X101 rfl d30_4 rfl rfl rfl (by rw [e101]; exact ⟨rfl, rfl, rfl⟩) (by decide) (by decide)
theorem d9_44 : decode jdk_56_method_3_code 44 = .ok (.aload_n 0, 1) := by decide +kernel
theorem d9_45 : decode jdk_56_method_3_code 45 = .ok (.invokeinterface 30 1, 5) := by decide +kernel
theorem d9_50 : decode jdk_56_method_3_code 50 = .ok (.invokestatic 34, 3) := by decide +kernel
theorem d9_53 : decode jdk_56_method_3_code 53 = .ok (.areturn, 1) := by decide +kernel
def Q_lc1 (Z : State) (a : Addr) (d1 : Addr) (w : Addr) (kw : ClassId) (mr : Addr) (em : Addr) (h0 : Heap) (rv : Option Value) (h : Heap) (L : List Loc) : Prop := ∃ r : Addr, rv = some (.ref r) ∧ Fr Z.heap.size L ∧ Keep h0 h [] ∧ h0.size ≤ r ∧ Exa Z h r "java/util/ImmutableCollections$List12" ∧ Fld Z h r "java/util/ImmutableCollections$List12" "e0" "Ljava/lang/Object;" (.ref d1) ∧ Fld Z h r "java/util/ImmutableCollections$List12" "e1" "Ljava/lang/Object;" (.ref em)
set_option maxRecDepth 65536 in
set_option maxHeartbeats 40000000 in
theorem rm_lc1 (l : Launch) (Z : State) (a0 : Array Value) (hw : ∀ d ∈ tables_1, d.before a0 Z = true) (a : Addr) (d1 : Addr) (w : Addr) (kw : ClassId) (mr : Addr) (em : Addr) (h0 : Heap) (O0 : Ext Z.heap h0) (Ea : Exa Z h0 a "java/util/ArrayList") (Fe : Fld Z h0 a "java/util/ArrayList" "elementData" "[Ljava/lang/Object;" (.ref w)) (Fs : Fld Z h0 a "java/util/ArrayList" "size" "I" (.int (1 : Int32))) (Ew : Exa Z h0 w "[Ljava/lang/Object;") (Aw : AL Z h0 w kw (.object "java/lang/Object") [(.ref d1), .null, .null, .null, .null, .null, .null, .null, .null, .null]) (Ed0 : Exa Z h0 d1 "com/example/barrault/barrault/model/PathPattern$Step") (SE : Sta Z Z.heap "java/util/ImmutableCollections" "EMPTY" "Ljava/lang/Object;" (.ref em)) (hM : Mir Z "[Ljava/lang/Object;" mr) :
    Met1 l Z (⟨"java/util/ImmutableCollections", "listCopy", "(Ljava/util/Collection;)Ljava/util/List;"⟩ : MethodName) jdk_56_method_3_code 2 (some (.object "java/util/List")) ({ frames := 6, cells := 2, slots := 3, locals := 75 } : Room) #[(.ref a)] h0 (Q_lc1 Z a d1 w kw mr em h0) := by
  refine Met1.of_body (Ls := #[.val (.ref a), .unset]) pf_9 (fun m => by first | (simp [entryFrame, mkF, argsToLocals, Value.category]; done) | rfl) ?_
  intro p e s m below meth c T0 C X0 e0
  have N0 : Fr Z.heap.size [] := Fr.nil _
  refine Go.aloadN (pc' := 1) C X0 d9_0 rfl rfl rfl ?_
  refine Go.instNo (pc' := 4) C X0 (tw hw 58 rfl) e0 Ea (NS.noI (tw hw 59 rfl) (tw hw 170 rfl) (NS.step (tw hw 59 rfl) (NS.step (tw hw 60 rfl) (NS.step (tw hw 61 rfl) (NS.rootI (tw hw 62 rfl) (tw hw 170 rfl) (by decide)) (by decide)) (by decide)) (by decide)) (by decide)) d9_1 rfl ?_
  intro T101 X101 e101
  refine Go.ifNo (pc' := 7) C X101 d9_4 ((if0 _ _).trans (teq (x := (0 : Int32)) (y := (0 : Int32)) (by decide)).2) rfl ?_
  refine Go.aloadN (pc' := 8) C X101 d9_7 rfl rfl rfl ?_
  refine Go.instNo (pc' := 11) C X101 (tw hw 63 rfl) e101 Ea (NS.noI (tw hw 59 rfl) (tw hw 241 rfl) (NS.step (tw hw 59 rfl) (NS.step (tw hw 60 rfl) (NS.step (tw hw 61 rfl) (NS.rootI (tw hw 62 rfl) (tw hw 241 rfl) (by decide)) (by decide)) (by decide)) (by decide)) (by decide)) d9_8 rfl ?_
  intro T103 X103 e103
  refine Go.ifYes (pc' := 31) C X103 d9_11 ((if0 _ _).trans (teq (x := (0 : Int32)) (y := (0 : Int32)) (by decide)).1) (by decide) (by decide) ?_
  refine Go.aloadN (pc' := 32) C X103 d9_31 rfl rfl rfl ?_
  refine Go.callF (y := (⟨"java/util/Collection", "isEmpty", "()Z"⟩ : MethodName)) (z := (⟨"java/util/ArrayList", "isEmpty", "()Z"⟩ : MethodName)) (a := a) (pc' := 37) C X103 (tw hw 64 rfl) (tw hw 65 rfl) (tw hw 66 rfl) (tw hw 67 rfl) (tw hw 68 rfl) (tw hw 69 rfl) (tw hw 70 rfl) (tw hw 71 rfl) rfl Ea (by decide) (rm_emp1 l Z a0 hw a h0 O0 Fs) (tw hw 72 rfl) (tw hw 17 rfl) e103 (argsL := []) (rest := []) (W := 0) rfl rfl pd_12 rfl (Nat.le_of_eq rfl) rfl (by decide) (by decide) (by decide) (by decide) d9_32 rfl ?_
  intro T105 v105 L105 X105 q105
  obtain ⟨rfl, rfl, e105⟩ := q105
  have N105 := Fr.app N0 (Fr.nil _)
  refine Go.ifYes (pc' := 44) C X105 d9_37 ((if0 _ _).trans (teq (x := (0 : Int32)) (y := (0 : Int32)) (by decide)).1) (by decide) (by decide) ?_
  refine Go.aloadN (pc' := 45) C X105 d9_44 rfl rfl rfl ?_
  refine Go.callF (y := (⟨"java/util/Collection", "toArray", "()[Ljava/lang/Object;"⟩ : MethodName)) (z := (⟨"java/util/ArrayList", "toArray", "()[Ljava/lang/Object;"⟩ : MethodName)) (a := a) (pc' := 50) C X105 (tw hw 136 rfl) (tw hw 137 rfl) (tw hw 138 rfl) (tw hw 139 rfl) (tw hw 140 rfl) (tw hw 141 rfl) (tw hw 142 rfl) (tw hw 71 rfl) rfl Ea (by decide) (rm_ta1 l Z a0 hw a d1 w kw mr h0 O0 Fe Fs Ew Aw Ed0 hM) (tw hw 143 rfl) (tw hw 17 rfl) e105 (argsL := []) (rest := []) (W := 0) rfl rfl pd_3 rfl (Nat.le_of_eq rfl) rfl (by decide) (by decide) (by decide) (by decide) d9_45 rfl ?_
  intro T107 v107 L107 X107 q107
  obtain ⟨v_107, kv_107, rfl, N107q, K107, B107_0, P107_0⟩ := q107
  have N107 := Fr.app N105 N107q
  have n_v_107 : Z.heap.size ≤ v_107 := Nat.le_trans O0.1 B107_0
  have z_v_107 : h0.size ≤ v_107 := Nat.le_trans (Nat.le_refl _) B107_0
  have c109 : Exa Z T107.heap d1 "com/example/barrault/barrault/model/PathPattern$Step" := (Exa.keep Ed0 K107)
  have O110 : Ext Z.heap T107.heap := (Ext.keep O0 K107 all0)
  refine Go.callS (y := (⟨"java/util/List", "of", "([Ljava/lang/Object;)Ljava/util/List;"⟩ : MethodName)) (pc' := 53) C X107 (tw hw 166 rfl) (tw hw 167 rfl) (by decide) (rm_lof1 l Z a0 hw d1 v_107 kv_107 em T107.heap O110 P107_0 c109 SE) (tw hw 168 rfl) (tw hw 52 rfl) rfl (argsL := [(.ref v_107)]) (rest := []) (W := 0) rfl rfl pd_11 rfl (Nat.le_of_eq rfl) rfl (by decide) (by decide) (by decide) (by decide) d9_50 rfl ?_
  intro T108 v108 L108 X108 q108
  obtain ⟨r_108, rfl, N108q, K108, B108_0, P108_0, P108_1, P108_2⟩ := q108
  have N108 := Fr.app N107 N108q
  have n_r_108 : Z.heap.size ≤ r_108 := Nat.le_trans O110.1 B108_0
  have z_r_108 : h0.size ≤ r_108 := Nat.le_trans (Nat.le_trans (Nat.le_refl _) K107.1) B108_0
  have K111 : Keep h0 T108.heap [] := (((Keep.refl h0 []).trans K107 all0).trans K108 all0)
  exact Go.retA C X108 rfl d9_53 rfl rfl rfl ⟨r_108, rfl, N108, K111, z_r_108, P108_0, P108_1, P108_2⟩ (by decide) (by decide)
def Q_lco1 (Z : State) (a : Addr) (d1 : Addr) (w : Addr) (kw : ClassId) (mr : Addr) (em : Addr) (h0 : Heap) (rv : Option Value) (h : Heap) (L : List Loc) : Prop := ∃ r : Addr, rv = some (.ref r) ∧ Fr Z.heap.size L ∧ Keep h0 h [] ∧ h0.size ≤ r ∧ Exa Z h r "java/util/ImmutableCollections$List12" ∧ Fld Z h r "java/util/ImmutableCollections$List12" "e0" "Ljava/lang/Object;" (.ref d1) ∧ Fld Z h r "java/util/ImmutableCollections$List12" "e1" "Ljava/lang/Object;" (.ref em)
set_option maxRecDepth 65536 in
set_option maxHeartbeats 40000000 in
theorem rm_lco1 (l : Launch) (Z : State) (a0 : Array Value) (hw : ∀ d ∈ tables_1, d.before a0 Z = true) (a : Addr) (d1 : Addr) (w : Addr) (kw : ClassId) (mr : Addr) (em : Addr) (h0 : Heap) (O0 : Ext Z.heap h0) (Ea : Exa Z h0 a "java/util/ArrayList") (Fe : Fld Z h0 a "java/util/ArrayList" "elementData" "[Ljava/lang/Object;" (.ref w)) (Fs : Fld Z h0 a "java/util/ArrayList" "size" "I" (.int (1 : Int32))) (Ew : Exa Z h0 w "[Ljava/lang/Object;") (Aw : AL Z h0 w kw (.object "java/lang/Object") [(.ref d1), .null, .null, .null, .null, .null, .null, .null, .null, .null]) (Ed0 : Exa Z h0 d1 "com/example/barrault/barrault/model/PathPattern$Step") (SE : Sta Z Z.heap "java/util/ImmutableCollections" "EMPTY" "Ljava/lang/Object;" (.ref em)) (hM : Mir Z "[Ljava/lang/Object;" mr) :
    Met1 l Z (⟨"java/util/List", "copyOf", "(Ljava/util/Collection;)Ljava/util/List;"⟩ : MethodName) jdk_40_method_48_code 1 (some (.object "java/util/List")) ({ frames := 7, cells := 2, slots := 3, locals := 88 } : Room) #[(.ref a)] h0 (Q_lco1 Z a d1 w kw mr em h0) := by
  refine Met1.of_body (Ls := #[.val (.ref a)]) pf_8 (fun m => by first | (simp [entryFrame, mkF, argsToLocals, Value.category]; done) | rfl) ?_
  intro p e s m below meth c T0 C X0 e0
  have N0 : Fr Z.heap.size [] := Fr.nil _
  refine Go.aloadN (pc' := 1) C X0 d8_0 rfl rfl rfl ?_
  refine Go.callS (y := (⟨"java/util/ImmutableCollections", "listCopy", "(Ljava/util/Collection;)Ljava/util/List;"⟩ : MethodName)) (pc' := 4) C X0 (tw hw 54 rfl) (tw hw 55 rfl) (by decide) (rm_lc1 l Z a0 hw a d1 w kw mr em h0 O0 Ea Fe Fs Ew Aw Ed0 SE hM) (tw hw 57 rfl) (tw hw 56 rfl) e0 (argsL := [(.ref a)]) (rest := []) (W := 0) rfl rfl pd_14 rfl (Nat.le_of_eq rfl) rfl (by decide) (by decide) (by decide) (by decide) d8_1 rfl ?_
  intro T101 v101 L101 X101 q101
  obtain ⟨r_101, rfl, N101q, K101, B101_0, P101_0, P101_1, P101_2⟩ := q101
  have N101 := Fr.app N0 N101q
  have n_r_101 : Z.heap.size ≤ r_101 := Nat.le_trans O0.1 B101_0
  have z_r_101 : h0.size ≤ r_101 := Nat.le_trans (Nat.le_refl _) B101_0
  have K102 : Keep h0 T101.heap [] := ((Keep.refl h0 []).trans K101 all0)
  exact Go.retA C X101 rfl d8_4 rfl rfl rfl ⟨r_101, rfl, N101, K102, z_r_101, P101_0, P101_1, P101_2⟩ (by decide) (by decide)
theorem pf_17 : plainFor (⟨"com/example/barrault/barrault/model/PathPattern", "<init>", "(Ljava/lang/String;Ljava/util/List;)V"⟩ : MethodName) = true := plainFor_of_name (by first | (simp [plainName, overriddenIn]; done) | decide +kernel)
theorem d17_0 : decode prog_37_method_1_code 0 = .ok (.aload_n 0, 1) := by decide +kernel
theorem d17_1 : decode prog_37_method_1_code 1 = .ok (.invokespecial 1, 3) := by decide +kernel
theorem d17_4 : decode prog_37_method_1_code 4 = .ok (.aload_n 2, 1) := by decide +kernel
theorem d17_5 : decode prog_37_method_1_code 5 = .ok (.invokestatic 7, 3) := by decide +kernel
theorem d17_8 : decode prog_37_method_1_code 8 = .ok (.astore_n 2, 1) := by decide +kernel
theorem d17_9 : decode prog_37_method_1_code 9 = .ok (.aload_n 0, 1) := by decide +kernel
theorem d17_10 : decode prog_37_method_1_code 10 = .ok (.aload_n 1, 1) := by decide +kernel
theorem d17_11 : decode prog_37_method_1_code 11 = .ok (.putfield 13, 3) := by decide +kernel
theorem d17_14 : decode prog_37_method_1_code 14 = .ok (.aload_n 0, 1) := by decide +kernel
theorem d17_15 : decode prog_37_method_1_code 15 = .ok (.aload_n 2, 1) := by decide +kernel
theorem d17_16 : decode prog_37_method_1_code 16 = .ok (.putfield 19, 3) := by decide +kernel
theorem d17_19 : decode prog_37_method_1_code 19 = .ok (.return_, 1) := by decide +kernel
def Q_jI1 (Z : State) (j : Addr) (sr : Addr) (a : Addr) (d1 : Addr) (w : Addr) (kw : ClassId) (mr : Addr) (em : Addr) (h0 : Heap) (rv : Option Value) (h : Heap) (L : List Loc) : Prop := ∃ r : Addr, rv = none ∧ Fr Z.heap.size L ∧ Keep h0 h [j] ∧ h0.size ≤ r ∧ Fld Z h j "com/example/barrault/barrault/model/PathPattern" "steps" "Ljava/util/List;" (.ref r) ∧ Exa Z h r "java/util/ImmutableCollections$List12" ∧ Fld Z h r "java/util/ImmutableCollections$List12" "e0" "Ljava/lang/Object;" (.ref d1) ∧ Fld Z h r "java/util/ImmutableCollections$List12" "e1" "Ljava/lang/Object;" (.ref em)
set_option maxRecDepth 65536 in
set_option maxHeartbeats 40000000 in
theorem rm_jI1 (l : Launch) (Z : State) (a0 : Array Value) (hw : ∀ d ∈ tables_1, d.before a0 Z = true) (j : Addr) (sr : Addr) (a : Addr) (d1 : Addr) (w : Addr) (kw : ClassId) (mr : Addr) (em : Addr) (h0 : Heap) (O0 : Ext Z.heap h0) (E0 : Exa Z h0 j "com/example/barrault/barrault/model/PathPattern") (F1 : Fld Z h0 j "com/example/barrault/barrault/model/PathPattern" "text" "Ljava/lang/String;" .null) (F2 : Fld Z h0 j "com/example/barrault/barrault/model/PathPattern" "steps" "Ljava/util/List;" .null) (Ea : Exa Z h0 a "java/util/ArrayList") (Fe : Fld Z h0 a "java/util/ArrayList" "elementData" "[Ljava/lang/Object;" (.ref w)) (Fs : Fld Z h0 a "java/util/ArrayList" "size" "I" (.int (1 : Int32))) (Ew : Exa Z h0 w "[Ljava/lang/Object;") (Aw : AL Z h0 w kw (.object "java/lang/Object") [(.ref d1), .null, .null, .null, .null, .null, .null, .null, .null, .null]) (Ed0 : Exa Z h0 d1 "com/example/barrault/barrault/model/PathPattern$Step") (SE : Sta Z Z.heap "java/util/ImmutableCollections" "EMPTY" "Ljava/lang/Object;" (.ref em)) (hM : Mir Z "[Ljava/lang/Object;" mr) (hn : Z.heap.size ≤ j) :
    Met1 l Z (⟨"com/example/barrault/barrault/model/PathPattern", "<init>", "(Ljava/lang/String;Ljava/util/List;)V"⟩ : MethodName) prog_37_method_1_code 3 none ({ frames := 8, cells := 2, slots := 3, locals := 100 } : Room) #[(.ref j), (.ref sr), (.ref a)] h0 (Q_jI1 Z j sr a d1 w kw mr em h0) := by
  refine Met1.of_body (Ls := #[.val (.ref j), .val (.ref sr), .val (.ref a)]) pf_17 (fun m => by first | (simp [entryFrame, mkF, argsToLocals, Value.category]; done) | rfl) ?_
  intro p e s m below meth c T0 C X0 e0
  have N0 : Fr Z.heap.size [] := Fr.nil _
  refine Go.aloadN (pc' := 1) C X0 d17_0 rfl rfl rfl ?_
  refine Go.callI (y := (⟨"java/lang/Record", "<init>", "()V"⟩ : MethodName)) (a := j) (pc' := 4) C X0 rfl (tw hw 134 rfl) (tw hw 45 rfl) (by decide) (rm_rec l Z a0 hw j h0 O0 ) (tw hw 48 rfl) (tw hw 47 rfl) e0 (argsL := []) (rest := []) (W := 0) rfl rfl pd_0 rfl (Nat.le_of_eq rfl) rfl (by decide) (by decide) (by decide) (by decide) rfl d17_1 rfl ?_
  intro T101 v101 L101 X101 q101
  obtain ⟨rfl, rfl, e101⟩ := q101
  have N101 := Fr.app N0 (Fr.nil _)
  refine Go.aloadN (pc' := 5) C X101 d17_4 rfl rfl rfl ?_
  refine Go.callS (y := (⟨"java/util/List", "copyOf", "(Ljava/util/Collection;)Ljava/util/List;"⟩ : MethodName)) (pc' := 8) C X101 (tw hw 135 rfl) (tw hw 51 rfl) (by decide) (rm_lco1 l Z a0 hw a d1 w kw mr em h0 O0 Ea Fe Fs Ew Aw Ed0 SE hM) (tw hw 53 rfl) (tw hw 52 rfl) e101 (argsL := [(.ref a)]) (rest := []) (W := 0) rfl rfl pd_14 rfl (Nat.le_of_eq rfl) rfl (by decide) (by decide) (by decide) (by decide) d17_5 rfl ?_
  intro T102 v102 L102 X102 q102
  obtain ⟨r_102, rfl, N102q, K102, B102_0, P102_0, P102_1, P102_2⟩ := q102
  have N102 := Fr.app N101 N102q
  have n_r_102 : Z.heap.size ≤ r_102 := Nat.le_trans O0.1 B102_0
  have z_r_102 : h0.size ≤ r_102 := Nat.le_trans (Nat.le_refl _) B102_0
  refine Go.astoreN (Ls' := #[.val (.ref j), .val (.ref sr), .val (.ref r_102)]) (pc' := 9) C X102 d17_8 rfl rfl rfl ?_
  refine Go.aloadN (pc' := 10) C X102 d17_9 rfl rfl rfl ?_
  refine Go.aloadN (pc' := 11) C X102 d17_10 rfl rfl rfl ?_
  have c104 : Fld Z T102.heap j "com/example/barrault/barrault/model/PathPattern" "text" "Ljava/lang/String;" .null := (Fld.keep F1 K102 nin0)
  have c105 : Exa Z T102.heap j "com/example/barrault/barrault/model/PathPattern" := (Exa.keep E0 K102)
  refine Go.putF (pc' := 14) (host := "") (ty := (.object "java/lang/String")) C X102 (Or.inl (tw hw 199 rfl)) Via.refl rfl c104 c105 (Or.inr ⟨(tw hw 200 rfl), rfl, rfl⟩) (tw hw 121 rfl) (by decide) rfl rfl d17_11 rfl ?_
  intro T103 h103 X103 e103 W103 F103
  have N103 := Fr.snoc X103 N102 hn
  refine Go.aloadN (pc' := 15) C X103 d17_14 rfl rfl rfl ?_
  refine Go.aloadN (pc' := 16) C X103 d17_15 rfl rfl rfl ?_
  have c107 : Fld Z h103 j "com/example/barrault/barrault/model/PathPattern" "steps" "Ljava/util/List;" .null := (Fld.other W103 (Fld.keep F2 K102 nin0) (Or.inr (slot_ne (Or.inr (tw hw 202 rfl)) (Or.inr (tw hw 200 rfl)) (by decide) (t := (.object "java/util/List")) (t' := (.object "java/lang/String")) (by decide) (by decide))))
  have c108 : Exa Z h103 j "com/example/barrault/barrault/model/PathPattern" := (Exa.wr W103 c105)
  refine Go.putF (pc' := 19) (host := "") (ty := (.object "java/util/List")) C X103 (Or.inl (tw hw 201 rfl)) Via.refl e103 c107 c108 (Or.inr ⟨(tw hw 202 rfl), rfl, rfl⟩) (tw hw 121 rfl) (by decide) rfl rfl d17_16 rfl ?_
  intro T106 h106 X106 e106 W106 F106
  have N106 := Fr.snoc X106 N103 hn
  have K109 : Keep h0 h106 [j] := ((((Keep.refl h0 [j]).trans K102 all0).wr W103 (Or.inl (by simp))).wr W106 (Or.inl (by simp)))
  have c110 : Exa Z h106 r_102 "java/util/ImmutableCollections$List12" := (Exa.wr W106 (Exa.wr W103 P102_0))
  have ne111 : r_102 ≠ j := (Nat.ne_of_gt (Nat.lt_of_lt_of_le E0.lt (Nat.le_trans (Nat.le_refl _) B102_0)))
  have c112 : Fld Z h106 r_102 "java/util/ImmutableCollections$List12" "e0" "Ljava/lang/Object;" (.ref d1) := (Fld.other W106 (Fld.other W103 P102_1 (Or.inl ne111)) (Or.inl ne111))
  have c113 : Fld Z h106 r_102 "java/util/ImmutableCollections$List12" "e1" "Ljava/lang/Object;" (.ref em) := (Fld.other W106 (Fld.other W103 P102_2 (Or.inl ne111)) (Or.inl ne111))
  exact Go.retV C X106 rfl d17_19 (by rw [e106]; exact ⟨r_102, rfl, N106, K109, z_r_102, F106, c110, c112, c113⟩) (by decide) (by decide)
theorem pf_28 : plainFor (⟨"java/util/ImmutableCollections$List12", "size", "()I"⟩ : MethodName) = true := plainFor_of_name (by first | (simp [plainName, overriddenIn]; done) | decide +kernel)
theorem d28_0 : decode jdk_44_method_3_code 0 = .ok (.aload_n 0, 1) := by decide +kernel
theorem d28_1 : decode jdk_44_method_3_code 1 = .ok (.getfield 24, 3) := by decide +kernel
theorem d28_4 : decode jdk_44_method_3_code 4 = .ok (.getstatic 19, 3) := by decide +kernel
theorem d28_7 : decode jdk_44_method_3_code 7 = .ok (.if_acmp .eq 7, 3) := by decide +kernel
theorem d28_14 : decode jdk_44_method_3_code 14 = .ok (.iconst 1, 1) := by decide +kernel
theorem d28_15 : decode jdk_44_method_3_code 15 = .ok (.ireturn, 1) := by decide +kernel
def Q_sz1 (Z : State) (r : Addr) (em : Addr) (d1 : Addr) (h0 : Heap) (rv : Option Value) (h : Heap) (L : List Loc) : Prop := rv = some (.int (1 : Int32)) ∧ L = [] ∧ h = h0
set_option maxRecDepth 65536 in
set_option maxHeartbeats 40000000 in
theorem rm_sz1 (l : Launch) (Z : State) (a0 : Array Value) (hw : ∀ d ∈ tables_1, d.before a0 Z = true) (r : Addr) (em : Addr) (d1 : Addr) (h0 : Heap) (O0 : Ext Z.heap h0) (Er : Exa Z h0 r "java/util/ImmutableCollections$List12") (Fr0 : Fld Z h0 r "java/util/ImmutableCollections$List12" "e0" "Ljava/lang/Object;" (.ref d1)) (Fr_ : Fld Z h0 r "java/util/ImmutableCollections$List12" "e1" "Ljava/lang/Object;" (.ref em)) (SE : Sta Z Z.heap "java/util/ImmutableCollections" "EMPTY" "Ljava/lang/Object;" (.ref em)) :
    Met1 l Z (⟨"java/util/ImmutableCollections$List12", "size", "()I"⟩ : MethodName) jdk_44_method_3_code 1 (some .int) ({ frames := 0, cells := 0, slots := 0, locals := 0 } : Room) #[(.ref r)] h0 (Q_sz1 Z r em d1 h0) := by
  refine Met1.of_body (Ls := #[.val (.ref r)]) pf_28 (fun m => by first | (simp [entryFrame, mkF, argsToLocals, Value.category]; done) | rfl) ?_
  intro p e s m below meth c T0 C X0 e0
  have N0 : Fr Z.heap.size [] := Fr.nil _
  refine Go.aloadN (pc' := 1) C X0 d28_0 rfl rfl rfl ?_
  refine Go.getF (pc' := 4) (host := "") C X0 (Or.inl (tw hw 197 rfl)) Via.refl e0 Fr_ d28_1 rfl ?_
  intro T101 X101 e101
  refine Go.getS (pc' := 7)  C X101 (Or.inr (tw hw 196 rfl)) Via.refl e101 (SE.ext O0) d28_4 rfl ?_
  intro T102 X102 e102
  refine Go.acmpYes (pc' := 14) C X102 d28_7 rfl rfl (XT.aa_eq_t rfl) (by decide) (by decide) ?_
  refine Go.iconst (z := (1 : Int32)) (pc' := 15) C X102 d28_14 rfl rfl ?_
  exact Go.retI C X102 rfl d28_15 (by rw [e102]; exact ⟨rfl, rfl, rfl⟩) (by decide) (by decide)
theorem pf_29 : plainFor (⟨"java/util/ImmutableCollections$List12", "get", "(I)Ljava/lang/Object;"⟩ : MethodName) = true := plainFor_of_name (by first | (simp [plainName, overriddenIn]; done) | decide +kernel)
theorem d29_0 : decode jdk_44_method_5_code 0 = .ok (.iload_n 1, 1) := by decide +kernel
theorem d29_1 : decode jdk_44_method_5_code 1 = .ok (.ifCond .ne 8, 3) := by decide +kernel
theorem d29_4 : decode jdk_44_method_5_code 4 = .ok (.aload_n 0, 1) := by decide +kernel
theorem d29_5 : decode jdk_44_method_5_code 5 = .ok (.getfield 13, 3) := by decide +kernel
theorem d29_8 : decode jdk_44_method_5_code 8 = .ok (.areturn, 1) := by decide +kernel
def Q_ge1 (Z : State) (r : Addr) (em : Addr) (d1 : Addr) (h0 : Heap) (rv : Option Value) (h : Heap) (L : List Loc) : Prop := rv = some (.ref d1) ∧ L = [] ∧ h = h0
set_option maxRecDepth 65536 in
set_option maxHeartbeats 40000000 in
theorem rm_ge1 (l : Launch) (Z : State) (a0 : Array Value) (hw : ∀ d ∈ tables_1, d.before a0 Z = true) (r : Addr) (em : Addr) (d1 : Addr) (h0 : Heap) (O0 : Ext Z.heap h0) (Er : Exa Z h0 r "java/util/ImmutableCollections$List12") (Fr0 : Fld Z h0 r "java/util/ImmutableCollections$List12" "e0" "Ljava/lang/Object;" (.ref d1)) (Fr_ : Fld Z h0 r "java/util/ImmutableCollections$List12" "e1" "Ljava/lang/Object;" (.ref em)) (SE : Sta Z Z.heap "java/util/ImmutableCollections" "EMPTY" "Ljava/lang/Object;" (.ref em)) :
    Met1 l Z (⟨"java/util/ImmutableCollections$List12", "get", "(I)Ljava/lang/Object;"⟩ : MethodName) jdk_44_method_5_code 2 (some (.object "java/lang/Object")) ({ frames := 0, cells := 0, slots := 0, locals := 0 } : Room) #[(.ref r), (.int (0 : Int32))] h0 (Q_ge1 Z r em d1 h0) := by
  refine Met1.of_body (Ls := #[.val (.ref r), .val (.int (0 : Int32))]) pf_29 (fun m => by first | (simp [entryFrame, mkF, argsToLocals, Value.category]; done) | rfl) ?_
  intro p e s m below meth c T0 C X0 e0
  have N0 : Fr Z.heap.size [] := Fr.nil _
  refine Go.iloadN (pc' := 1) C X0 d29_0 rfl rfl ?_
  refine Go.ifNo (pc' := 4) C X0 d29_1 ((if0 _ _).trans (teq (x := (0 : Int32)) (y := (0 : Int32)) (by decide)).2) rfl ?_
  refine Go.aloadN (pc' := 5) C X0 d29_4 rfl rfl rfl ?_
  refine Go.getF (pc' := 8) (host := "") C X0 (Or.inl (tw hw 194 rfl)) Via.refl e0 Fr0 d29_5 rfl ?_
  intro T102 X102 e102
  exact Go.retA C X102 rfl d29_8 rfl rfl rfl (by rw [e102]; exact ⟨rfl, rfl, rfl⟩) (by decide) (by decide)
theorem pd_15 : parseMethodDescriptor "()I" = some ⟨[], some .int⟩ := by decide +kernel
theorem pd_16 : parseMethodDescriptor "(I)Ljava/lang/Object;" = some ⟨[.int], some (.object "java/lang/Object")⟩ := by decide +kernel
theorem pd_17 : parseMethodDescriptor "()Lcom/example/barrault/barrault/model/PathPattern$Kind;" = some ⟨[], some (.object "com/example/barrault/barrault/model/PathPattern$Kind")⟩ := by decide +kernel
theorem pf_27 : plainFor (⟨"com/example/barrault/barrault/model/PathPattern", "selectsElements", "()Z"⟩ : MethodName) = true := plainFor_of_name (by first | (simp [plainName, overriddenIn]; done) | decide +kernel)
theorem d27_0 : decode prog_37_method_4_code 0 = .ok (.aload_n 0, 1) := by decide +kernel
theorem d27_1 : decode prog_37_method_4_code 1 = .ok (.getfield 19, 3) := by decide +kernel
theorem d27_4 : decode prog_37_method_4_code 4 = .ok (.aload_n 0, 1) := by decide +kernel
theorem d27_5 : decode prog_37_method_4_code 5 = .ok (.getfield 19, 3) := by decide +kernel
theorem d27_8 : decode prog_37_method_4_code 8 = .ok (.invokeinterface 35 1, 5) := by decide +kernel
theorem d27_13 : decode prog_37_method_4_code 13 = .ok (.iconst 1, 1) := by decide +kernel
theorem d27_14 : decode prog_37_method_4_code 14 = .ok (.isub, 1) := by decide +kernel
theorem d27_15 : decode prog_37_method_4_code 15 = .ok (.invokeinterface 39 2, 5) := by decide +kernel
theorem d27_20 : decode prog_37_method_4_code 20 = .ok (.checkcast 43, 3) := by decide +kernel
theorem d27_23 : decode prog_37_method_4_code 23 = .ok (.invokevirtual 121, 3) := by decide +kernel
theorem d27_26 : decode prog_37_method_4_code 26 = .ok (.getstatic 125, 3) := by decide +kernel
theorem d27_29 : decode prog_37_method_4_code 29 = .ok (.if_acmp .ne 7, 3) := by decide +kernel
theorem d27_32 : decode prog_37_method_4_code 32 = .ok (.iconst 1, 1) := by decide +kernel
theorem d27_33 : decode prog_37_method_4_code 33 = .ok (.goto 4, 3) := by decide +kernel
theorem d27_36 : decode prog_37_method_4_code 36 = .ok (.iconst 0, 1) := by decide +kernel
theorem d27_37 : decode prog_37_method_4_code 37 = .ok (.ireturn, 1) := by decide +kernel
def Q_se1 (Z : State) (j : Addr) (kv : Addr) (ke : Addr) (r : Addr) (em : Addr) (d1 : Addr) (h0 : Heap) (rv : Option Value) (h : Heap) (L : List Loc) : Prop := rv = some (.int (if kv = ke then (1 : Int32) else 0)) ∧ L = [] ∧ h = h0
set_option maxRecDepth 65536 in
set_option maxHeartbeats 40000000 in
theorem rm_se1 (l : Launch) (Z : State) (a0 : Array Value) (hw : ∀ d ∈ tables_1, d.before a0 Z = true) (j : Addr) (kv : Addr) (ke : Addr) (r : Addr) (em : Addr) (d1 : Addr) (h0 : Heap) (O0 : Ext Z.heap h0) (F2 : Fld Z h0 j "com/example/barrault/barrault/model/PathPattern" "steps" "Ljava/util/List;" (.ref r)) (Er : Exa Z h0 r "java/util/ImmutableCollections$List12") (Fr0 : Fld Z h0 r "java/util/ImmutableCollections$List12" "e0" "Ljava/lang/Object;" (.ref d1)) (Fr_ : Fld Z h0 r "java/util/ImmutableCollections$List12" "e1" "Ljava/lang/Object;" (.ref em)) (SE : Sta Z Z.heap "java/util/ImmutableCollections" "EMPTY" "Ljava/lang/Object;" (.ref em)) (Edl : Exa Z h0 d1 "com/example/barrault/barrault/model/PathPattern$Step") (Fk : Fld Z h0 d1 "com/example/barrault/barrault/model/PathPattern$Step" "kind" "Lcom/example/barrault/barrault/model/PathPattern$Kind;" (.ref kv)) (SK : Sta Z Z.heap "com/example/barrault/barrault/model/PathPattern$Kind" "ELEMENT" "Lcom/example/barrault/barrault/model/PathPattern$Kind;" (.ref ke)) :
    Met1 l Z (⟨"com/example/barrault/barrault/model/PathPattern", "selectsElements", "()Z"⟩ : MethodName) prog_37_method_4_code 1 (some .boolean) ({ frames := 1, cells := 0, slots := 0, locals := 13 } : Room) #[(.ref j)] h0 (Q_se1 Z j kv ke r em d1 h0) := by
  refine Met1.of_body (Ls := #[.val (.ref j)]) pf_27 (fun m => by first | (simp [entryFrame, mkF, argsToLocals, Value.category]; done) | rfl) ?_
  intro p e s m below meth c T0 C X0 e0
  have N0 : Fr Z.heap.size [] := Fr.nil _
  refine Go.aloadN (pc' := 1) C X0 d27_0 rfl rfl rfl ?_
  refine Go.getF (pc' := 4) (host := "") C X0 (Or.inl (tw hw 201 rfl)) Via.refl e0 F2 d27_1 rfl ?_
  intro T101 X101 e101
  refine Go.aloadN (pc' := 5) C X101 d27_4 rfl rfl rfl ?_
  refine Go.getF (pc' := 8) (host := "") C X101 (Or.inl (tw hw 201 rfl)) Via.refl e101 F2 d27_5 rfl ?_
  intro T102 X102 e102
  refine Go.callF (y := (⟨"java/util/List", "size", "()I"⟩ : MethodName)) (z := (⟨"java/util/ImmutableCollections$List12", "size", "()I"⟩ : MethodName)) (a := r) (pc' := 13) C X102 (tw hw 208 rfl) (tw hw 209 rfl) (tw hw 210 rfl) (tw hw 211 rfl) (tw hw 212 rfl) (tw hw 213 rfl) (tw hw 214 rfl) (tw hw 215 rfl) rfl Er (by decide) (rm_sz1 l Z a0 hw r em d1 h0 O0 Er Fr0 Fr_ SE) (tw hw 216 rfl) (tw hw 171 rfl) e102 (argsL := []) (rest := [(.ref r)]) (W := 1) rfl rfl pd_15 rfl (Nat.le_of_eq rfl) rfl (by decide) (by decide) (by decide) (by decide) d27_8 rfl ?_
  intro T103 v103 L103 X103 q103
  obtain ⟨rfl, rfl, e103⟩ := q103
  have N103 := Fr.app N0 (Fr.nil _)
  refine Go.iconst (z := (1 : Int32)) (pc' := 14) C X103 d27_13 rfl rfl ?_
  refine Go.isub (pc' := 15) C X103 d27_14 rfl ?_
  rw [show ((1 : Int32) - (1 : Int32)) = (0 : Int32) from by decide]
  refine Go.callF (y := (⟨"java/util/List", "get", "(I)Ljava/lang/Object;"⟩ : MethodName)) (z := (⟨"java/util/ImmutableCollections$List12", "get", "(I)Ljava/lang/Object;"⟩ : MethodName)) (a := r) (pc' := 20) C X103 (tw hw 217 rfl) (tw hw 218 rfl) (tw hw 219 rfl) (tw hw 220 rfl) (tw hw 221 rfl) (tw hw 222 rfl) (tw hw 223 rfl) (tw hw 215 rfl) rfl Er (by decide) (rm_ge1 l Z a0 hw r em d1 h0 O0 Er Fr0 Fr_ SE) (tw hw 224 rfl) (tw hw 171 rfl) e103 (argsL := [(.int (0 : Int32))]) (rest := []) (W := 0) rfl rfl pd_16 rfl (Nat.le_of_eq rfl) rfl (by decide) (by decide) (by decide) (by decide) d27_15 rfl ?_
  intro T104 v104 L104 X104 q104
  obtain ⟨rfl, rfl, e104⟩ := q104
  have N104 := Fr.app N103 (Fr.nil _)
  refine Go.castY (pc' := 23) C X104 (tw hw 225 rfl) e104 (Ins.self Edl) d27_20 rfl ?_
  intro T105 X105 e105
  by_cases hs106 : kv = ke
  · refine Go.callV (y := (⟨"com/example/barrault/barrault/model/PathPattern$Step", "kind", "()Lcom/example/barrault/barrault/model/PathPattern$Kind;"⟩ : MethodName)) (z := (⟨"com/example/barrault/barrault/model/PathPattern$Step", "kind", "()Lcom/example/barrault/barrault/model/PathPattern$Kind;"⟩ : MethodName)) (a := d1) (pc' := 26) C X105 (tw hw 227 rfl) (tw hw 228 rfl) (notFace_at C.2.1 (tw hw 230 rfl)) (tw hw 230 rfl) (tw hw 229 rfl) Edl (by decide) (rm_skd l Z a0 hw d1 kv h0 O0 Fk) (tw hw 231 rfl) (tw hw 14 rfl) e105 (argsL := []) (rest := []) (W := 0) rfl rfl pd_17 rfl (Nat.le_of_eq rfl) rfl (by decide) (by decide) (by decide) (by decide) d27_23 rfl ?_
    intro T107 v107 L107 X107 q107
    obtain ⟨rfl, rfl, e107⟩ := q107
    have N107 := Fr.app N104 (Fr.nil _)
    refine Go.getS (pc' := 29) (host := "") C X107 (Or.inl (tw hw 232 rfl)) Via.refl e107 (SK.ext O0) d27_26 rfl ?_
    intro T108 X108 e108
    refine Go.acmpNo (pc' := 32) C X108 d27_29 rfl rfl (XT.aa_ne_f (congrArg Value.ref hs106)) rfl ?_
    refine Go.iconst (z := (1 : Int32)) (pc' := 33) C X108 d27_32 rfl rfl ?_
    refine Go.goto (pc' := 37) C X108 d27_33 (by decide) (by decide) ?_
    exact Go.retN C X108 rfl d27_37 (by simp) (by rw [e108]; exact ⟨(by rw [if_pos hs106]; rfl), (by simp), rfl⟩) (by decide) (by decide)
  · refine Go.callV (y := (⟨"com/example/barrault/barrault/model/PathPattern$Step", "kind", "()Lcom/example/barrault/barrault/model/PathPattern$Kind;"⟩ : MethodName)) (z := (⟨"com/example/barrault/barrault/model/PathPattern$Step", "kind", "()Lcom/example/barrault/barrault/model/PathPattern$Kind;"⟩ : MethodName)) (a := d1) (pc' := 26) C X105 (tw hw 227 rfl) (tw hw 228 rfl) (notFace_at C.2.1 (tw hw 230 rfl)) (tw hw 230 rfl) (tw hw 229 rfl) Edl (by decide) (rm_skd l Z a0 hw d1 kv h0 O0 Fk) (tw hw 231 rfl) (tw hw 14 rfl) e105 (argsL := []) (rest := []) (W := 0) rfl rfl pd_17 rfl (Nat.le_of_eq rfl) rfl (by decide) (by decide) (by decide) (by decide) d27_23 rfl ?_
    intro T109 v109 L109 X109 q109
    obtain ⟨rfl, rfl, e109⟩ := q109
    have N109 := Fr.app N104 (Fr.nil _)
    refine Go.getS (pc' := 29) (host := "") C X109 (Or.inl (tw hw 232 rfl)) Via.refl e109 (SK.ext O0) d27_26 rfl ?_
    intro T110 X110 e110
    refine Go.acmpYes (pc' := 36) C X110 d27_29 rfl rfl (XT.aa_ne_t (fun q => hs106 (Value.ref.inj q))) (by decide) (by decide) ?_
    refine Go.iconst (z := (0 : Int32)) (pc' := 37) C X110 d27_36 rfl rfl ?_
    exact Go.retN C X110 rfl d27_37 (by simp) (by rw [e110]; exact ⟨(by rw [if_neg hs106]; rfl), (by simp), rfl⟩) (by decide) (by decide)
def Q_lc2 (Z : State) (a : Addr) (d1 : Addr) (d2 : Addr) (w : Addr) (kw : ClassId) (mr : Addr) (h0 : Heap) (rv : Option Value) (h : Heap) (L : List Loc) : Prop := ∃ r : Addr, rv = some (.ref r) ∧ Fr Z.heap.size L ∧ Keep h0 h [] ∧ h0.size ≤ r ∧ Exa Z h r "java/util/ImmutableCollections$List12" ∧ Fld Z h r "java/util/ImmutableCollections$List12" "e0" "Ljava/lang/Object;" (.ref d1) ∧ Fld Z h r "java/util/ImmutableCollections$List12" "e1" "Ljava/lang/Object;" (.ref d2)
set_option maxRecDepth 65536 in
set_option maxHeartbeats 40000000 in
theorem rm_lc2 (l : Launch) (Z : State) (a0 : Array Value) (hw : ∀ d ∈ tables_1, d.before a0 Z = true) (a : Addr) (d1 : Addr) (d2 : Addr) (w : Addr) (kw : ClassId) (mr : Addr) (h0 : Heap) (O0 : Ext Z.heap h0) (Ea : Exa Z h0 a "java/util/ArrayList") (Fe : Fld Z h0 a "java/util/ArrayList" "elementData" "[Ljava/lang/Object;" (.ref w)) (Fs : Fld Z h0 a "java/util/ArrayList" "size" "I" (.int (2 : Int32))) (Ew : Exa Z h0 w "[Ljava/lang/Object;") (Aw : AL Z h0 w kw (.object "java/lang/Object") [(.ref d1), (.ref d2), .null, .null, .null, .null, .null, .null, .null, .null]) (Ed0 : Exa Z h0 d1 "com/example/barrault/barrault/model/PathPattern$Step") (Ed1 : Exa Z h0 d2 "com/example/barrault/barrault/model/PathPattern$Step") (hM : Mir Z "[Ljava/lang/Object;" mr) :
    Met1 l Z (⟨"java/util/ImmutableCollections", "listCopy", "(Ljava/util/Collection;)Ljava/util/List;"⟩ : MethodName) jdk_56_method_3_code 2 (some (.object "java/util/List")) ({ frames := 6, cells := 2, slots := 4, locals := 76 } : Room) #[(.ref a)] h0 (Q_lc2 Z a d1 d2 w kw mr h0) := by
  refine Met1.of_body (Ls := #[.val (.ref a), .unset]) pf_9 (fun m => by first | (simp [entryFrame, mkF, argsToLocals, Value.category]; done) | rfl) ?_
  intro p e s m below meth c T0 C X0 e0
  have N0 : Fr Z.heap.size [] := Fr.nil _
  refine Go.aloadN (pc' := 1) C X0 d9_0 rfl rfl rfl ?_
  refine Go.instNo (pc' := 4) C X0 (tw hw 58 rfl) e0 Ea (NS.noI (tw hw 59 rfl) (tw hw 170 rfl) (NS.step (tw hw 59 rfl) (NS.step (tw hw 60 rfl) (NS.step (tw hw 61 rfl) (NS.rootI (tw hw 62 rfl) (tw hw 170 rfl) (by decide)) (by decide)) (by decide)) (by decide)) (by decide)) d9_1 rfl ?_
  intro T101 X101 e101
  refine Go.ifNo (pc' := 7) C X101 d9_4 ((if0 _ _).trans (teq (x := (0 : Int32)) (y := (0 : Int32)) (by decide)).2) rfl ?_
  refine Go.aloadN (pc' := 8) C X101 d9_7 rfl rfl rfl ?_
  refine Go.instNo (pc' := 11) C X101 (tw hw 63 rfl) e101 Ea (NS.noI (tw hw 59 rfl) (tw hw 241 rfl) (NS.step (tw hw 59 rfl) (NS.step (tw hw 60 rfl) (NS.step (tw hw 61 rfl) (NS.rootI (tw hw 62 rfl) (tw hw 241 rfl) (by decide)) (by decide)) (by decide)) (by decide)) (by decide)) d9_8 rfl ?_
  intro T103 X103 e103
  refine Go.ifYes (pc' := 31) C X103 d9_11 ((if0 _ _).trans (teq (x := (0 : Int32)) (y := (0 : Int32)) (by decide)).1) (by decide) (by decide) ?_
  refine Go.aloadN (pc' := 32) C X103 d9_31 rfl rfl rfl ?_
  refine Go.callF (y := (⟨"java/util/Collection", "isEmpty", "()Z"⟩ : MethodName)) (z := (⟨"java/util/ArrayList", "isEmpty", "()Z"⟩ : MethodName)) (a := a) (pc' := 37) C X103 (tw hw 64 rfl) (tw hw 65 rfl) (tw hw 66 rfl) (tw hw 67 rfl) (tw hw 68 rfl) (tw hw 69 rfl) (tw hw 70 rfl) (tw hw 71 rfl) rfl Ea (by decide) (rm_emp2 l Z a0 hw a h0 O0 Fs) (tw hw 72 rfl) (tw hw 17 rfl) e103 (argsL := []) (rest := []) (W := 0) rfl rfl pd_12 rfl (Nat.le_of_eq rfl) rfl (by decide) (by decide) (by decide) (by decide) d9_32 rfl ?_
  intro T105 v105 L105 X105 q105
  obtain ⟨rfl, rfl, e105⟩ := q105
  have N105 := Fr.app N0 (Fr.nil _)
  refine Go.ifYes (pc' := 44) C X105 d9_37 ((if0 _ _).trans (teq (x := (0 : Int32)) (y := (0 : Int32)) (by decide)).1) (by decide) (by decide) ?_
  refine Go.aloadN (pc' := 45) C X105 d9_44 rfl rfl rfl ?_
  refine Go.callF (y := (⟨"java/util/Collection", "toArray", "()[Ljava/lang/Object;"⟩ : MethodName)) (z := (⟨"java/util/ArrayList", "toArray", "()[Ljava/lang/Object;"⟩ : MethodName)) (a := a) (pc' := 50) C X105 (tw hw 136 rfl) (tw hw 137 rfl) (tw hw 138 rfl) (tw hw 139 rfl) (tw hw 140 rfl) (tw hw 141 rfl) (tw hw 142 rfl) (tw hw 71 rfl) rfl Ea (by decide) (rm_ta2 l Z a0 hw a d1 d2 w kw mr h0 O0 Fe Fs Ew Aw Ed0 Ed1 hM) (tw hw 143 rfl) (tw hw 17 rfl) e105 (argsL := []) (rest := []) (W := 0) rfl rfl pd_3 rfl (Nat.le_of_eq rfl) rfl (by decide) (by decide) (by decide) (by decide) d9_45 rfl ?_
  intro T107 v107 L107 X107 q107
  obtain ⟨v_107, kv_107, rfl, N107q, K107, B107_0, P107_0⟩ := q107
  have N107 := Fr.app N105 N107q
  have n_v_107 : Z.heap.size ≤ v_107 := Nat.le_trans O0.1 B107_0
  have z_v_107 : h0.size ≤ v_107 := Nat.le_trans (Nat.le_refl _) B107_0
  have c109 : Exa Z T107.heap d1 "com/example/barrault/barrault/model/PathPattern$Step" := (Exa.keep Ed0 K107)
  have c110 : Exa Z T107.heap d2 "com/example/barrault/barrault/model/PathPattern$Step" := (Exa.keep Ed1 K107)
  have O111 : Ext Z.heap T107.heap := (Ext.keep O0 K107 all0)
  refine Go.callS (y := (⟨"java/util/List", "of", "([Ljava/lang/Object;)Ljava/util/List;"⟩ : MethodName)) (pc' := 53) C X107 (tw hw 166 rfl) (tw hw 167 rfl) (by decide) (rm_lof2 l Z a0 hw d1 d2 v_107 kv_107 T107.heap O111 P107_0 c109 c110) (tw hw 168 rfl) (tw hw 52 rfl) rfl (argsL := [(.ref v_107)]) (rest := []) (W := 0) rfl rfl pd_11 rfl (Nat.le_of_eq rfl) rfl (by decide) (by decide) (by decide) (by decide) d9_50 rfl ?_
  intro T108 v108 L108 X108 q108
  obtain ⟨r_108, rfl, N108q, K108, B108_0, P108_0, P108_1, P108_2⟩ := q108
  have N108 := Fr.app N107 N108q
  have n_r_108 : Z.heap.size ≤ r_108 := Nat.le_trans O111.1 B108_0
  have z_r_108 : h0.size ≤ r_108 := Nat.le_trans (Nat.le_trans (Nat.le_refl _) K107.1) B108_0
  have K112 : Keep h0 T108.heap [] := (((Keep.refl h0 []).trans K107 all0).trans K108 all0)
  exact Go.retA C X108 rfl d9_53 rfl rfl rfl ⟨r_108, rfl, N108, K112, z_r_108, P108_0, P108_1, P108_2⟩ (by decide) (by decide)
def Q_lco2 (Z : State) (a : Addr) (d1 : Addr) (d2 : Addr) (w : Addr) (kw : ClassId) (mr : Addr) (h0 : Heap) (rv : Option Value) (h : Heap) (L : List Loc) : Prop := ∃ r : Addr, rv = some (.ref r) ∧ Fr Z.heap.size L ∧ Keep h0 h [] ∧ h0.size ≤ r ∧ Exa Z h r "java/util/ImmutableCollections$List12" ∧ Fld Z h r "java/util/ImmutableCollections$List12" "e0" "Ljava/lang/Object;" (.ref d1) ∧ Fld Z h r "java/util/ImmutableCollections$List12" "e1" "Ljava/lang/Object;" (.ref d2)
set_option maxRecDepth 65536 in
set_option maxHeartbeats 40000000 in
theorem rm_lco2 (l : Launch) (Z : State) (a0 : Array Value) (hw : ∀ d ∈ tables_1, d.before a0 Z = true) (a : Addr) (d1 : Addr) (d2 : Addr) (w : Addr) (kw : ClassId) (mr : Addr) (h0 : Heap) (O0 : Ext Z.heap h0) (Ea : Exa Z h0 a "java/util/ArrayList") (Fe : Fld Z h0 a "java/util/ArrayList" "elementData" "[Ljava/lang/Object;" (.ref w)) (Fs : Fld Z h0 a "java/util/ArrayList" "size" "I" (.int (2 : Int32))) (Ew : Exa Z h0 w "[Ljava/lang/Object;") (Aw : AL Z h0 w kw (.object "java/lang/Object") [(.ref d1), (.ref d2), .null, .null, .null, .null, .null, .null, .null, .null]) (Ed0 : Exa Z h0 d1 "com/example/barrault/barrault/model/PathPattern$Step") (Ed1 : Exa Z h0 d2 "com/example/barrault/barrault/model/PathPattern$Step") (hM : Mir Z "[Ljava/lang/Object;" mr) :
    Met1 l Z (⟨"java/util/List", "copyOf", "(Ljava/util/Collection;)Ljava/util/List;"⟩ : MethodName) jdk_40_method_48_code 1 (some (.object "java/util/List")) ({ frames := 7, cells := 2, slots := 4, locals := 89 } : Room) #[(.ref a)] h0 (Q_lco2 Z a d1 d2 w kw mr h0) := by
  refine Met1.of_body (Ls := #[.val (.ref a)]) pf_8 (fun m => by first | (simp [entryFrame, mkF, argsToLocals, Value.category]; done) | rfl) ?_
  intro p e s m below meth c T0 C X0 e0
  have N0 : Fr Z.heap.size [] := Fr.nil _
  refine Go.aloadN (pc' := 1) C X0 d8_0 rfl rfl rfl ?_
  refine Go.callS (y := (⟨"java/util/ImmutableCollections", "listCopy", "(Ljava/util/Collection;)Ljava/util/List;"⟩ : MethodName)) (pc' := 4) C X0 (tw hw 54 rfl) (tw hw 55 rfl) (by decide) (rm_lc2 l Z a0 hw a d1 d2 w kw mr h0 O0 Ea Fe Fs Ew Aw Ed0 Ed1 hM) (tw hw 57 rfl) (tw hw 56 rfl) e0 (argsL := [(.ref a)]) (rest := []) (W := 0) rfl rfl pd_14 rfl (Nat.le_of_eq rfl) rfl (by decide) (by decide) (by decide) (by decide) d8_1 rfl ?_
  intro T101 v101 L101 X101 q101
  obtain ⟨r_101, rfl, N101q, K101, B101_0, P101_0, P101_1, P101_2⟩ := q101
  have N101 := Fr.app N0 N101q
  have n_r_101 : Z.heap.size ≤ r_101 := Nat.le_trans O0.1 B101_0
  have z_r_101 : h0.size ≤ r_101 := Nat.le_trans (Nat.le_refl _) B101_0
  have K102 : Keep h0 T101.heap [] := ((Keep.refl h0 []).trans K101 all0)
  exact Go.retA C X101 rfl d8_4 rfl rfl rfl ⟨r_101, rfl, N101, K102, z_r_101, P101_0, P101_1, P101_2⟩ (by decide) (by decide)
def Q_jI2 (Z : State) (j : Addr) (sr : Addr) (a : Addr) (d1 : Addr) (d2 : Addr) (w : Addr) (kw : ClassId) (mr : Addr) (h0 : Heap) (rv : Option Value) (h : Heap) (L : List Loc) : Prop := ∃ r : Addr, rv = none ∧ Fr Z.heap.size L ∧ Keep h0 h [j] ∧ h0.size ≤ r ∧ Fld Z h j "com/example/barrault/barrault/model/PathPattern" "steps" "Ljava/util/List;" (.ref r) ∧ Exa Z h r "java/util/ImmutableCollections$List12" ∧ Fld Z h r "java/util/ImmutableCollections$List12" "e0" "Ljava/lang/Object;" (.ref d1) ∧ Fld Z h r "java/util/ImmutableCollections$List12" "e1" "Ljava/lang/Object;" (.ref d2)
set_option maxRecDepth 65536 in
set_option maxHeartbeats 40000000 in
theorem rm_jI2 (l : Launch) (Z : State) (a0 : Array Value) (hw : ∀ d ∈ tables_1, d.before a0 Z = true) (j : Addr) (sr : Addr) (a : Addr) (d1 : Addr) (d2 : Addr) (w : Addr) (kw : ClassId) (mr : Addr) (h0 : Heap) (O0 : Ext Z.heap h0) (E0 : Exa Z h0 j "com/example/barrault/barrault/model/PathPattern") (F1 : Fld Z h0 j "com/example/barrault/barrault/model/PathPattern" "text" "Ljava/lang/String;" .null) (F2 : Fld Z h0 j "com/example/barrault/barrault/model/PathPattern" "steps" "Ljava/util/List;" .null) (Ea : Exa Z h0 a "java/util/ArrayList") (Fe : Fld Z h0 a "java/util/ArrayList" "elementData" "[Ljava/lang/Object;" (.ref w)) (Fs : Fld Z h0 a "java/util/ArrayList" "size" "I" (.int (2 : Int32))) (Ew : Exa Z h0 w "[Ljava/lang/Object;") (Aw : AL Z h0 w kw (.object "java/lang/Object") [(.ref d1), (.ref d2), .null, .null, .null, .null, .null, .null, .null, .null]) (Ed0 : Exa Z h0 d1 "com/example/barrault/barrault/model/PathPattern$Step") (Ed1 : Exa Z h0 d2 "com/example/barrault/barrault/model/PathPattern$Step") (hM : Mir Z "[Ljava/lang/Object;" mr) (hn : Z.heap.size ≤ j) :
    Met1 l Z (⟨"com/example/barrault/barrault/model/PathPattern", "<init>", "(Ljava/lang/String;Ljava/util/List;)V"⟩ : MethodName) prog_37_method_1_code 3 none ({ frames := 8, cells := 2, slots := 4, locals := 101 } : Room) #[(.ref j), (.ref sr), (.ref a)] h0 (Q_jI2 Z j sr a d1 d2 w kw mr h0) := by
  refine Met1.of_body (Ls := #[.val (.ref j), .val (.ref sr), .val (.ref a)]) pf_17 (fun m => by first | (simp [entryFrame, mkF, argsToLocals, Value.category]; done) | rfl) ?_
  intro p e s m below meth c T0 C X0 e0
  have N0 : Fr Z.heap.size [] := Fr.nil _
  refine Go.aloadN (pc' := 1) C X0 d17_0 rfl rfl rfl ?_
  refine Go.callI (y := (⟨"java/lang/Record", "<init>", "()V"⟩ : MethodName)) (a := j) (pc' := 4) C X0 rfl (tw hw 134 rfl) (tw hw 45 rfl) (by decide) (rm_rec l Z a0 hw j h0 O0 ) (tw hw 48 rfl) (tw hw 47 rfl) e0 (argsL := []) (rest := []) (W := 0) rfl rfl pd_0 rfl (Nat.le_of_eq rfl) rfl (by decide) (by decide) (by decide) (by decide) rfl d17_1 rfl ?_
  intro T101 v101 L101 X101 q101
  obtain ⟨rfl, rfl, e101⟩ := q101
  have N101 := Fr.app N0 (Fr.nil _)
  refine Go.aloadN (pc' := 5) C X101 d17_4 rfl rfl rfl ?_
  refine Go.callS (y := (⟨"java/util/List", "copyOf", "(Ljava/util/Collection;)Ljava/util/List;"⟩ : MethodName)) (pc' := 8) C X101 (tw hw 135 rfl) (tw hw 51 rfl) (by decide) (rm_lco2 l Z a0 hw a d1 d2 w kw mr h0 O0 Ea Fe Fs Ew Aw Ed0 Ed1 hM) (tw hw 53 rfl) (tw hw 52 rfl) e101 (argsL := [(.ref a)]) (rest := []) (W := 0) rfl rfl pd_14 rfl (Nat.le_of_eq rfl) rfl (by decide) (by decide) (by decide) (by decide) d17_5 rfl ?_
  intro T102 v102 L102 X102 q102
  obtain ⟨r_102, rfl, N102q, K102, B102_0, P102_0, P102_1, P102_2⟩ := q102
  have N102 := Fr.app N101 N102q
  have n_r_102 : Z.heap.size ≤ r_102 := Nat.le_trans O0.1 B102_0
  have z_r_102 : h0.size ≤ r_102 := Nat.le_trans (Nat.le_refl _) B102_0
  refine Go.astoreN (Ls' := #[.val (.ref j), .val (.ref sr), .val (.ref r_102)]) (pc' := 9) C X102 d17_8 rfl rfl rfl ?_
  refine Go.aloadN (pc' := 10) C X102 d17_9 rfl rfl rfl ?_
  refine Go.aloadN (pc' := 11) C X102 d17_10 rfl rfl rfl ?_
  have c104 : Fld Z T102.heap j "com/example/barrault/barrault/model/PathPattern" "text" "Ljava/lang/String;" .null := (Fld.keep F1 K102 nin0)
  have c105 : Exa Z T102.heap j "com/example/barrault/barrault/model/PathPattern" := (Exa.keep E0 K102)
  refine Go.putF (pc' := 14) (host := "") (ty := (.object "java/lang/String")) C X102 (Or.inl (tw hw 199 rfl)) Via.refl rfl c104 c105 (Or.inr ⟨(tw hw 200 rfl), rfl, rfl⟩) (tw hw 121 rfl) (by decide) rfl rfl d17_11 rfl ?_
  intro T103 h103 X103 e103 W103 F103
  have N103 := Fr.snoc X103 N102 hn
  refine Go.aloadN (pc' := 15) C X103 d17_14 rfl rfl rfl ?_
  refine Go.aloadN (pc' := 16) C X103 d17_15 rfl rfl rfl ?_
  have c107 : Fld Z h103 j "com/example/barrault/barrault/model/PathPattern" "steps" "Ljava/util/List;" .null := (Fld.other W103 (Fld.keep F2 K102 nin0) (Or.inr (slot_ne (Or.inr (tw hw 202 rfl)) (Or.inr (tw hw 200 rfl)) (by decide) (t := (.object "java/util/List")) (t' := (.object "java/lang/String")) (by decide) (by decide))))
  have c108 : Exa Z h103 j "com/example/barrault/barrault/model/PathPattern" := (Exa.wr W103 c105)
  refine Go.putF (pc' := 19) (host := "") (ty := (.object "java/util/List")) C X103 (Or.inl (tw hw 201 rfl)) Via.refl e103 c107 c108 (Or.inr ⟨(tw hw 202 rfl), rfl, rfl⟩) (tw hw 121 rfl) (by decide) rfl rfl d17_16 rfl ?_
  intro T106 h106 X106 e106 W106 F106
  have N106 := Fr.snoc X106 N103 hn
  have K109 : Keep h0 h106 [j] := ((((Keep.refl h0 [j]).trans K102 all0).wr W103 (Or.inl (by simp))).wr W106 (Or.inl (by simp)))
  have c110 : Exa Z h106 r_102 "java/util/ImmutableCollections$List12" := (Exa.wr W106 (Exa.wr W103 P102_0))
  have ne111 : r_102 ≠ j := (Nat.ne_of_gt (Nat.lt_of_lt_of_le E0.lt (Nat.le_trans (Nat.le_refl _) B102_0)))
  have c112 : Fld Z h106 r_102 "java/util/ImmutableCollections$List12" "e0" "Ljava/lang/Object;" (.ref d1) := (Fld.other W106 (Fld.other W103 P102_1 (Or.inl ne111)) (Or.inl ne111))
  have c113 : Fld Z h106 r_102 "java/util/ImmutableCollections$List12" "e1" "Ljava/lang/Object;" (.ref d2) := (Fld.other W106 (Fld.other W103 P102_2 (Or.inl ne111)) (Or.inl ne111))
  exact Go.retV C X106 rfl d17_19 (by rw [e106]; exact ⟨r_102, rfl, N106, K109, z_r_102, F106, c110, c112, c113⟩) (by decide) (by decide)
theorem d28_10 : decode jdk_44_method_3_code 10 = .ok (.iconst 2, 1) := by decide +kernel
theorem d28_11 : decode jdk_44_method_3_code 11 = .ok (.goto 4, 3) := by decide +kernel
def Q_sz2 (Z : State) (r : Addr) (em : Addr) (d1 : Addr) (d2 : Addr) (h0 : Heap) (rv : Option Value) (h : Heap) (L : List Loc) : Prop := rv = some (.int (2 : Int32)) ∧ L = [] ∧ h = h0
set_option maxRecDepth 65536 in
set_option maxHeartbeats 40000000 in
theorem rm_sz2 (l : Launch) (Z : State) (a0 : Array Value) (hw : ∀ d ∈ tables_1, d.before a0 Z = true) (r : Addr) (em : Addr) (d1 : Addr) (d2 : Addr) (h0 : Heap) (O0 : Ext Z.heap h0) (Er : Exa Z h0 r "java/util/ImmutableCollections$List12") (Fr0 : Fld Z h0 r "java/util/ImmutableCollections$List12" "e0" "Ljava/lang/Object;" (.ref d1)) (Fr_ : Fld Z h0 r "java/util/ImmutableCollections$List12" "e1" "Ljava/lang/Object;" (.ref d2)) (SE : Sta Z Z.heap "java/util/ImmutableCollections" "EMPTY" "Ljava/lang/Object;" (.ref em)) (Ed2 : Exa Z h0 d2 "com/example/barrault/barrault/model/PathPattern$Step") (Ee : Exa Z Z.heap em "java/lang/Object") :
    Met1 l Z (⟨"java/util/ImmutableCollections$List12", "size", "()I"⟩ : MethodName) jdk_44_method_3_code 1 (some .int) ({ frames := 0, cells := 0, slots := 0, locals := 0 } : Room) #[(.ref r)] h0 (Q_sz2 Z r em d1 d2 h0) := by
  refine Met1.of_body (Ls := #[.val (.ref r)]) pf_28 (fun m => by first | (simp [entryFrame, mkF, argsToLocals, Value.category]; done) | rfl) ?_
  intro p e s m below meth c T0 C X0 e0
  have N0 : Fr Z.heap.size [] := Fr.nil _
  refine Go.aloadN (pc' := 1) C X0 d28_0 rfl rfl rfl ?_
  refine Go.getF (pc' := 4) (host := "") C X0 (Or.inl (tw hw 197 rfl)) Via.refl e0 Fr_ d28_1 rfl ?_
  intro T101 X101 e101
  refine Go.getS (pc' := 7)  C X101 (Or.inr (tw hw 196 rfl)) Via.refl e101 (SE.ext O0) d28_4 rfl ?_
  intro T102 X102 e102
  have ne103 : d2 ≠ em := ne_exa Ed2 (Exa.ext O0 Ee) (by decide)
  refine Go.acmpNo (pc' := 10) C X102 d28_7 rfl rfl (XT.aa_eq_f (fun q => ne103 (Value.ref.inj q))) rfl ?_
  refine Go.iconst (z := (2 : Int32)) (pc' := 11) C X102 d28_10 rfl rfl ?_
  refine Go.goto (pc' := 15) C X102 d28_11 (by decide) (by decide) ?_
  exact Go.retI C X102 rfl d28_15 (by rw [e102]; exact ⟨rfl, rfl, rfl⟩) (by decide) (by decide)
theorem d29_9 : decode jdk_44_method_5_code 9 = .ok (.iload_n 1, 1) := by decide +kernel
theorem d29_10 : decode jdk_44_method_5_code 10 = .ok (.iconst 1, 1) := by decide +kernel
theorem d29_11 : decode jdk_44_method_5_code 11 = .ok (.if_icmp .ne 18, 3) := by decide +kernel
theorem d29_14 : decode jdk_44_method_5_code 14 = .ok (.aload_n 0, 1) := by decide +kernel
theorem d29_15 : decode jdk_44_method_5_code 15 = .ok (.getfield 24, 3) := by decide +kernel
theorem d29_18 : decode jdk_44_method_5_code 18 = .ok (.getstatic 19, 3) := by decide +kernel
theorem d29_21 : decode jdk_44_method_5_code 21 = .ok (.if_acmp .eq 8, 3) := by decide +kernel
theorem d29_24 : decode jdk_44_method_5_code 24 = .ok (.aload_n 0, 1) := by decide +kernel
theorem d29_25 : decode jdk_44_method_5_code 25 = .ok (.getfield 24, 3) := by decide +kernel
theorem d29_28 : decode jdk_44_method_5_code 28 = .ok (.areturn, 1) := by decide +kernel
def Q_ge2 (Z : State) (r : Addr) (em : Addr) (d1 : Addr) (d2 : Addr) (h0 : Heap) (rv : Option Value) (h : Heap) (L : List Loc) : Prop := rv = some (.ref d2) ∧ L = [] ∧ h = h0
set_option maxRecDepth 65536 in
set_option maxHeartbeats 40000000 in
theorem rm_ge2 (l : Launch) (Z : State) (a0 : Array Value) (hw : ∀ d ∈ tables_1, d.before a0 Z = true) (r : Addr) (em : Addr) (d1 : Addr) (d2 : Addr) (h0 : Heap) (O0 : Ext Z.heap h0) (Er : Exa Z h0 r "java/util/ImmutableCollections$List12") (Fr0 : Fld Z h0 r "java/util/ImmutableCollections$List12" "e0" "Ljava/lang/Object;" (.ref d1)) (Fr_ : Fld Z h0 r "java/util/ImmutableCollections$List12" "e1" "Ljava/lang/Object;" (.ref d2)) (SE : Sta Z Z.heap "java/util/ImmutableCollections" "EMPTY" "Ljava/lang/Object;" (.ref em)) (Ed2 : Exa Z h0 d2 "com/example/barrault/barrault/model/PathPattern$Step") (Ee : Exa Z Z.heap em "java/lang/Object") :
    Met1 l Z (⟨"java/util/ImmutableCollections$List12", "get", "(I)Ljava/lang/Object;"⟩ : MethodName) jdk_44_method_5_code 2 (some (.object "java/lang/Object")) ({ frames := 0, cells := 0, slots := 0, locals := 0 } : Room) #[(.ref r), (.int (1 : Int32))] h0 (Q_ge2 Z r em d1 d2 h0) := by
  refine Met1.of_body (Ls := #[.val (.ref r), .val (.int (1 : Int32))]) pf_29 (fun m => by first | (simp [entryFrame, mkF, argsToLocals, Value.category]; done) | rfl) ?_
  intro p e s m below meth c T0 C X0 e0
  have N0 : Fr Z.heap.size [] := Fr.nil _
  refine Go.iloadN (pc' := 1) C X0 d29_0 rfl rfl ?_
  refine Go.ifYes (pc' := 9) C X0 d29_1 ((if0 _ _).trans (feq (x := (1 : Int32)) (y := (0 : Int32)) (by decide)).2) (by decide) (by decide) ?_
  refine Go.iloadN (pc' := 10) C X0 d29_9 rfl rfl ?_
  refine Go.iconst (z := (1 : Int32)) (pc' := 11) C X0 d29_10 rfl rfl ?_
  refine Go.icmpNo (pc' := 14) C X0 d29_11 (teq (x := (1 : Int32)) (y := (1 : Int32)) (by decide)).2 rfl ?_
  refine Go.aloadN (pc' := 15) C X0 d29_14 rfl rfl rfl ?_
  refine Go.getF (pc' := 18) (host := "") C X0 (Or.inl (tw hw 197 rfl)) Via.refl e0 Fr_ d29_15 rfl ?_
  intro T103 X103 e103
  refine Go.getS (pc' := 21)  C X103 (Or.inr (tw hw 196 rfl)) Via.refl e103 (SE.ext O0) d29_18 rfl ?_
  intro T104 X104 e104
  have ne105 : d2 ≠ em := ne_exa Ed2 (Exa.ext O0 Ee) (by decide)
  refine Go.acmpNo (pc' := 24) C X104 d29_21 rfl rfl (XT.aa_eq_f (fun q => ne105 (Value.ref.inj q))) rfl ?_
  refine Go.aloadN (pc' := 25) C X104 d29_24 rfl rfl rfl ?_
  refine Go.getF (pc' := 28) (host := "") C X104 (Or.inl (tw hw 197 rfl)) Via.refl e104 Fr_ d29_25 rfl ?_
  intro T106 X106 e106
  exact Go.retA C X106 rfl d29_28 rfl rfl rfl (by rw [e106]; exact ⟨rfl, rfl, rfl⟩) (by decide) (by decide)
def Q_se2 (Z : State) (j : Addr) (kv : Addr) (ke : Addr) (r : Addr) (em : Addr) (d1 : Addr) (d2 : Addr) (h0 : Heap) (rv : Option Value) (h : Heap) (L : List Loc) : Prop := rv = some (.int (if kv = ke then (1 : Int32) else 0)) ∧ L = [] ∧ h = h0
set_option maxRecDepth 65536 in
set_option maxHeartbeats 40000000 in
theorem rm_se2 (l : Launch) (Z : State) (a0 : Array Value) (hw : ∀ d ∈ tables_1, d.before a0 Z = true) (j : Addr) (kv : Addr) (ke : Addr) (r : Addr) (em : Addr) (d1 : Addr) (d2 : Addr) (h0 : Heap) (O0 : Ext Z.heap h0) (F2 : Fld Z h0 j "com/example/barrault/barrault/model/PathPattern" "steps" "Ljava/util/List;" (.ref r)) (Er : Exa Z h0 r "java/util/ImmutableCollections$List12") (Fr0 : Fld Z h0 r "java/util/ImmutableCollections$List12" "e0" "Ljava/lang/Object;" (.ref d1)) (Fr_ : Fld Z h0 r "java/util/ImmutableCollections$List12" "e1" "Ljava/lang/Object;" (.ref d2)) (SE : Sta Z Z.heap "java/util/ImmutableCollections" "EMPTY" "Ljava/lang/Object;" (.ref em)) (Ed2 : Exa Z h0 d2 "com/example/barrault/barrault/model/PathPattern$Step") (Ee : Exa Z Z.heap em "java/lang/Object") (Fk : Fld Z h0 d2 "com/example/barrault/barrault/model/PathPattern$Step" "kind" "Lcom/example/barrault/barrault/model/PathPattern$Kind;" (.ref kv)) (SK : Sta Z Z.heap "com/example/barrault/barrault/model/PathPattern$Kind" "ELEMENT" "Lcom/example/barrault/barrault/model/PathPattern$Kind;" (.ref ke)) :
    Met1 l Z (⟨"com/example/barrault/barrault/model/PathPattern", "selectsElements", "()Z"⟩ : MethodName) prog_37_method_4_code 1 (some .boolean) ({ frames := 1, cells := 0, slots := 0, locals := 13 } : Room) #[(.ref j)] h0 (Q_se2 Z j kv ke r em d1 d2 h0) := by
  refine Met1.of_body (Ls := #[.val (.ref j)]) pf_27 (fun m => by first | (simp [entryFrame, mkF, argsToLocals, Value.category]; done) | rfl) ?_
  intro p e s m below meth c T0 C X0 e0
  have N0 : Fr Z.heap.size [] := Fr.nil _
  refine Go.aloadN (pc' := 1) C X0 d27_0 rfl rfl rfl ?_
  refine Go.getF (pc' := 4) (host := "") C X0 (Or.inl (tw hw 201 rfl)) Via.refl e0 F2 d27_1 rfl ?_
  intro T101 X101 e101
  refine Go.aloadN (pc' := 5) C X101 d27_4 rfl rfl rfl ?_
  refine Go.getF (pc' := 8) (host := "") C X101 (Or.inl (tw hw 201 rfl)) Via.refl e101 F2 d27_5 rfl ?_
  intro T102 X102 e102
  refine Go.callF (y := (⟨"java/util/List", "size", "()I"⟩ : MethodName)) (z := (⟨"java/util/ImmutableCollections$List12", "size", "()I"⟩ : MethodName)) (a := r) (pc' := 13) C X102 (tw hw 208 rfl) (tw hw 209 rfl) (tw hw 210 rfl) (tw hw 211 rfl) (tw hw 212 rfl) (tw hw 213 rfl) (tw hw 214 rfl) (tw hw 215 rfl) rfl Er (by decide) (rm_sz2 l Z a0 hw r em d1 d2 h0 O0 Er Fr0 Fr_ SE Ed2 Ee) (tw hw 216 rfl) (tw hw 171 rfl) e102 (argsL := []) (rest := [(.ref r)]) (W := 1) rfl rfl pd_15 rfl (Nat.le_of_eq rfl) rfl (by decide) (by decide) (by decide) (by decide) d27_8 rfl ?_
  intro T103 v103 L103 X103 q103
  obtain ⟨rfl, rfl, e103⟩ := q103
  have N103 := Fr.app N0 (Fr.nil _)
  refine Go.iconst (z := (1 : Int32)) (pc' := 14) C X103 d27_13 rfl rfl ?_
  refine Go.isub (pc' := 15) C X103 d27_14 rfl ?_
  rw [show ((2 : Int32) - (1 : Int32)) = (1 : Int32) from by decide]
  refine Go.callF (y := (⟨"java/util/List", "get", "(I)Ljava/lang/Object;"⟩ : MethodName)) (z := (⟨"java/util/ImmutableCollections$List12", "get", "(I)Ljava/lang/Object;"⟩ : MethodName)) (a := r) (pc' := 20) C X103 (tw hw 217 rfl) (tw hw 218 rfl) (tw hw 219 rfl) (tw hw 220 rfl) (tw hw 221 rfl) (tw hw 222 rfl) (tw hw 223 rfl) (tw hw 215 rfl) rfl Er (by decide) (rm_ge2 l Z a0 hw r em d1 d2 h0 O0 Er Fr0 Fr_ SE Ed2 Ee) (tw hw 224 rfl) (tw hw 171 rfl) e103 (argsL := [(.int (1 : Int32))]) (rest := []) (W := 0) rfl rfl pd_16 rfl (Nat.le_of_eq rfl) rfl (by decide) (by decide) (by decide) (by decide) d27_15 rfl ?_
  intro T104 v104 L104 X104 q104
  obtain ⟨rfl, rfl, e104⟩ := q104
  have N104 := Fr.app N103 (Fr.nil _)
  refine Go.castY (pc' := 23) C X104 (tw hw 225 rfl) e104 (Ins.self Ed2) d27_20 rfl ?_
  intro T105 X105 e105
  by_cases hs106 : kv = ke
  · refine Go.callV (y := (⟨"com/example/barrault/barrault/model/PathPattern$Step", "kind", "()Lcom/example/barrault/barrault/model/PathPattern$Kind;"⟩ : MethodName)) (z := (⟨"com/example/barrault/barrault/model/PathPattern$Step", "kind", "()Lcom/example/barrault/barrault/model/PathPattern$Kind;"⟩ : MethodName)) (a := d2) (pc' := 26) C X105 (tw hw 227 rfl) (tw hw 228 rfl) (notFace_at C.2.1 (tw hw 230 rfl)) (tw hw 230 rfl) (tw hw 229 rfl) Ed2 (by decide) (rm_skd l Z a0 hw d2 kv h0 O0 Fk) (tw hw 231 rfl) (tw hw 14 rfl) e105 (argsL := []) (rest := []) (W := 0) rfl rfl pd_17 rfl (Nat.le_of_eq rfl) rfl (by decide) (by decide) (by decide) (by decide) d27_23 rfl ?_
    intro T107 v107 L107 X107 q107
    obtain ⟨rfl, rfl, e107⟩ := q107
    have N107 := Fr.app N104 (Fr.nil _)
    refine Go.getS (pc' := 29) (host := "") C X107 (Or.inl (tw hw 232 rfl)) Via.refl e107 (SK.ext O0) d27_26 rfl ?_
    intro T108 X108 e108
    refine Go.acmpNo (pc' := 32) C X108 d27_29 rfl rfl (XT.aa_ne_f (congrArg Value.ref hs106)) rfl ?_
    refine Go.iconst (z := (1 : Int32)) (pc' := 33) C X108 d27_32 rfl rfl ?_
    refine Go.goto (pc' := 37) C X108 d27_33 (by decide) (by decide) ?_
    exact Go.retN C X108 rfl d27_37 (by simp) (by rw [e108]; exact ⟨(by rw [if_pos hs106]; rfl), (by simp), rfl⟩) (by decide) (by decide)
  · refine Go.callV (y := (⟨"com/example/barrault/barrault/model/PathPattern$Step", "kind", "()Lcom/example/barrault/barrault/model/PathPattern$Kind;"⟩ : MethodName)) (z := (⟨"com/example/barrault/barrault/model/PathPattern$Step", "kind", "()Lcom/example/barrault/barrault/model/PathPattern$Kind;"⟩ : MethodName)) (a := d2) (pc' := 26) C X105 (tw hw 227 rfl) (tw hw 228 rfl) (notFace_at C.2.1 (tw hw 230 rfl)) (tw hw 230 rfl) (tw hw 229 rfl) Ed2 (by decide) (rm_skd l Z a0 hw d2 kv h0 O0 Fk) (tw hw 231 rfl) (tw hw 14 rfl) e105 (argsL := []) (rest := []) (W := 0) rfl rfl pd_17 rfl (Nat.le_of_eq rfl) rfl (by decide) (by decide) (by decide) (by decide) d27_23 rfl ?_
    intro T109 v109 L109 X109 q109
    obtain ⟨rfl, rfl, e109⟩ := q109
    have N109 := Fr.app N104 (Fr.nil _)
    refine Go.getS (pc' := 29) (host := "") C X109 (Or.inl (tw hw 232 rfl)) Via.refl e109 (SK.ext O0) d27_26 rfl ?_
    intro T110 X110 e110
    refine Go.acmpYes (pc' := 36) C X110 d27_29 rfl rfl (XT.aa_ne_t (fun q => hs106 (Value.ref.inj q))) (by decide) (by decide) ?_
    refine Go.iconst (z := (0 : Int32)) (pc' := 37) C X110 d27_36 rfl rfl ?_
    exact Go.retN C X110 rfl d27_37 (by simp) (by rw [e110]; exact ⟨(by rw [if_neg hs106]; rfl), (by simp), rfl⟩) (by decide) (by decide)
def Q_lc3 (Z : State) (a : Addr) (d1 : Addr) (d2 : Addr) (d3 : Addr) (w : Addr) (kw : ClassId) (mr : Addr) (h0 : Heap) (rv : Option Value) (h : Heap) (L : List Loc) : Prop := ∃ r : Addr, ∃ q : Addr, ∃ kq : ClassId, rv = some (.ref r) ∧ Fr Z.heap.size L ∧ Keep h0 h [] ∧ h0.size ≤ r ∧ h0.size ≤ q ∧ Exa Z h r "java/util/ImmutableCollections$ListN" ∧ Fld Z h r "java/util/ImmutableCollections$ListN" "elements" "[Ljava/lang/Object;" (.ref q) ∧ AL Z h q kq (.object "java/lang/Object") [(.ref d1), (.ref d2), (.ref d3)]
set_option maxRecDepth 65536 in
set_option maxHeartbeats 40000000 in
theorem rm_lc3 (l : Launch) (Z : State) (a0 : Array Value) (hw : ∀ d ∈ tables_1, d.before a0 Z = true) (a : Addr) (d1 : Addr) (d2 : Addr) (d3 : Addr) (w : Addr) (kw : ClassId) (mr : Addr) (h0 : Heap) (O0 : Ext Z.heap h0) (Ea : Exa Z h0 a "java/util/ArrayList") (Fe : Fld Z h0 a "java/util/ArrayList" "elementData" "[Ljava/lang/Object;" (.ref w)) (Fs : Fld Z h0 a "java/util/ArrayList" "size" "I" (.int (3 : Int32))) (Ew : Exa Z h0 w "[Ljava/lang/Object;") (Aw : AL Z h0 w kw (.object "java/lang/Object") [(.ref d1), (.ref d2), (.ref d3), .null, .null, .null, .null, .null, .null, .null]) (Ed0 : Exa Z h0 d1 "com/example/barrault/barrault/model/PathPattern$Step") (Ed1 : Exa Z h0 d2 "com/example/barrault/barrault/model/PathPattern$Step") (Ed2 : Exa Z h0 d3 "com/example/barrault/barrault/model/PathPattern$Step") (hM : Mir Z "[Ljava/lang/Object;" mr) :
    Met1 l Z (⟨"java/util/ImmutableCollections", "listCopy", "(Ljava/util/Collection;)Ljava/util/List;"⟩ : MethodName) jdk_56_method_3_code 2 (some (.object "java/util/List")) ({ frames := 7, cells := 3, slots := 8, locals := 90 } : Room) #[(.ref a)] h0 (Q_lc3 Z a d1 d2 d3 w kw mr h0) := by
  refine Met1.of_body (Ls := #[.val (.ref a), .unset]) pf_9 (fun m => by first | (simp [entryFrame, mkF, argsToLocals, Value.category]; done) | rfl) ?_
  intro p e s m below meth c T0 C X0 e0
  have N0 : Fr Z.heap.size [] := Fr.nil _
  refine Go.aloadN (pc' := 1) C X0 d9_0 rfl rfl rfl ?_
  refine Go.instNo (pc' := 4) C X0 (tw hw 58 rfl) e0 Ea (NS.noI (tw hw 59 rfl) (tw hw 170 rfl) (NS.step (tw hw 59 rfl) (NS.step (tw hw 60 rfl) (NS.step (tw hw 61 rfl) (NS.rootI (tw hw 62 rfl) (tw hw 170 rfl) (by decide)) (by decide)) (by decide)) (by decide)) (by decide)) d9_1 rfl ?_
  intro T101 X101 e101
  refine Go.ifNo (pc' := 7) C X101 d9_4 ((if0 _ _).trans (teq (x := (0 : Int32)) (y := (0 : Int32)) (by decide)).2) rfl ?_
  refine Go.aloadN (pc' := 8) C X101 d9_7 rfl rfl rfl ?_
  refine Go.instNo (pc' := 11) C X101 (tw hw 63 rfl) e101 Ea (NS.noI (tw hw 59 rfl) (tw hw 241 rfl) (NS.step (tw hw 59 rfl) (NS.step (tw hw 60 rfl) (NS.step (tw hw 61 rfl) (NS.rootI (tw hw 62 rfl) (tw hw 241 rfl) (by decide)) (by decide)) (by decide)) (by decide)) (by decide)) d9_8 rfl ?_
  intro T103 X103 e103
  refine Go.ifYes (pc' := 31) C X103 d9_11 ((if0 _ _).trans (teq (x := (0 : Int32)) (y := (0 : Int32)) (by decide)).1) (by decide) (by decide) ?_
  refine Go.aloadN (pc' := 32) C X103 d9_31 rfl rfl rfl ?_
  refine Go.callF (y := (⟨"java/util/Collection", "isEmpty", "()Z"⟩ : MethodName)) (z := (⟨"java/util/ArrayList", "isEmpty", "()Z"⟩ : MethodName)) (a := a) (pc' := 37) C X103 (tw hw 64 rfl) (tw hw 65 rfl) (tw hw 66 rfl) (tw hw 67 rfl) (tw hw 68 rfl) (tw hw 69 rfl) (tw hw 70 rfl) (tw hw 71 rfl) rfl Ea (by decide) (rm_emp3 l Z a0 hw a h0 O0 Fs) (tw hw 72 rfl) (tw hw 17 rfl) e103 (argsL := []) (rest := []) (W := 0) rfl rfl pd_12 rfl (Nat.le_of_eq rfl) rfl (by decide) (by decide) (by decide) (by decide) d9_32 rfl ?_
  intro T105 v105 L105 X105 q105
  obtain ⟨rfl, rfl, e105⟩ := q105
  have N105 := Fr.app N0 (Fr.nil _)
  refine Go.ifYes (pc' := 44) C X105 d9_37 ((if0 _ _).trans (teq (x := (0 : Int32)) (y := (0 : Int32)) (by decide)).1) (by decide) (by decide) ?_
  refine Go.aloadN (pc' := 45) C X105 d9_44 rfl rfl rfl ?_
  refine Go.callF (y := (⟨"java/util/Collection", "toArray", "()[Ljava/lang/Object;"⟩ : MethodName)) (z := (⟨"java/util/ArrayList", "toArray", "()[Ljava/lang/Object;"⟩ : MethodName)) (a := a) (pc' := 50) C X105 (tw hw 136 rfl) (tw hw 137 rfl) (tw hw 138 rfl) (tw hw 139 rfl) (tw hw 140 rfl) (tw hw 141 rfl) (tw hw 142 rfl) (tw hw 71 rfl) rfl Ea (by decide) (rm_ta3 l Z a0 hw a d1 d2 d3 w kw mr h0 O0 Fe Fs Ew Aw Ed0 Ed1 Ed2 hM) (tw hw 143 rfl) (tw hw 17 rfl) e105 (argsL := []) (rest := []) (W := 0) rfl rfl pd_3 rfl (Nat.le_of_eq rfl) rfl (by decide) (by decide) (by decide) (by decide) d9_45 rfl ?_
  intro T107 v107 L107 X107 q107
  obtain ⟨v_107, kv_107, rfl, N107q, K107, B107_0, P107_0⟩ := q107
  have N107 := Fr.app N105 N107q
  have n_v_107 : Z.heap.size ≤ v_107 := Nat.le_trans O0.1 B107_0
  have z_v_107 : h0.size ≤ v_107 := Nat.le_trans (Nat.le_refl _) B107_0
  have c109 : Exa Z T107.heap d1 "com/example/barrault/barrault/model/PathPattern$Step" := (Exa.keep Ed0 K107)
  have c110 : Exa Z T107.heap d2 "com/example/barrault/barrault/model/PathPattern$Step" := (Exa.keep Ed1 K107)
  have c111 : Exa Z T107.heap d3 "com/example/barrault/barrault/model/PathPattern$Step" := (Exa.keep Ed2 K107)
  have O112 : Ext Z.heap T107.heap := (Ext.keep O0 K107 all0)
  refine Go.callS (y := (⟨"java/util/List", "of", "([Ljava/lang/Object;)Ljava/util/List;"⟩ : MethodName)) (pc' := 53) C X107 (tw hw 166 rfl) (tw hw 167 rfl) (by decide) (rm_lof3 l Z a0 hw d1 d2 d3 v_107 kv_107 T107.heap O112 P107_0 c109 c110 c111) (tw hw 168 rfl) (tw hw 52 rfl) rfl (argsL := [(.ref v_107)]) (rest := []) (W := 0) rfl rfl pd_11 rfl (Nat.le_of_eq rfl) rfl (by decide) (by decide) (by decide) (by decide) d9_50 rfl ?_
  intro T108 v108 L108 X108 q108
  obtain ⟨r_108, q_108, kq_108, rfl, N108q, K108, B108_0, B108_1, P108_0, P108_1, P108_2⟩ := q108
  have N108 := Fr.app N107 N108q
  have n_r_108 : Z.heap.size ≤ r_108 := Nat.le_trans O112.1 B108_0
  have z_r_108 : h0.size ≤ r_108 := Nat.le_trans (Nat.le_trans (Nat.le_refl _) K107.1) B108_0
  have n_q_108 : Z.heap.size ≤ q_108 := Nat.le_trans O112.1 B108_1
  have z_q_108 : h0.size ≤ q_108 := Nat.le_trans (Nat.le_trans (Nat.le_refl _) K107.1) B108_1
  have K113 : Keep h0 T108.heap [] := (((Keep.refl h0 []).trans K107 all0).trans K108 all0)
  exact Go.retA C X108 rfl d9_53 rfl rfl rfl ⟨r_108, q_108, kq_108, rfl, N108, K113, z_r_108, z_q_108, P108_0, P108_1, P108_2⟩ (by decide) (by decide)
def Q_lco3 (Z : State) (a : Addr) (d1 : Addr) (d2 : Addr) (d3 : Addr) (w : Addr) (kw : ClassId) (mr : Addr) (h0 : Heap) (rv : Option Value) (h : Heap) (L : List Loc) : Prop := ∃ r : Addr, ∃ q : Addr, ∃ kq : ClassId, rv = some (.ref r) ∧ Fr Z.heap.size L ∧ Keep h0 h [] ∧ h0.size ≤ r ∧ h0.size ≤ q ∧ Exa Z h r "java/util/ImmutableCollections$ListN" ∧ Fld Z h r "java/util/ImmutableCollections$ListN" "elements" "[Ljava/lang/Object;" (.ref q) ∧ AL Z h q kq (.object "java/lang/Object") [(.ref d1), (.ref d2), (.ref d3)]
set_option maxRecDepth 65536 in
set_option maxHeartbeats 40000000 in
theorem rm_lco3 (l : Launch) (Z : State) (a0 : Array Value) (hw : ∀ d ∈ tables_1, d.before a0 Z = true) (a : Addr) (d1 : Addr) (d2 : Addr) (d3 : Addr) (w : Addr) (kw : ClassId) (mr : Addr) (h0 : Heap) (O0 : Ext Z.heap h0) (Ea : Exa Z h0 a "java/util/ArrayList") (Fe : Fld Z h0 a "java/util/ArrayList" "elementData" "[Ljava/lang/Object;" (.ref w)) (Fs : Fld Z h0 a "java/util/ArrayList" "size" "I" (.int (3 : Int32))) (Ew : Exa Z h0 w "[Ljava/lang/Object;") (Aw : AL Z h0 w kw (.object "java/lang/Object") [(.ref d1), (.ref d2), (.ref d3), .null, .null, .null, .null, .null, .null, .null]) (Ed0 : Exa Z h0 d1 "com/example/barrault/barrault/model/PathPattern$Step") (Ed1 : Exa Z h0 d2 "com/example/barrault/barrault/model/PathPattern$Step") (Ed2 : Exa Z h0 d3 "com/example/barrault/barrault/model/PathPattern$Step") (hM : Mir Z "[Ljava/lang/Object;" mr) :
    Met1 l Z (⟨"java/util/List", "copyOf", "(Ljava/util/Collection;)Ljava/util/List;"⟩ : MethodName) jdk_40_method_48_code 1 (some (.object "java/util/List")) ({ frames := 8, cells := 3, slots := 8, locals := 103 } : Room) #[(.ref a)] h0 (Q_lco3 Z a d1 d2 d3 w kw mr h0) := by
  refine Met1.of_body (Ls := #[.val (.ref a)]) pf_8 (fun m => by first | (simp [entryFrame, mkF, argsToLocals, Value.category]; done) | rfl) ?_
  intro p e s m below meth c T0 C X0 e0
  have N0 : Fr Z.heap.size [] := Fr.nil _
  refine Go.aloadN (pc' := 1) C X0 d8_0 rfl rfl rfl ?_
  refine Go.callS (y := (⟨"java/util/ImmutableCollections", "listCopy", "(Ljava/util/Collection;)Ljava/util/List;"⟩ : MethodName)) (pc' := 4) C X0 (tw hw 54 rfl) (tw hw 55 rfl) (by decide) (rm_lc3 l Z a0 hw a d1 d2 d3 w kw mr h0 O0 Ea Fe Fs Ew Aw Ed0 Ed1 Ed2 hM) (tw hw 57 rfl) (tw hw 56 rfl) e0 (argsL := [(.ref a)]) (rest := []) (W := 0) rfl rfl pd_14 rfl (Nat.le_of_eq rfl) rfl (by decide) (by decide) (by decide) (by decide) d8_1 rfl ?_
  intro T101 v101 L101 X101 q101
  obtain ⟨r_101, q_101, kq_101, rfl, N101q, K101, B101_0, B101_1, P101_0, P101_1, P101_2⟩ := q101
  have N101 := Fr.app N0 N101q
  have n_r_101 : Z.heap.size ≤ r_101 := Nat.le_trans O0.1 B101_0
  have z_r_101 : h0.size ≤ r_101 := Nat.le_trans (Nat.le_refl _) B101_0
  have n_q_101 : Z.heap.size ≤ q_101 := Nat.le_trans O0.1 B101_1
  have z_q_101 : h0.size ≤ q_101 := Nat.le_trans (Nat.le_refl _) B101_1
  have K102 : Keep h0 T101.heap [] := ((Keep.refl h0 []).trans K101 all0)
  exact Go.retA C X101 rfl d8_4 rfl rfl rfl ⟨r_101, q_101, kq_101, rfl, N101, K102, z_r_101, z_q_101, P101_0, P101_1, P101_2⟩ (by decide) (by decide)
def Q_jI3 (Z : State) (j : Addr) (sr : Addr) (a : Addr) (d1 : Addr) (d2 : Addr) (d3 : Addr) (w : Addr) (kw : ClassId) (mr : Addr) (h0 : Heap) (rv : Option Value) (h : Heap) (L : List Loc) : Prop := ∃ r : Addr, ∃ q : Addr, ∃ kq : ClassId, rv = none ∧ Fr Z.heap.size L ∧ Keep h0 h [j] ∧ h0.size ≤ r ∧ h0.size ≤ q ∧ Fld Z h j "com/example/barrault/barrault/model/PathPattern" "steps" "Ljava/util/List;" (.ref r) ∧ Exa Z h r "java/util/ImmutableCollections$ListN" ∧ Fld Z h r "java/util/ImmutableCollections$ListN" "elements" "[Ljava/lang/Object;" (.ref q) ∧ AL Z h q kq (.object "java/lang/Object") [(.ref d1), (.ref d2), (.ref d3)]
set_option maxRecDepth 65536 in
set_option maxHeartbeats 40000000 in
theorem rm_jI3 (l : Launch) (Z : State) (a0 : Array Value) (hw : ∀ d ∈ tables_1, d.before a0 Z = true) (j : Addr) (sr : Addr) (a : Addr) (d1 : Addr) (d2 : Addr) (d3 : Addr) (w : Addr) (kw : ClassId) (mr : Addr) (h0 : Heap) (O0 : Ext Z.heap h0) (E0 : Exa Z h0 j "com/example/barrault/barrault/model/PathPattern") (F1 : Fld Z h0 j "com/example/barrault/barrault/model/PathPattern" "text" "Ljava/lang/String;" .null) (F2 : Fld Z h0 j "com/example/barrault/barrault/model/PathPattern" "steps" "Ljava/util/List;" .null) (Ea : Exa Z h0 a "java/util/ArrayList") (Fe : Fld Z h0 a "java/util/ArrayList" "elementData" "[Ljava/lang/Object;" (.ref w)) (Fs : Fld Z h0 a "java/util/ArrayList" "size" "I" (.int (3 : Int32))) (Ew : Exa Z h0 w "[Ljava/lang/Object;") (Aw : AL Z h0 w kw (.object "java/lang/Object") [(.ref d1), (.ref d2), (.ref d3), .null, .null, .null, .null, .null, .null, .null]) (Ed0 : Exa Z h0 d1 "com/example/barrault/barrault/model/PathPattern$Step") (Ed1 : Exa Z h0 d2 "com/example/barrault/barrault/model/PathPattern$Step") (Ed2 : Exa Z h0 d3 "com/example/barrault/barrault/model/PathPattern$Step") (hM : Mir Z "[Ljava/lang/Object;" mr) (hn : Z.heap.size ≤ j) :
    Met1 l Z (⟨"com/example/barrault/barrault/model/PathPattern", "<init>", "(Ljava/lang/String;Ljava/util/List;)V"⟩ : MethodName) prog_37_method_1_code 3 none ({ frames := 9, cells := 3, slots := 8, locals := 115 } : Room) #[(.ref j), (.ref sr), (.ref a)] h0 (Q_jI3 Z j sr a d1 d2 d3 w kw mr h0) := by
  refine Met1.of_body (Ls := #[.val (.ref j), .val (.ref sr), .val (.ref a)]) pf_17 (fun m => by first | (simp [entryFrame, mkF, argsToLocals, Value.category]; done) | rfl) ?_
  intro p e s m below meth c T0 C X0 e0
  have N0 : Fr Z.heap.size [] := Fr.nil _
  refine Go.aloadN (pc' := 1) C X0 d17_0 rfl rfl rfl ?_
  refine Go.callI (y := (⟨"java/lang/Record", "<init>", "()V"⟩ : MethodName)) (a := j) (pc' := 4) C X0 rfl (tw hw 134 rfl) (tw hw 45 rfl) (by decide) (rm_rec l Z a0 hw j h0 O0 ) (tw hw 48 rfl) (tw hw 47 rfl) e0 (argsL := []) (rest := []) (W := 0) rfl rfl pd_0 rfl (Nat.le_of_eq rfl) rfl (by decide) (by decide) (by decide) (by decide) rfl d17_1 rfl ?_
  intro T101 v101 L101 X101 q101
  obtain ⟨rfl, rfl, e101⟩ := q101
  have N101 := Fr.app N0 (Fr.nil _)
  refine Go.aloadN (pc' := 5) C X101 d17_4 rfl rfl rfl ?_
  refine Go.callS (y := (⟨"java/util/List", "copyOf", "(Ljava/util/Collection;)Ljava/util/List;"⟩ : MethodName)) (pc' := 8) C X101 (tw hw 135 rfl) (tw hw 51 rfl) (by decide) (rm_lco3 l Z a0 hw a d1 d2 d3 w kw mr h0 O0 Ea Fe Fs Ew Aw Ed0 Ed1 Ed2 hM) (tw hw 53 rfl) (tw hw 52 rfl) e101 (argsL := [(.ref a)]) (rest := []) (W := 0) rfl rfl pd_14 rfl (Nat.le_of_eq rfl) rfl (by decide) (by decide) (by decide) (by decide) d17_5 rfl ?_
  intro T102 v102 L102 X102 q102
  obtain ⟨r_102, q_102, kq_102, rfl, N102q, K102, B102_0, B102_1, P102_0, P102_1, P102_2⟩ := q102
  have N102 := Fr.app N101 N102q
  have n_r_102 : Z.heap.size ≤ r_102 := Nat.le_trans O0.1 B102_0
  have z_r_102 : h0.size ≤ r_102 := Nat.le_trans (Nat.le_refl _) B102_0
  have n_q_102 : Z.heap.size ≤ q_102 := Nat.le_trans O0.1 B102_1
  have z_q_102 : h0.size ≤ q_102 := Nat.le_trans (Nat.le_refl _) B102_1
  refine Go.astoreN (Ls' := #[.val (.ref j), .val (.ref sr), .val (.ref r_102)]) (pc' := 9) C X102 d17_8 rfl rfl rfl ?_
  refine Go.aloadN (pc' := 10) C X102 d17_9 rfl rfl rfl ?_
  refine Go.aloadN (pc' := 11) C X102 d17_10 rfl rfl rfl ?_
  have c104 : Fld Z T102.heap j "com/example/barrault/barrault/model/PathPattern" "text" "Ljava/lang/String;" .null := (Fld.keep F1 K102 nin0)
  have c105 : Exa Z T102.heap j "com/example/barrault/barrault/model/PathPattern" := (Exa.keep E0 K102)
  refine Go.putF (pc' := 14) (host := "") (ty := (.object "java/lang/String")) C X102 (Or.inl (tw hw 199 rfl)) Via.refl rfl c104 c105 (Or.inr ⟨(tw hw 200 rfl), rfl, rfl⟩) (tw hw 121 rfl) (by decide) rfl rfl d17_11 rfl ?_
  intro T103 h103 X103 e103 W103 F103
  have N103 := Fr.snoc X103 N102 hn
  refine Go.aloadN (pc' := 15) C X103 d17_14 rfl rfl rfl ?_
  refine Go.aloadN (pc' := 16) C X103 d17_15 rfl rfl rfl ?_
  have c107 : Fld Z h103 j "com/example/barrault/barrault/model/PathPattern" "steps" "Ljava/util/List;" .null := (Fld.other W103 (Fld.keep F2 K102 nin0) (Or.inr (slot_ne (Or.inr (tw hw 202 rfl)) (Or.inr (tw hw 200 rfl)) (by decide) (t := (.object "java/util/List")) (t' := (.object "java/lang/String")) (by decide) (by decide))))
  have c108 : Exa Z h103 j "com/example/barrault/barrault/model/PathPattern" := (Exa.wr W103 c105)
  refine Go.putF (pc' := 19) (host := "") (ty := (.object "java/util/List")) C X103 (Or.inl (tw hw 201 rfl)) Via.refl e103 c107 c108 (Or.inr ⟨(tw hw 202 rfl), rfl, rfl⟩) (tw hw 121 rfl) (by decide) rfl rfl d17_16 rfl ?_
  intro T106 h106 X106 e106 W106 F106
  have N106 := Fr.snoc X106 N103 hn
  have K109 : Keep h0 h106 [j] := ((((Keep.refl h0 [j]).trans K102 all0).wr W103 (Or.inl (by simp))).wr W106 (Or.inl (by simp)))
  have c110 : Exa Z h106 r_102 "java/util/ImmutableCollections$ListN" := (Exa.wr W106 (Exa.wr W103 P102_0))
  have ne111 : r_102 ≠ j := (Nat.ne_of_gt (Nat.lt_of_lt_of_le E0.lt (Nat.le_trans (Nat.le_refl _) B102_0)))
  have c112 : Fld Z h106 r_102 "java/util/ImmutableCollections$ListN" "elements" "[Ljava/lang/Object;" (.ref q_102) := (Fld.other W106 (Fld.other W103 P102_1 (Or.inl ne111)) (Or.inl ne111))
  have ne113 : q_102 ≠ j := (Nat.ne_of_gt (Nat.lt_of_lt_of_le E0.lt (Nat.le_trans (Nat.le_refl _) B102_1)))
  have c114 : AL Z h106 q_102 kq_102 (.object "java/lang/Object") [(.ref d1), (.ref d2), (.ref d3)] := (AL.other W106 (AL.other W103 P102_2 ne113) ne113)
  exact Go.retV C X106 rfl d17_19 (by rw [e106]; exact ⟨r_102, q_102, kq_102, rfl, N106, K109, z_r_102, z_q_102, F106, c110, c112, c114⟩) (by decide) (by decide)
theorem pf_34 : plainFor (⟨"java/util/ImmutableCollections$ListN", "size", "()I"⟩ : MethodName) = true := plainFor_of_name (by first | (simp [plainName, overriddenIn]; done) | decide +kernel)
theorem d34_0 : decode jdk_45_method_3_code 0 = .ok (.aload_n 0, 1) := by decide +kernel
theorem d34_1 : decode jdk_45_method_3_code 1 = .ok (.getfield 7, 3) := by decide +kernel
theorem d34_4 : decode jdk_45_method_3_code 4 = .ok (.arraylength, 1) := by decide +kernel
theorem d34_5 : decode jdk_45_method_3_code 5 = .ok (.ireturn, 1) := by decide +kernel
def Q_sz3 (Z : State) (r : Addr) (q : Addr) (kq : ClassId) (d1 : Addr) (d2 : Addr) (d3 : Addr) (h0 : Heap) (rv : Option Value) (h : Heap) (L : List Loc) : Prop := rv = some (.int (3 : Int32)) ∧ L = [] ∧ h = h0
set_option maxRecDepth 65536 in
set_option maxHeartbeats 40000000 in
theorem rm_sz3 (l : Launch) (Z : State) (a0 : Array Value) (hw : ∀ d ∈ tables_1, d.before a0 Z = true) (r : Addr) (q : Addr) (kq : ClassId) (d1 : Addr) (d2 : Addr) (d3 : Addr) (h0 : Heap) (O0 : Ext Z.heap h0) (Er : Exa Z h0 r "java/util/ImmutableCollections$ListN") (Fr_ : Fld Z h0 r "java/util/ImmutableCollections$ListN" "elements" "[Ljava/lang/Object;" (.ref q)) (Aq : AL Z h0 q kq (.object "java/lang/Object") [(.ref d1), (.ref d2), (.ref d3)]) :
    Met1 l Z (⟨"java/util/ImmutableCollections$ListN", "size", "()I"⟩ : MethodName) jdk_45_method_3_code 1 (some .int) ({ frames := 0, cells := 0, slots := 0, locals := 0 } : Room) #[(.ref r)] h0 (Q_sz3 Z r q kq d1 d2 d3 h0) := by
  refine Met1.of_body (Ls := #[.val (.ref r)]) pf_34 (fun m => by first | (simp [entryFrame, mkF, argsToLocals, Value.category]; done) | rfl) ?_
  intro p e s m below meth c T0 C X0 e0
  have N0 : Fr Z.heap.size [] := Fr.nil _
  refine Go.aloadN (pc' := 1) C X0 d34_0 rfl rfl rfl ?_
  refine Go.getF (pc' := 4) (host := "") C X0 (Or.inl (tw hw 251 rfl)) Via.refl e0 Fr_ d34_1 rfl ?_
  intro T101 X101 e101
  refine Go.alen (z := (3 : Int32)) (pc' := 5) C X101 e101 Aq rfl d34_4 rfl ?_
  exact Go.retI C X101 rfl d34_5 (by rw [e101]; exact ⟨rfl, rfl, rfl⟩) (by decide) (by decide)
theorem pf_35 : plainFor (⟨"java/util/ImmutableCollections$ListN", "get", "(I)Ljava/lang/Object;"⟩ : MethodName) = true := plainFor_of_name (by first | (simp [plainName, overriddenIn]; done) | decide +kernel)
theorem d35_0 : decode jdk_45_method_4_code 0 = .ok (.aload_n 0, 1) := by decide +kernel
theorem d35_1 : decode jdk_45_method_4_code 1 = .ok (.getfield 7, 3) := by decide +kernel
theorem d35_4 : decode jdk_45_method_4_code 4 = .ok (.iload_n 1, 1) := by decide +kernel
theorem d35_5 : decode jdk_45_method_4_code 5 = .ok (.aaload, 1) := by decide +kernel
theorem d35_6 : decode jdk_45_method_4_code 6 = .ok (.areturn, 1) := by decide +kernel
def Q_ge3 (Z : State) (r : Addr) (q : Addr) (kq : ClassId) (d1 : Addr) (d2 : Addr) (d3 : Addr) (h0 : Heap) (rv : Option Value) (h : Heap) (L : List Loc) : Prop := rv = some (.ref d3) ∧ L = [] ∧ h = h0
set_option maxRecDepth 65536 in
set_option maxHeartbeats 40000000 in
theorem rm_ge3 (l : Launch) (Z : State) (a0 : Array Value) (hw : ∀ d ∈ tables_1, d.before a0 Z = true) (r : Addr) (q : Addr) (kq : ClassId) (d1 : Addr) (d2 : Addr) (d3 : Addr) (h0 : Heap) (O0 : Ext Z.heap h0) (Er : Exa Z h0 r "java/util/ImmutableCollections$ListN") (Fr_ : Fld Z h0 r "java/util/ImmutableCollections$ListN" "elements" "[Ljava/lang/Object;" (.ref q)) (Aq : AL Z h0 q kq (.object "java/lang/Object") [(.ref d1), (.ref d2), (.ref d3)]) :
    Met1 l Z (⟨"java/util/ImmutableCollections$ListN", "get", "(I)Ljava/lang/Object;"⟩ : MethodName) jdk_45_method_4_code 2 (some (.object "java/lang/Object")) ({ frames := 0, cells := 0, slots := 0, locals := 0 } : Room) #[(.ref r), (.int (2 : Int32))] h0 (Q_ge3 Z r q kq d1 d2 d3 h0) := by
  refine Met1.of_body (Ls := #[.val (.ref r), .val (.int (2 : Int32))]) pf_35 (fun m => by first | (simp [entryFrame, mkF, argsToLocals, Value.category]; done) | rfl) ?_
  intro p e s m below meth c T0 C X0 e0
  have N0 : Fr Z.heap.size [] := Fr.nil _
  refine Go.aloadN (pc' := 1) C X0 d35_0 rfl rfl rfl ?_
  refine Go.getF (pc' := 4) (host := "") C X0 (Or.inl (tw hw 251 rfl)) Via.refl e0 Fr_ d35_1 rfl ?_
  intro T101 X101 e101
  refine Go.iloadN (pc' := 5) C X101 d35_4 rfl rfl ?_
  refine Go.ldR (i := 2) (v := (.ref d3)) (pc' := 6) C X101 e101 Aq (by decide) (by decide) rfl rfl d35_5 rfl ?_
  exact Go.retA C X101 rfl d35_6 rfl rfl rfl (by rw [e101]; exact ⟨rfl, rfl, rfl⟩) (by decide) (by decide)
def Q_se3 (Z : State) (j : Addr) (kv : Addr) (ke : Addr) (r : Addr) (q : Addr) (kq : ClassId) (d1 : Addr) (d2 : Addr) (d3 : Addr) (h0 : Heap) (rv : Option Value) (h : Heap) (L : List Loc) : Prop := rv = some (.int (if kv = ke then (1 : Int32) else 0)) ∧ L = [] ∧ h = h0
set_option maxRecDepth 65536 in
set_option maxHeartbeats 40000000 in
theorem rm_se3 (l : Launch) (Z : State) (a0 : Array Value) (hw : ∀ d ∈ tables_1, d.before a0 Z = true) (j : Addr) (kv : Addr) (ke : Addr) (r : Addr) (q : Addr) (kq : ClassId) (d1 : Addr) (d2 : Addr) (d3 : Addr) (h0 : Heap) (O0 : Ext Z.heap h0) (F2 : Fld Z h0 j "com/example/barrault/barrault/model/PathPattern" "steps" "Ljava/util/List;" (.ref r)) (Er : Exa Z h0 r "java/util/ImmutableCollections$ListN") (Fr_ : Fld Z h0 r "java/util/ImmutableCollections$ListN" "elements" "[Ljava/lang/Object;" (.ref q)) (Aq : AL Z h0 q kq (.object "java/lang/Object") [(.ref d1), (.ref d2), (.ref d3)]) (Edl : Exa Z h0 d3 "com/example/barrault/barrault/model/PathPattern$Step") (Fk : Fld Z h0 d3 "com/example/barrault/barrault/model/PathPattern$Step" "kind" "Lcom/example/barrault/barrault/model/PathPattern$Kind;" (.ref kv)) (SK : Sta Z Z.heap "com/example/barrault/barrault/model/PathPattern$Kind" "ELEMENT" "Lcom/example/barrault/barrault/model/PathPattern$Kind;" (.ref ke)) :
    Met1 l Z (⟨"com/example/barrault/barrault/model/PathPattern", "selectsElements", "()Z"⟩ : MethodName) prog_37_method_4_code 1 (some .boolean) ({ frames := 1, cells := 0, slots := 0, locals := 13 } : Room) #[(.ref j)] h0 (Q_se3 Z j kv ke r q kq d1 d2 d3 h0) := by
  refine Met1.of_body (Ls := #[.val (.ref j)]) pf_27 (fun m => by first | (simp [entryFrame, mkF, argsToLocals, Value.category]; done) | rfl) ?_
  intro p e s m below meth c T0 C X0 e0
  have N0 : Fr Z.heap.size [] := Fr.nil _
  refine Go.aloadN (pc' := 1) C X0 d27_0 rfl rfl rfl ?_
  refine Go.getF (pc' := 4) (host := "") C X0 (Or.inl (tw hw 201 rfl)) Via.refl e0 F2 d27_1 rfl ?_
  intro T101 X101 e101
  refine Go.aloadN (pc' := 5) C X101 d27_4 rfl rfl rfl ?_
  refine Go.getF (pc' := 8) (host := "") C X101 (Or.inl (tw hw 201 rfl)) Via.refl e101 F2 d27_5 rfl ?_
  intro T102 X102 e102
  refine Go.callF (y := (⟨"java/util/List", "size", "()I"⟩ : MethodName)) (z := (⟨"java/util/ImmutableCollections$ListN", "size", "()I"⟩ : MethodName)) (a := r) (pc' := 13) C X102 (tw hw 208 rfl) (tw hw 209 rfl) (tw hw 210 rfl) (tw hw 255 rfl) (tw hw 256 rfl) (tw hw 257 rfl) (tw hw 258 rfl) (tw hw 259 rfl) rfl Er (by decide) (rm_sz3 l Z a0 hw r q kq d1 d2 d3 h0 O0 Er Fr_ Aq) (tw hw 260 rfl) (tw hw 242 rfl) e102 (argsL := []) (rest := [(.ref r)]) (W := 1) rfl rfl pd_15 rfl (Nat.le_of_eq rfl) rfl (by decide) (by decide) (by decide) (by decide) d27_8 rfl ?_
  intro T103 v103 L103 X103 q103
  obtain ⟨rfl, rfl, e103⟩ := q103
  have N103 := Fr.app N0 (Fr.nil _)
  refine Go.iconst (z := (1 : Int32)) (pc' := 14) C X103 d27_13 rfl rfl ?_
  refine Go.isub (pc' := 15) C X103 d27_14 rfl ?_
  rw [show ((3 : Int32) - (1 : Int32)) = (2 : Int32) from by decide]
  refine Go.callF (y := (⟨"java/util/List", "get", "(I)Ljava/lang/Object;"⟩ : MethodName)) (z := (⟨"java/util/ImmutableCollections$ListN", "get", "(I)Ljava/lang/Object;"⟩ : MethodName)) (a := r) (pc' := 20) C X103 (tw hw 217 rfl) (tw hw 218 rfl) (tw hw 219 rfl) (tw hw 261 rfl) (tw hw 262 rfl) (tw hw 263 rfl) (tw hw 264 rfl) (tw hw 259 rfl) rfl Er (by decide) (rm_ge3 l Z a0 hw r q kq d1 d2 d3 h0 O0 Er Fr_ Aq) (tw hw 265 rfl) (tw hw 242 rfl) e103 (argsL := [(.int (2 : Int32))]) (rest := []) (W := 0) rfl rfl pd_16 rfl (Nat.le_of_eq rfl) rfl (by decide) (by decide) (by decide) (by decide) d27_15 rfl ?_
  intro T104 v104 L104 X104 q104
  obtain ⟨rfl, rfl, e104⟩ := q104
  have N104 := Fr.app N103 (Fr.nil _)
  refine Go.castY (pc' := 23) C X104 (tw hw 225 rfl) e104 (Ins.self Edl) d27_20 rfl ?_
  intro T105 X105 e105
  by_cases hs106 : kv = ke
  · refine Go.callV (y := (⟨"com/example/barrault/barrault/model/PathPattern$Step", "kind", "()Lcom/example/barrault/barrault/model/PathPattern$Kind;"⟩ : MethodName)) (z := (⟨"com/example/barrault/barrault/model/PathPattern$Step", "kind", "()Lcom/example/barrault/barrault/model/PathPattern$Kind;"⟩ : MethodName)) (a := d3) (pc' := 26) C X105 (tw hw 227 rfl) (tw hw 228 rfl) (notFace_at C.2.1 (tw hw 230 rfl)) (tw hw 230 rfl) (tw hw 229 rfl) Edl (by decide) (rm_skd l Z a0 hw d3 kv h0 O0 Fk) (tw hw 231 rfl) (tw hw 14 rfl) e105 (argsL := []) (rest := []) (W := 0) rfl rfl pd_17 rfl (Nat.le_of_eq rfl) rfl (by decide) (by decide) (by decide) (by decide) d27_23 rfl ?_
    intro T107 v107 L107 X107 q107
    obtain ⟨rfl, rfl, e107⟩ := q107
    have N107 := Fr.app N104 (Fr.nil _)
    refine Go.getS (pc' := 29) (host := "") C X107 (Or.inl (tw hw 232 rfl)) Via.refl e107 (SK.ext O0) d27_26 rfl ?_
    intro T108 X108 e108
    refine Go.acmpNo (pc' := 32) C X108 d27_29 rfl rfl (XT.aa_ne_f (congrArg Value.ref hs106)) rfl ?_
    refine Go.iconst (z := (1 : Int32)) (pc' := 33) C X108 d27_32 rfl rfl ?_
    refine Go.goto (pc' := 37) C X108 d27_33 (by decide) (by decide) ?_
    exact Go.retN C X108 rfl d27_37 (by simp) (by rw [e108]; exact ⟨(by rw [if_pos hs106]; rfl), (by simp), rfl⟩) (by decide) (by decide)
  · refine Go.callV (y := (⟨"com/example/barrault/barrault/model/PathPattern$Step", "kind", "()Lcom/example/barrault/barrault/model/PathPattern$Kind;"⟩ : MethodName)) (z := (⟨"com/example/barrault/barrault/model/PathPattern$Step", "kind", "()Lcom/example/barrault/barrault/model/PathPattern$Kind;"⟩ : MethodName)) (a := d3) (pc' := 26) C X105 (tw hw 227 rfl) (tw hw 228 rfl) (notFace_at C.2.1 (tw hw 230 rfl)) (tw hw 230 rfl) (tw hw 229 rfl) Edl (by decide) (rm_skd l Z a0 hw d3 kv h0 O0 Fk) (tw hw 231 rfl) (tw hw 14 rfl) e105 (argsL := []) (rest := []) (W := 0) rfl rfl pd_17 rfl (Nat.le_of_eq rfl) rfl (by decide) (by decide) (by decide) (by decide) d27_23 rfl ?_
    intro T109 v109 L109 X109 q109
    obtain ⟨rfl, rfl, e109⟩ := q109
    have N109 := Fr.app N104 (Fr.nil _)
    refine Go.getS (pc' := 29) (host := "") C X109 (Or.inl (tw hw 232 rfl)) Via.refl e109 (SK.ext O0) d27_26 rfl ?_
    intro T110 X110 e110
    refine Go.acmpYes (pc' := 36) C X110 d27_29 rfl rfl (XT.aa_ne_t (fun q => hs106 (Value.ref.inj q))) (by decide) (by decide) ?_
    refine Go.iconst (z := (0 : Int32)) (pc' := 37) C X110 d27_36 rfl rfl ?_
    exact Go.retN C X110 rfl d27_37 (by simp) (by rw [e110]; exact ⟨(by rw [if_neg hs106]; rfl), (by simp), rfl⟩) (by decide) (by decide)
theorem pd_18 : parseMethodDescriptor "(I)Lcom/example/barrault/barrault/model/PathPattern$Kind;" = some ⟨[.int], some (.object "com/example/barrault/barrault/model/PathPattern$Kind")⟩ := by decide +kernel
theorem pd_19 : parseMethodDescriptor "(Lcom/example/barrault/barrault/model/PathPattern$Axis;Lcom/example/barrault/barrault/model/PathPattern$Kind;Ljava/lang/String;Ljava/util/List;)V" = some ⟨[(.object "com/example/barrault/barrault/model/PathPattern$Axis"), (.object "com/example/barrault/barrault/model/PathPattern$Kind"), (.object "java/lang/String"), (.object "java/util/List")], none⟩ := by decide +kernel
theorem pd_20 : parseMethodDescriptor "(Ljava/lang/Object;)Z" = some ⟨[(.object "java/lang/Object")], some .boolean⟩ := by decide +kernel
theorem wS {a0 : Array Value} {Z : State} (hw : ∀ d ∈ tables_1, d.before a0 Z = true) : ∀ a ∈ Bundle.stringAtoms, a.before a0 Z = true := by
  intro a ha
  simp only [Bundle.stringAtoms, List.mem_cons, List.not_mem_nil, or_false] at ha
  rcases ha with rfl | rfl | rfl | rfl | rfl | rfl | rfl
  · exact (tw hw 124 rfl)
  · exact (tw hw 125 rfl)
  · exact (tw hw 126 rfl)
  · exact (tw hw 127 rfl)
  · exact (tw hw 128 rfl)
  · exact (tw hw 129 rfl)
  · exact (tw hw 130 rfl)
theorem pd_21 : parseMethodDescriptor "(Ljava/lang/String;Ljava/util/List;)V" = some ⟨[(.object "java/lang/String"), (.object "java/util/List")], none⟩ := by decide +kernel
theorem pf_0 : plainFor x = true := plainFor_of_name (by first | (simp [plainName, overriddenIn, x]; done) | decide +kernel)
def Q_law (Z : State) (p1 : Int32) (p2 : Int32) (p3 : Int32) (p4 : Int32) (dc : Addr) (kd : ClassId) (em : Addr) (el : Addr) (mr : Addr) (ke : Addr) (ka : Addr) (kt : Addr) (h0 : Heap) (rv : Option Value) (h : Heap) (L : List Loc) : Prop := rv = some (.int (1 : Int32)) ∧ Fr Z.heap.size L ∧ Keep h0 h []
set_option maxRecDepth 65536 in
set_option maxHeartbeats 40000000 in
theorem rm_law (l : Launch) (Z : State) (a0 : Array Value) (hw : ∀ d ∈ tables_1, d.before a0 Z = true) (p1 : Int32) (p2 : Int32) (p3 : Int32) (p4 : Int32) (dc : Addr) (kd : ClassId) (em : Addr) (el : Addr) (mr : Addr) (ke : Addr) (ka : Addr) (kt : Addr) (h0 : Heap) (O0 : Ext Z.heap h0) (SD : Sta Z Z.heap "java/util/ArrayList" "DEFAULTCAPACITY_EMPTY_ELEMENTDATA" "[Ljava/lang/Object;" (.ref dc)) (AD : AL Z Z.heap dc kd (.object "java/lang/Object") []) (SE : Sta Z Z.heap "java/util/ImmutableCollections" "EMPTY" "Ljava/lang/Object;" (.ref em)) (Ee : Exa Z Z.heap em "java/lang/Object") (SL : Sta Z Z.heap "java/util/ImmutableCollections" "EMPTY_LIST" "Ljava/util/ImmutableCollections$ListN;" (.ref el)) (SK0 : Sta Z Z.heap "com/example/barrault/barrault/model/PathPattern$Kind" "ELEMENT" "Lcom/example/barrault/barrault/model/PathPattern$Kind;" (.ref ke)) (SK1 : Sta Z Z.heap "com/example/barrault/barrault/model/PathPattern$Kind" "ATTRIBUTE" "Lcom/example/barrault/barrault/model/PathPattern$Kind;" (.ref ka)) (SK2 : Sta Z Z.heap "com/example/barrault/barrault/model/PathPattern$Kind" "TEXT" "Lcom/example/barrault/barrault/model/PathPattern$Kind;" (.ref kt)) (hM : Mir Z "[Ljava/lang/Object;" mr) :
    Met1W l Z x code maxLocals ret room_1 #[(.int p1), (.int p2), (.int p3), (.int p4)] h0 (Q_law Z p1 p2 p3 p4 dc kd em el mr ke ka kt h0) := by
  refine Met1W.of_body (Ls := #[.val (.int p1), .val (.int p2), .val (.int p3), .val (.int p4), .unset, .unset, .unset, .unset, .unset, .unset, .unset, .unset, .unset, .unset]) pf_0 (fun m => by first | (simp [entryFrame, mkF, argsToLocals, Value.category, maxLocals]; done) | rfl) ?_
  intro p e s m below meth c T0 C X0 e0
  have N0 : Fr Z.heap.size [] := Fr.nil _
  have Si0 : Sin s s h0 := Sin.start s h0
  refine Go.iconst (z := (1 : Int32)) (pc' := 1) C X0 at_0 rfl rfl ?_
  refine Go.iloadN (pc' := 2) C X0 at_1 rfl rfl ?_
  refine Go.ldcI (pc' := 4) C X0 at_2 (tw hw 0 rfl) rfl ?_
  refine Go.iand (pc' := 5) C X0 at_4 rfl ?_
  refine Go.iconst (z := (3 : Int32)) (pc' := 6) C X0 at_5 rfl rfl ?_
  refine Go.irem (pc' := 7) C X0 at_6 (by decide) rfl ?_
  rcases own_m3 p1 with hl | hl | hl
  · rw [hl]
    refine Go.iadd (pc' := 8) C X0 at_7 rfl ?_
    rw [show ((1 : Int32) + (0 : Int32)) = (1 : Int32) from by decide]
    refine Go.istore (Ls' := #[.val (.int p1), .val (.int p2), .val (.int p3), .val (.int p4), .val (.int (1 : Int32)), .unset, .unset, .unset, .unset, .unset, .unset, .unset, .unset, .unset]) (pc' := 10) C X0 at_8 rfl rfl ?_
    refine Go.iloadN (pc' := 11) C X0 at_10 rfl rfl ?_
    refine Go.callS (y := (⟨"com/example/barrault/barrault/model/PathPatternSelectsElementsPinLaw", "kind", "(I)Lcom/example/barrault/barrault/model/PathPattern$Kind;"⟩ : MethodName)) (pc' := 14) C X0 (tw hw 1 rfl) (tw hw 2 rfl) (by decide) (rm_kind l Z a0 hw p2 ke ka kt h0 O0 SK0 SK1 SK2) (tw hw 4 rfl) (tw hw 3 rfl) e0 (argsL := [(.int p2)]) (rest := []) (W := 0) rfl rfl pd_18 rfl (Nat.le_of_eq rfl) rfl (by decide) (by decide) (by decide) (by decide) at_11 rfl ?_
    intro T101 v101 L101 X101 q101
    obtain ⟨kv_101, rfl, rfl, e101⟩ := q101
    have N101 := Fr.app N0 (Fr.nil _)
    refine Go.astore (Ls' := #[.val (.int p1), .val (.int p2), .val (.int p3), .val (.int p4), .val (.int (1 : Int32)), .val (.ref kv_101), .unset, .unset, .unset, .unset, .unset, .unset, .unset, .unset]) (pc' := 16) C X101 at_14 rfl rfl rfl ?_
    refine Go.iloadN (pc' := 17) C X101 at_16 rfl rfl ?_
    refine Go.callS (y := (⟨"com/example/barrault/barrault/model/PathPatternSelectsElementsPinLaw", "kind", "(I)Lcom/example/barrault/barrault/model/PathPattern$Kind;"⟩ : MethodName)) (pc' := 20) C X101 (tw hw 1 rfl) (tw hw 2 rfl) (by decide) (rm_kind l Z a0 hw p3 ke ka kt h0 O0 SK0 SK1 SK2) (tw hw 4 rfl) (tw hw 3 rfl) e101 (argsL := [(.int p3)]) (rest := []) (W := 0) rfl rfl pd_18 rfl (Nat.le_of_eq rfl) rfl (by decide) (by decide) (by decide) (by decide) at_17 rfl ?_
    intro T102 v102 L102 X102 q102
    obtain ⟨kv_102, rfl, rfl, e102⟩ := q102
    have N102 := Fr.app N101 (Fr.nil _)
    refine Go.astore (Ls' := #[.val (.int p1), .val (.int p2), .val (.int p3), .val (.int p4), .val (.int (1 : Int32)), .val (.ref kv_101), .val (.ref kv_102), .unset, .unset, .unset, .unset, .unset, .unset, .unset]) (pc' := 22) C X102 at_20 rfl rfl rfl ?_
    refine Go.iloadN (pc' := 23) C X102 at_22 rfl rfl ?_
    refine Go.callS (y := (⟨"com/example/barrault/barrault/model/PathPatternSelectsElementsPinLaw", "kind", "(I)Lcom/example/barrault/barrault/model/PathPattern$Kind;"⟩ : MethodName)) (pc' := 26) C X102 (tw hw 1 rfl) (tw hw 2 rfl) (by decide) (rm_kind l Z a0 hw p4 ke ka kt h0 O0 SK0 SK1 SK2) (tw hw 4 rfl) (tw hw 3 rfl) e102 (argsL := [(.int p4)]) (rest := []) (W := 0) rfl rfl pd_18 rfl (Nat.le_of_eq rfl) rfl (by decide) (by decide) (by decide) (by decide) at_23 rfl ?_
    intro T103 v103 L103 X103 q103
    obtain ⟨kv_103, rfl, rfl, e103⟩ := q103
    have N103 := Fr.app N102 (Fr.nil _)
    refine Go.astore (Ls' := #[.val (.int p1), .val (.int p2), .val (.int p3), .val (.int p4), .val (.int (1 : Int32)), .val (.ref kv_101), .val (.ref kv_102), .val (.ref kv_103), .unset, .unset, .unset, .unset, .unset, .unset]) (pc' := 28) C X103 at_26 rfl rfl rfl ?_
    refine Go.newO (pc' := 31) C X103 (tw hw 12 rfl) (tw hw 13 rfl) (tw hw 14 rfl) e103 (by decide) (by decide) at_28 rfl ?_
    intro T104 h104 b104 X104 e104 g104 E104 A104 D104
    have n_b104 : Z.heap.size ≤ b104 := Nat.le_trans O0.1 (Nat.le_of_eq g104.symm)
    have z_b104 : h0.size ≤ b104 := Nat.le_trans (Nat.le_refl _) (Nat.le_of_eq g104.symm)
    have F104_axis : Fld Z h104 b104 "com/example/barrault/barrault/model/PathPattern$Step" "axis" "Lcom/example/barrault/barrault/model/PathPattern$Axis;" .null := D104 (Or.inr (tw hw 80 rfl)) (ty := (.object "com/example/barrault/barrault/model/PathPattern$Axis")) (by decide)
    have F104_kind : Fld Z h104 b104 "com/example/barrault/barrault/model/PathPattern$Step" "kind" "Lcom/example/barrault/barrault/model/PathPattern$Kind;" .null := D104 (Or.inr (tw hw 82 rfl)) (ty := (.object "com/example/barrault/barrault/model/PathPattern$Kind")) (by decide)
    have F104_name : Fld Z h104 b104 "com/example/barrault/barrault/model/PathPattern$Step" "name" "Ljava/lang/String;" .null := D104 (Or.inr (tw hw 84 rfl)) (ty := (.object "java/lang/String")) (by decide)
    have F104_predicates : Fld Z h104 b104 "com/example/barrault/barrault/model/PathPattern$Step" "predicates" "Ljava/util/List;" .null := D104 (Or.inr (tw hw 86 rfl)) (ty := (.object "java/util/List")) (by decide)
    refine Go.dup (pc' := 32) C X104 at_31 rfl rfl ?_
    refine Go.aconstNull (pc' := 33) C X104 at_32 rfl ?_
    refine Go.aload (pc' := 35) C X104 at_33 rfl rfl rfl ?_
    refine Go.aconstNull (pc' := 36) C X104 at_35 rfl ?_
    have O106 : Ext Z.heap h104 := (Ext.trans O0 E104)
    refine Go.newO (pc' := 39) C X104 (tw hw 15 rfl) (tw hw 16 rfl) (tw hw 17 rfl) e104 (by decide) (by decide) at_36 rfl ?_
    intro T105 h105 b105 X105 e105 g105 E105 A105 D105
    have n_b105 : Z.heap.size ≤ b105 := Nat.le_trans O106.1 (Nat.le_of_eq g105.symm)
    have z_b105 : h0.size ≤ b105 := Nat.le_trans (Nat.le_trans (Nat.le_refl _) E104.1) (Nat.le_of_eq g105.symm)
    have F105_modCount : Fld Z h105 b105 "java/util/AbstractList" "modCount" "I" (.int (0 : Int32)) := D105 (Or.inl (tw hw 37 rfl)) (ty := .int) (by decide)
    have F105_elementData : Fld Z h105 b105 "java/util/ArrayList" "elementData" "[Ljava/lang/Object;" .null := D105 (Or.inl (tw hw 40 rfl)) (ty := (.array (.object "java/lang/Object"))) (by decide)
    have F105_size : Fld Z h105 b105 "java/util/ArrayList" "size" "I" (.int (0 : Int32)) := D105 (Or.inl (tw hw 74 rfl)) (ty := .int) (by decide)
    refine Go.dup (pc' := 40) C X105 at_39 rfl rfl ?_
    have O108 : Ext Z.heap h105 := (Ext.trans O106 E105)
    refine Go.callI (y := (⟨"java/util/ArrayList", "<init>", "()V"⟩ : MethodName)) (a := b105) (pc' := 43) C X105 rfl (tw hw 18 rfl) (tw hw 19 rfl) (by decide) (rm_alI l Z a0 hw b105 dc h105 O108 A105 F105_modCount F105_elementData F105_size SD n_b105) (tw hw 20 rfl) (tw hw 17 rfl) e105 (argsL := []) (rest := [(.ref b105), .null, (.ref kv_101), .null, (.ref b104), (.ref b104)]) (W := 6) rfl rfl pd_0 rfl (Nat.le_of_eq rfl) rfl (by decide) (by decide) (by decide) (by decide) rfl at_40 rfl ?_
    intro T107 v107 L107 X107 q107
    obtain ⟨rfl, N107q, K107, P107_0, P107_1, P107_2⟩ := q107
    have N107 := Fr.app N103 N107q
    have c110 : Exa Z T107.heap b104 "com/example/barrault/barrault/model/PathPattern$Step" := (Exa.keep (Exa.ext E105 A104) K107)
    have ne111 : b104 ≠ b105 := Nat.ne_of_lt (Nat.lt_of_lt_of_le A104.lt (Nat.le_trans (Nat.le_refl _) (Nat.le_of_eq g105.symm)))
    have c112 : Fld Z T107.heap b104 "com/example/barrault/barrault/model/PathPattern$Step" "axis" "Lcom/example/barrault/barrault/model/PathPattern$Axis;" .null := (Fld.keep (Fld.ext E105 F104_axis) K107 (ninS ne111 nin0))
    have c113 : Fld Z T107.heap b104 "com/example/barrault/barrault/model/PathPattern$Step" "kind" "Lcom/example/barrault/barrault/model/PathPattern$Kind;" .null := (Fld.keep (Fld.ext E105 F104_kind) K107 (ninS ne111 nin0))
    have c114 : Fld Z T107.heap b104 "com/example/barrault/barrault/model/PathPattern$Step" "name" "Ljava/lang/String;" .null := (Fld.keep (Fld.ext E105 F104_name) K107 (ninS ne111 nin0))
    have c115 : Fld Z T107.heap b104 "com/example/barrault/barrault/model/PathPattern$Step" "predicates" "Ljava/util/List;" .null := (Fld.keep (Fld.ext E105 F104_predicates) K107 (ninS ne111 nin0))
    have c116 : Exa Z T107.heap b105 "java/util/ArrayList" := (Exa.keep A105 K107)
    have O117 : Ext Z.heap T107.heap := (Ext.keep O108 K107 (allS n_b105 all0))
    refine Go.callI (y := (⟨"com/example/barrault/barrault/model/PathPattern$Step", "<init>", "(Lcom/example/barrault/barrault/model/PathPattern$Axis;Lcom/example/barrault/barrault/model/PathPattern$Kind;Ljava/lang/String;Ljava/util/List;)V"⟩ : MethodName)) (a := b104) (pc' := 46) C X107 rfl (tw hw 41 rfl) (tw hw 42 rfl) (by decide) (rm_stI l Z a0 hw b104 kv_101 b105 dc el T107.heap O117 c110 c112 c113 c114 c115 c116 P107_1 P107_2 SL n_b104) (tw hw 43 rfl) (tw hw 14 rfl) rfl (argsL := [.null, (.ref kv_101), .null, (.ref b105)]) (rest := [(.ref b104)]) (W := 1) rfl rfl pd_19 rfl (Nat.le_of_eq rfl) rfl (by decide) (by decide) (by decide) (by decide) rfl at_43 rfl ?_
    intro T109 v109 L109 X109 q109
    obtain ⟨rfl, N109q, K109, P109_0⟩ := q109
    have N109 := Fr.app N107 N109q
    refine Go.astore (Ls' := #[.val (.int p1), .val (.int p2), .val (.int p3), .val (.int p4), .val (.int (1 : Int32)), .val (.ref kv_101), .val (.ref kv_102), .val (.ref kv_103), .val (.ref b104), .unset, .unset, .unset, .unset, .unset]) (pc' := 48) C X109 at_46 rfl rfl rfl ?_
    have O119 : Ext Z.heap T109.heap := (Ext.keep O117 K109 (allS n_b104 all0))
    refine Go.newO (pc' := 51) C X109 (tw hw 12 rfl) (tw hw 13 rfl) (tw hw 14 rfl) rfl (by decide) (by decide) at_48 rfl ?_
    intro T118 h118 b118 X118 e118 g118 E118 A118 D118
    have n_b118 : Z.heap.size ≤ b118 := Nat.le_trans O119.1 (Nat.le_of_eq g118.symm)
    have z_b118 : h0.size ≤ b118 := Nat.le_trans (Nat.le_trans (Nat.le_trans (Nat.le_trans (Nat.le_trans (Nat.le_refl _) E104.1) E105.1) K107.1) K109.1) (Nat.le_of_eq g118.symm)
    have F118_axis : Fld Z h118 b118 "com/example/barrault/barrault/model/PathPattern$Step" "axis" "Lcom/example/barrault/barrault/model/PathPattern$Axis;" .null := D118 (Or.inr (tw hw 80 rfl)) (ty := (.object "com/example/barrault/barrault/model/PathPattern$Axis")) (by decide)
    have F118_kind : Fld Z h118 b118 "com/example/barrault/barrault/model/PathPattern$Step" "kind" "Lcom/example/barrault/barrault/model/PathPattern$Kind;" .null := D118 (Or.inr (tw hw 82 rfl)) (ty := (.object "com/example/barrault/barrault/model/PathPattern$Kind")) (by decide)
    have F118_name : Fld Z h118 b118 "com/example/barrault/barrault/model/PathPattern$Step" "name" "Ljava/lang/String;" .null := D118 (Or.inr (tw hw 84 rfl)) (ty := (.object "java/lang/String")) (by decide)
    have F118_predicates : Fld Z h118 b118 "com/example/barrault/barrault/model/PathPattern$Step" "predicates" "Ljava/util/List;" .null := D118 (Or.inr (tw hw 86 rfl)) (ty := (.object "java/util/List")) (by decide)
    refine Go.dup (pc' := 52) C X118 at_51 rfl rfl ?_
    refine Go.aconstNull (pc' := 53) C X118 at_52 rfl ?_
    refine Go.aload (pc' := 55) C X118 at_53 rfl rfl rfl ?_
    refine Go.aconstNull (pc' := 56) C X118 at_55 rfl ?_
    have O121 : Ext Z.heap h118 := (Ext.trans O119 E118)
    refine Go.newO (pc' := 59) C X118 (tw hw 15 rfl) (tw hw 16 rfl) (tw hw 17 rfl) e118 (by decide) (by decide) at_56 rfl ?_
    intro T120 h120 b120 X120 e120 g120 E120 A120 D120
    have n_b120 : Z.heap.size ≤ b120 := Nat.le_trans O121.1 (Nat.le_of_eq g120.symm)
    have z_b120 : h0.size ≤ b120 := Nat.le_trans (Nat.le_trans (Nat.le_trans (Nat.le_trans (Nat.le_trans (Nat.le_trans (Nat.le_refl _) E104.1) E105.1) K107.1) K109.1) E118.1) (Nat.le_of_eq g120.symm)
    have F120_modCount : Fld Z h120 b120 "java/util/AbstractList" "modCount" "I" (.int (0 : Int32)) := D120 (Or.inl (tw hw 37 rfl)) (ty := .int) (by decide)
    have F120_elementData : Fld Z h120 b120 "java/util/ArrayList" "elementData" "[Ljava/lang/Object;" .null := D120 (Or.inl (tw hw 40 rfl)) (ty := (.array (.object "java/lang/Object"))) (by decide)
    have F120_size : Fld Z h120 b120 "java/util/ArrayList" "size" "I" (.int (0 : Int32)) := D120 (Or.inl (tw hw 74 rfl)) (ty := .int) (by decide)
    refine Go.dup (pc' := 60) C X120 at_59 rfl rfl ?_
    have O123 : Ext Z.heap h120 := (Ext.trans O121 E120)
    refine Go.callI (y := (⟨"java/util/ArrayList", "<init>", "()V"⟩ : MethodName)) (a := b120) (pc' := 63) C X120 rfl (tw hw 18 rfl) (tw hw 19 rfl) (by decide) (rm_alI l Z a0 hw b120 dc h120 O123 A120 F120_modCount F120_elementData F120_size SD n_b120) (tw hw 20 rfl) (tw hw 17 rfl) e120 (argsL := []) (rest := [(.ref b120), .null, (.ref kv_102), .null, (.ref b118), (.ref b118)]) (W := 6) rfl rfl pd_0 rfl (Nat.le_of_eq rfl) rfl (by decide) (by decide) (by decide) (by decide) rfl at_60 rfl ?_
    intro T122 v122 L122 X122 q122
    obtain ⟨rfl, N122q, K122, P122_0, P122_1, P122_2⟩ := q122
    have N122 := Fr.app N109 N122q
    have c125 : Exa Z T122.heap b118 "com/example/barrault/barrault/model/PathPattern$Step" := (Exa.keep (Exa.ext E120 A118) K122)
    have ne126 : b118 ≠ b120 := Nat.ne_of_lt (Nat.lt_of_lt_of_le A118.lt (Nat.le_trans (Nat.le_refl _) (Nat.le_of_eq g120.symm)))
    have c127 : Fld Z T122.heap b118 "com/example/barrault/barrault/model/PathPattern$Step" "axis" "Lcom/example/barrault/barrault/model/PathPattern$Axis;" .null := (Fld.keep (Fld.ext E120 F118_axis) K122 (ninS ne126 nin0))
    have c128 : Fld Z T122.heap b118 "com/example/barrault/barrault/model/PathPattern$Step" "kind" "Lcom/example/barrault/barrault/model/PathPattern$Kind;" .null := (Fld.keep (Fld.ext E120 F118_kind) K122 (ninS ne126 nin0))
    have c129 : Fld Z T122.heap b118 "com/example/barrault/barrault/model/PathPattern$Step" "name" "Ljava/lang/String;" .null := (Fld.keep (Fld.ext E120 F118_name) K122 (ninS ne126 nin0))
    have c130 : Fld Z T122.heap b118 "com/example/barrault/barrault/model/PathPattern$Step" "predicates" "Ljava/util/List;" .null := (Fld.keep (Fld.ext E120 F118_predicates) K122 (ninS ne126 nin0))
    have c131 : Exa Z T122.heap b120 "java/util/ArrayList" := (Exa.keep A120 K122)
    have O132 : Ext Z.heap T122.heap := (Ext.keep O123 K122 (allS n_b120 all0))
    refine Go.callI (y := (⟨"com/example/barrault/barrault/model/PathPattern$Step", "<init>", "(Lcom/example/barrault/barrault/model/PathPattern$Axis;Lcom/example/barrault/barrault/model/PathPattern$Kind;Ljava/lang/String;Ljava/util/List;)V"⟩ : MethodName)) (a := b118) (pc' := 66) C X122 rfl (tw hw 41 rfl) (tw hw 42 rfl) (by decide) (rm_stI l Z a0 hw b118 kv_102 b120 dc el T122.heap O132 c125 c127 c128 c129 c130 c131 P122_1 P122_2 SL n_b118) (tw hw 43 rfl) (tw hw 14 rfl) rfl (argsL := [.null, (.ref kv_102), .null, (.ref b120)]) (rest := [(.ref b118)]) (W := 1) rfl rfl pd_19 rfl (Nat.le_of_eq rfl) rfl (by decide) (by decide) (by decide) (by decide) rfl at_63 rfl ?_
    intro T124 v124 L124 X124 q124
    obtain ⟨rfl, N124q, K124, P124_0⟩ := q124
    have N124 := Fr.app N122 N124q
    refine Go.astore (Ls' := #[.val (.int p1), .val (.int p2), .val (.int p3), .val (.int p4), .val (.int (1 : Int32)), .val (.ref kv_101), .val (.ref kv_102), .val (.ref kv_103), .val (.ref b104), .val (.ref b118), .unset, .unset, .unset, .unset]) (pc' := 68) C X124 at_66 rfl rfl rfl ?_
    have O134 : Ext Z.heap T124.heap := (Ext.keep O132 K124 (allS n_b118 all0))
    refine Go.newO (pc' := 71) C X124 (tw hw 12 rfl) (tw hw 13 rfl) (tw hw 14 rfl) rfl (by decide) (by decide) at_68 rfl ?_
    intro T133 h133 b133 X133 e133 g133 E133 A133 D133
    have n_b133 : Z.heap.size ≤ b133 := Nat.le_trans O134.1 (Nat.le_of_eq g133.symm)
    have z_b133 : h0.size ≤ b133 := Nat.le_trans (Nat.le_trans (Nat.le_trans (Nat.le_trans (Nat.le_trans (Nat.le_trans (Nat.le_trans (Nat.le_trans (Nat.le_trans (Nat.le_refl _) E104.1) E105.1) K107.1) K109.1) E118.1) E120.1) K122.1) K124.1) (Nat.le_of_eq g133.symm)
    have F133_axis : Fld Z h133 b133 "com/example/barrault/barrault/model/PathPattern$Step" "axis" "Lcom/example/barrault/barrault/model/PathPattern$Axis;" .null := D133 (Or.inr (tw hw 80 rfl)) (ty := (.object "com/example/barrault/barrault/model/PathPattern$Axis")) (by decide)
    have F133_kind : Fld Z h133 b133 "com/example/barrault/barrault/model/PathPattern$Step" "kind" "Lcom/example/barrault/barrault/model/PathPattern$Kind;" .null := D133 (Or.inr (tw hw 82 rfl)) (ty := (.object "com/example/barrault/barrault/model/PathPattern$Kind")) (by decide)
    have F133_name : Fld Z h133 b133 "com/example/barrault/barrault/model/PathPattern$Step" "name" "Ljava/lang/String;" .null := D133 (Or.inr (tw hw 84 rfl)) (ty := (.object "java/lang/String")) (by decide)
    have F133_predicates : Fld Z h133 b133 "com/example/barrault/barrault/model/PathPattern$Step" "predicates" "Ljava/util/List;" .null := D133 (Or.inr (tw hw 86 rfl)) (ty := (.object "java/util/List")) (by decide)
    refine Go.dup (pc' := 72) C X133 at_71 rfl rfl ?_
    refine Go.aconstNull (pc' := 73) C X133 at_72 rfl ?_
    refine Go.aload (pc' := 75) C X133 at_73 rfl rfl rfl ?_
    refine Go.aconstNull (pc' := 76) C X133 at_75 rfl ?_
    have O136 : Ext Z.heap h133 := (Ext.trans O134 E133)
    refine Go.newO (pc' := 79) C X133 (tw hw 15 rfl) (tw hw 16 rfl) (tw hw 17 rfl) e133 (by decide) (by decide) at_76 rfl ?_
    intro T135 h135 b135 X135 e135 g135 E135 A135 D135
    have n_b135 : Z.heap.size ≤ b135 := Nat.le_trans O136.1 (Nat.le_of_eq g135.symm)
    have z_b135 : h0.size ≤ b135 := Nat.le_trans (Nat.le_trans (Nat.le_trans (Nat.le_trans (Nat.le_trans (Nat.le_trans (Nat.le_trans (Nat.le_trans (Nat.le_trans (Nat.le_trans (Nat.le_refl _) E104.1) E105.1) K107.1) K109.1) E118.1) E120.1) K122.1) K124.1) E133.1) (Nat.le_of_eq g135.symm)
    have F135_modCount : Fld Z h135 b135 "java/util/AbstractList" "modCount" "I" (.int (0 : Int32)) := D135 (Or.inl (tw hw 37 rfl)) (ty := .int) (by decide)
    have F135_elementData : Fld Z h135 b135 "java/util/ArrayList" "elementData" "[Ljava/lang/Object;" .null := D135 (Or.inl (tw hw 40 rfl)) (ty := (.array (.object "java/lang/Object"))) (by decide)
    have F135_size : Fld Z h135 b135 "java/util/ArrayList" "size" "I" (.int (0 : Int32)) := D135 (Or.inl (tw hw 74 rfl)) (ty := .int) (by decide)
    refine Go.dup (pc' := 80) C X135 at_79 rfl rfl ?_
    have O138 : Ext Z.heap h135 := (Ext.trans O136 E135)
    refine Go.callI (y := (⟨"java/util/ArrayList", "<init>", "()V"⟩ : MethodName)) (a := b135) (pc' := 83) C X135 rfl (tw hw 18 rfl) (tw hw 19 rfl) (by decide) (rm_alI l Z a0 hw b135 dc h135 O138 A135 F135_modCount F135_elementData F135_size SD n_b135) (tw hw 20 rfl) (tw hw 17 rfl) e135 (argsL := []) (rest := [(.ref b135), .null, (.ref kv_103), .null, (.ref b133), (.ref b133)]) (W := 6) rfl rfl pd_0 rfl (Nat.le_of_eq rfl) rfl (by decide) (by decide) (by decide) (by decide) rfl at_80 rfl ?_
    intro T137 v137 L137 X137 q137
    obtain ⟨rfl, N137q, K137, P137_0, P137_1, P137_2⟩ := q137
    have N137 := Fr.app N124 N137q
    have c140 : Exa Z T137.heap b133 "com/example/barrault/barrault/model/PathPattern$Step" := (Exa.keep (Exa.ext E135 A133) K137)
    have ne141 : b133 ≠ b135 := Nat.ne_of_lt (Nat.lt_of_lt_of_le A133.lt (Nat.le_trans (Nat.le_refl _) (Nat.le_of_eq g135.symm)))
    have c142 : Fld Z T137.heap b133 "com/example/barrault/barrault/model/PathPattern$Step" "axis" "Lcom/example/barrault/barrault/model/PathPattern$Axis;" .null := (Fld.keep (Fld.ext E135 F133_axis) K137 (ninS ne141 nin0))
    have c143 : Fld Z T137.heap b133 "com/example/barrault/barrault/model/PathPattern$Step" "kind" "Lcom/example/barrault/barrault/model/PathPattern$Kind;" .null := (Fld.keep (Fld.ext E135 F133_kind) K137 (ninS ne141 nin0))
    have c144 : Fld Z T137.heap b133 "com/example/barrault/barrault/model/PathPattern$Step" "name" "Ljava/lang/String;" .null := (Fld.keep (Fld.ext E135 F133_name) K137 (ninS ne141 nin0))
    have c145 : Fld Z T137.heap b133 "com/example/barrault/barrault/model/PathPattern$Step" "predicates" "Ljava/util/List;" .null := (Fld.keep (Fld.ext E135 F133_predicates) K137 (ninS ne141 nin0))
    have c146 : Exa Z T137.heap b135 "java/util/ArrayList" := (Exa.keep A135 K137)
    have O147 : Ext Z.heap T137.heap := (Ext.keep O138 K137 (allS n_b135 all0))
    refine Go.callI (y := (⟨"com/example/barrault/barrault/model/PathPattern$Step", "<init>", "(Lcom/example/barrault/barrault/model/PathPattern$Axis;Lcom/example/barrault/barrault/model/PathPattern$Kind;Ljava/lang/String;Ljava/util/List;)V"⟩ : MethodName)) (a := b133) (pc' := 86) C X137 rfl (tw hw 41 rfl) (tw hw 42 rfl) (by decide) (rm_stI l Z a0 hw b133 kv_103 b135 dc el T137.heap O147 c140 c142 c143 c144 c145 c146 P137_1 P137_2 SL n_b133) (tw hw 43 rfl) (tw hw 14 rfl) rfl (argsL := [.null, (.ref kv_103), .null, (.ref b135)]) (rest := [(.ref b133)]) (W := 1) rfl rfl pd_19 rfl (Nat.le_of_eq rfl) rfl (by decide) (by decide) (by decide) (by decide) rfl at_83 rfl ?_
    intro T139 v139 L139 X139 q139
    obtain ⟨rfl, N139q, K139, P139_0⟩ := q139
    have N139 := Fr.app N137 N139q
    refine Go.astore (Ls' := #[.val (.int p1), .val (.int p2), .val (.int p3), .val (.int p4), .val (.int (1 : Int32)), .val (.ref kv_101), .val (.ref kv_102), .val (.ref kv_103), .val (.ref b104), .val (.ref b118), .val (.ref b133), .unset, .unset, .unset]) (pc' := 88) C X139 at_86 rfl rfl rfl ?_
    have O149 : Ext Z.heap T139.heap := (Ext.keep O147 K139 (allS n_b133 all0))
    refine Go.newO (pc' := 91) C X139 (tw hw 15 rfl) (tw hw 16 rfl) (tw hw 17 rfl) rfl (by decide) (by decide) at_88 rfl ?_
    intro T148 h148 b148 X148 e148 g148 E148 A148 D148
    have n_b148 : Z.heap.size ≤ b148 := Nat.le_trans O149.1 (Nat.le_of_eq g148.symm)
    have z_b148 : h0.size ≤ b148 := Nat.le_trans (Nat.le_trans (Nat.le_trans (Nat.le_trans (Nat.le_trans (Nat.le_trans (Nat.le_trans (Nat.le_trans (Nat.le_trans (Nat.le_trans (Nat.le_trans (Nat.le_trans (Nat.le_trans (Nat.le_refl _) E104.1) E105.1) K107.1) K109.1) E118.1) E120.1) K122.1) K124.1) E133.1) E135.1) K137.1) K139.1) (Nat.le_of_eq g148.symm)
    have F148_modCount : Fld Z h148 b148 "java/util/AbstractList" "modCount" "I" (.int (0 : Int32)) := D148 (Or.inl (tw hw 37 rfl)) (ty := .int) (by decide)
    have F148_elementData : Fld Z h148 b148 "java/util/ArrayList" "elementData" "[Ljava/lang/Object;" .null := D148 (Or.inl (tw hw 40 rfl)) (ty := (.array (.object "java/lang/Object"))) (by decide)
    have F148_size : Fld Z h148 b148 "java/util/ArrayList" "size" "I" (.int (0 : Int32)) := D148 (Or.inl (tw hw 74 rfl)) (ty := .int) (by decide)
    refine Go.dup (pc' := 92) C X148 at_91 rfl rfl ?_
    have O151 : Ext Z.heap h148 := (Ext.trans O149 E148)
    refine Go.callI (y := (⟨"java/util/ArrayList", "<init>", "()V"⟩ : MethodName)) (a := b148) (pc' := 95) C X148 rfl (tw hw 18 rfl) (tw hw 19 rfl) (by decide) (rm_alI l Z a0 hw b148 dc h148 O151 A148 F148_modCount F148_elementData F148_size SD n_b148) (tw hw 20 rfl) (tw hw 17 rfl) e148 (argsL := []) (rest := [(.ref b148)]) (W := 1) rfl rfl pd_0 rfl (Nat.le_of_eq rfl) rfl (by decide) (by decide) (by decide) (by decide) rfl at_92 rfl ?_
    intro T150 v150 L150 X150 q150
    obtain ⟨rfl, N150q, K150, P150_0, P150_1, P150_2⟩ := q150
    have N150 := Fr.app N139 N150q
    refine Go.astore (Ls' := #[.val (.int p1), .val (.int p2), .val (.int p3), .val (.int p4), .val (.int (1 : Int32)), .val (.ref kv_101), .val (.ref kv_102), .val (.ref kv_103), .val (.ref b104), .val (.ref b118), .val (.ref b133), .val (.ref b148), .unset, .unset]) (pc' := 97) C X150 at_95 rfl rfl rfl ?_
    refine Go.aload (pc' := 99) C X150 at_97 rfl rfl rfl ?_
    refine Go.aload (pc' := 101) C X150 at_99 rfl rfl rfl ?_
    have c153 : Exa Z T150.heap b148 "java/util/ArrayList" := (Exa.keep A148 K150)
    have c154 : Exa Z T150.heap b104 "com/example/barrault/barrault/model/PathPattern$Step" := (Exa.keep (Exa.ext E148 (Exa.keep (Exa.keep (Exa.ext E135 (Exa.ext E133 (Exa.keep (Exa.keep (Exa.ext E120 (Exa.ext E118 (Exa.keep c110 K109))) K122) K124))) K137) K139)) K150)
    have O155 : Ext Z.heap T150.heap := (Ext.keep O151 K150 (allS n_b148 all0))
    refine Go.callF (y := (⟨"java/util/List", "add", "(Ljava/lang/Object;)Z"⟩ : MethodName)) (z := (⟨"java/util/ArrayList", "add", "(Ljava/lang/Object;)Z"⟩ : MethodName)) (a := b148) (pc' := 106) C X150 (tw hw 87 rfl) (tw hw 88 rfl) (tw hw 89 rfl) (tw hw 90 rfl) (tw hw 91 rfl) (tw hw 92 rfl) (tw hw 93 rfl) (tw hw 94 rfl) rfl c153 (by decide) (rm_add0 l Z a0 hw b148 b104 dc kd ((0 : Int32)) T150.heap O155 c153 c154 P150_0 P150_2 P150_1 SD AD n_b148) (tw hw 95 rfl) (tw hw 17 rfl) rfl (argsL := [(.ref b104)]) (rest := []) (W := 0) rfl rfl pd_20 rfl (Nat.le_of_eq rfl) rfl (by decide) (by decide) (by decide) (by decide) at_101 rfl ?_
    intro T152 v152 L152 X152 q152
    obtain ⟨w_152, kw_152, rfl, N152q, K152, B152_0, P152_0, P152_1, P152_2, P152_3, P152_4, p152_0⟩ := q152
    have N152 := Fr.app N150 N152q
    have n_w_152 : Z.heap.size ≤ w_152 := Nat.le_trans O155.1 B152_0
    have z_w_152 : h0.size ≤ w_152 := Nat.le_trans (Nat.le_trans (Nat.le_trans (Nat.le_trans (Nat.le_trans (Nat.le_trans (Nat.le_trans (Nat.le_trans (Nat.le_trans (Nat.le_trans (Nat.le_trans (Nat.le_trans (Nat.le_trans (Nat.le_trans (Nat.le_trans (Nat.le_refl _) E104.1) E105.1) K107.1) K109.1) E118.1) E120.1) K122.1) K124.1) E133.1) E135.1) K137.1) K139.1) E148.1) K150.1) B152_0
    refine Go.pop (pc' := 107) C X152 at_106 rfl rfl ?_
    refine Go.iload (pc' := 109) C X152 at_107 rfl rfl ?_
    refine Go.iconst (z := (2 : Int32)) (pc' := 110) C X152 at_109 rfl rfl ?_
    refine Go.icmpYes (pc' := 123) C X152 at_110 (tlt (x := (1 : Int32)) (y := (2 : Int32)) (by decide)).1 (by decide) (by decide) ?_
    refine Go.iload (pc' := 125) C X152 at_123 rfl rfl ?_
    refine Go.iconst (z := (3 : Int32)) (pc' := 126) C X152 at_125 rfl rfl ?_
    refine Go.icmpYes (pc' := 139) C X152 at_126 (tlt (x := (1 : Int32)) (y := (3 : Int32)) (by decide)).1 (by decide) (by decide) ?_
    have O159 : Ext Z.heap T152.heap := (Ext.keep O155 K152 (allS n_b148 all0))
    refine Go.newO (pc' := 142) C X152 (tw hw 120 rfl) (tw hw 121 rfl) (tw hw 122 rfl) rfl (by decide) (by decide) at_139 rfl ?_
    intro T158 h158 b158 X158 e158 g158 E158 A158 D158
    have n_b158 : Z.heap.size ≤ b158 := Nat.le_trans O159.1 (Nat.le_of_eq g158.symm)
    have z_b158 : h0.size ≤ b158 := Nat.le_trans (Nat.le_trans (Nat.le_trans (Nat.le_trans (Nat.le_trans (Nat.le_trans (Nat.le_trans (Nat.le_trans (Nat.le_trans (Nat.le_trans (Nat.le_trans (Nat.le_trans (Nat.le_trans (Nat.le_trans (Nat.le_trans (Nat.le_trans (Nat.le_refl _) E104.1) E105.1) K107.1) K109.1) E118.1) E120.1) K122.1) K124.1) E133.1) E135.1) K137.1) K139.1) E148.1) K150.1) K152.1) (Nat.le_of_eq g158.symm)
    have F158_text : Fld Z h158 b158 "com/example/barrault/barrault/model/PathPattern" "text" "Ljava/lang/String;" .null := D158 (Or.inr (tw hw 200 rfl)) (ty := (.object "java/lang/String")) (by decide)
    have F158_steps : Fld Z h158 b158 "com/example/barrault/barrault/model/PathPattern" "steps" "Ljava/util/List;" .null := D158 (Or.inr (tw hw 202 rfl)) (ty := (.object "java/util/List")) (by decide)
    refine Go.dup (pc' := 143) C X158 at_142 rfl rfl ?_
    have O161 : Ext Z.heap h158 := (Ext.trans O159 E158)
    have Si162 : Sin s s h158 := Sin.mono Si0 (Nat.le_trans (Nat.le_trans (Nat.le_trans (Nat.le_trans (Nat.le_trans (Nat.le_trans (Nat.le_trans (Nat.le_trans (Nat.le_trans (Nat.le_trans (Nat.le_trans (Nat.le_trans (Nat.le_trans (Nat.le_trans (Nat.le_trans (Nat.le_trans (Nat.le_refl _) E104.1) E105.1) K107.1) K109.1) E118.1) E120.1) K122.1) K124.1) E133.1) E135.1) K137.1) K139.1) E148.1) K150.1) K152.1) E158.1)
    refine Go.ldcW (pc' := 145) (n := 0) C X158 Si162 (tw hw 123 rfl) (wS hw) e158 (by decide) (by decide) (by decide) (by decide) at_143 rfl ?_
    intro T160 h160 b160 sC160 C160 X160 e160 Si160 E160
    refine Go.aload (pc' := 147) C160 X160 at_145 rfl rfl rfl ?_
    have c164 : Exa Z h160 b158 "com/example/barrault/barrault/model/PathPattern" := (Exa.ext E160 A158)
    have c165 : Fld Z h160 b158 "com/example/barrault/barrault/model/PathPattern" "text" "Ljava/lang/String;" .null := (Fld.ext E160 F158_text)
    have c166 : Fld Z h160 b158 "com/example/barrault/barrault/model/PathPattern" "steps" "Ljava/util/List;" .null := (Fld.ext E160 F158_steps)
    have c167 : Exa Z h160 b148 "java/util/ArrayList" := (Exa.ext E160 (Exa.ext E158 (Exa.keep c153 K152)))
    have c168 : Fld Z h160 b148 "java/util/ArrayList" "elementData" "[Ljava/lang/Object;" (.ref w_152) := (Fld.ext E160 (Fld.ext E158 P152_1))
    have c169 : Fld Z h160 b148 "java/util/ArrayList" "size" "I" (.int (1 : Int32)) := (Fld.ext E160 (Fld.ext E158 P152_2))
    have c170 : Exa Z h160 w_152 "[Ljava/lang/Object;" := (Exa.ext E160 (Exa.ext E158 P152_4))
    have c171 : AL Z h160 w_152 kw_152 (.object "java/lang/Object") [(.ref b104), .null, .null, .null, .null, .null, .null, .null, .null, .null] := (AL.ext E160 (AL.ext E158 P152_3))
    have c172 : Exa Z h160 b104 "com/example/barrault/barrault/model/PathPattern$Step" := (Exa.ext E160 (Exa.ext E158 (Exa.keep c154 K152)))
    have O173 : Ext Z.heap h160 := (Ext.trans O161 E160)
    refine Go.callI (y := (⟨"com/example/barrault/barrault/model/PathPattern", "<init>", "(Ljava/lang/String;Ljava/util/List;)V"⟩ : MethodName)) (a := b158) (pc' := 150) C160 X160 rfl (tw hw 131 rfl) (tw hw 132 rfl) (by decide) (rm_jI1 l Z a0 hw b158 b160 b148 b104 w_152 kw_152 mr em h160 O173 c164 c165 c166 c167 c168 c169 c170 c171 c172 SE hM n_b158) (tw hw 133 rfl) (tw hw 122 rfl) e160 (argsL := [(.ref b160), (.ref b148)]) (rest := [(.ref b158)]) (W := 1) rfl rfl pd_21 rfl (Nat.le_of_eq rfl) rfl (by decide) (by decide) (by decide) (by decide) rfl at_147 rfl ?_
    intro T163 v163 L163 X163 q163
    obtain ⟨r_163, rfl, N163q, K163, B163_0, P163_0, P163_1, P163_2, P163_3⟩ := q163
    have N163 := Fr.app N152 N163q
    have n_r_163 : Z.heap.size ≤ r_163 := Nat.le_trans O173.1 B163_0
    have z_r_163 : h0.size ≤ r_163 := Nat.le_trans (Nat.le_trans (Nat.le_trans (Nat.le_trans (Nat.le_trans (Nat.le_trans (Nat.le_trans (Nat.le_trans (Nat.le_trans (Nat.le_trans (Nat.le_trans (Nat.le_trans (Nat.le_trans (Nat.le_trans (Nat.le_trans (Nat.le_trans (Nat.le_trans (Nat.le_trans (Nat.le_refl _) E104.1) E105.1) K107.1) K109.1) E118.1) E120.1) K122.1) K124.1) E133.1) E135.1) K137.1) K139.1) E148.1) K150.1) K152.1) E158.1) E160.1) B163_0
    refine Go.astore (Ls' := #[.val (.int p1), .val (.int p2), .val (.int p3), .val (.int p4), .val (.int (1 : Int32)), .val (.ref kv_101), .val (.ref kv_102), .val (.ref kv_103), .val (.ref b104), .val (.ref b118), .val (.ref b133), .val (.ref b148), .val (.ref b158), .unset]) (pc' := 152) C160 X163 at_150 rfl rfl rfl ?_
    refine Go.iload (pc' := 154) C160 X163 at_152 rfl rfl ?_
    refine Go.iconst (z := (1 : Int32)) (pc' := 155) C160 X163 at_154 rfl rfl ?_
    refine Go.icmpNo (pc' := 158) C160 X163 at_155 (teq (x := (1 : Int32)) (y := (1 : Int32)) (by decide)).2 rfl ?_
    refine Go.aload (pc' := 160) C160 X163 at_158 rfl rfl rfl ?_
    refine Go.astore (Ls' := #[.val (.int p1), .val (.int p2), .val (.int p3), .val (.int p4), .val (.int (1 : Int32)), .val (.ref kv_101), .val (.ref kv_102), .val (.ref kv_103), .val (.ref b104), .val (.ref b118), .val (.ref b133), .val (.ref b148), .val (.ref b158), .val (.ref kv_101)]) (pc' := 162) C160 X163 at_160 rfl rfl rfl ?_
    refine Go.goto (pc' := 182) C160 X163 at_162 (by decide) (by decide) ?_
    by_cases hke : kv_101 = ke
    · refine Go.aload (pc' := 184) C160 X163 at_182 rfl rfl rfl ?_
      have c176 : Exa Z T163.heap b104 "com/example/barrault/barrault/model/PathPattern$Step" := (Exa.keep c172 K163)
      have ne177 : b104 ≠ b120 := Nat.ne_of_lt (Nat.lt_of_lt_of_le A104.lt (Nat.le_trans (Nat.le_trans (Nat.le_trans (Nat.le_trans (Nat.le_trans (Nat.le_refl _) E105.1) K107.1) K109.1) E118.1) (Nat.le_of_eq g120.symm)))
      have ne178 : b104 ≠ b118 := Nat.ne_of_lt (Nat.lt_of_lt_of_le A104.lt (Nat.le_trans (Nat.le_trans (Nat.le_trans (Nat.le_trans (Nat.le_refl _) E105.1) K107.1) K109.1) (Nat.le_of_eq g118.symm)))
      have ne179 : b104 ≠ b135 := Nat.ne_of_lt (Nat.lt_of_lt_of_le A104.lt (Nat.le_trans (Nat.le_trans (Nat.le_trans (Nat.le_trans (Nat.le_trans (Nat.le_trans (Nat.le_trans (Nat.le_trans (Nat.le_trans (Nat.le_refl _) E105.1) K107.1) K109.1) E118.1) E120.1) K122.1) K124.1) E133.1) (Nat.le_of_eq g135.symm)))
      have ne180 : b104 ≠ b133 := Nat.ne_of_lt (Nat.lt_of_lt_of_le A104.lt (Nat.le_trans (Nat.le_trans (Nat.le_trans (Nat.le_trans (Nat.le_trans (Nat.le_trans (Nat.le_trans (Nat.le_trans (Nat.le_refl _) E105.1) K107.1) K109.1) E118.1) E120.1) K122.1) K124.1) (Nat.le_of_eq g133.symm)))
      have ne181 : b104 ≠ b148 := Nat.ne_of_lt (Nat.lt_of_lt_of_le A104.lt (Nat.le_trans (Nat.le_trans (Nat.le_trans (Nat.le_trans (Nat.le_trans (Nat.le_trans (Nat.le_trans (Nat.le_trans (Nat.le_trans (Nat.le_trans (Nat.le_trans (Nat.le_trans (Nat.le_refl _) E105.1) K107.1) K109.1) E118.1) E120.1) K122.1) K124.1) E133.1) E135.1) K137.1) K139.1) (Nat.le_of_eq g148.symm)))
      have ne182 : b104 ≠ b158 := Nat.ne_of_lt (Nat.lt_of_lt_of_le A104.lt (Nat.le_trans (Nat.le_trans (Nat.le_trans (Nat.le_trans (Nat.le_trans (Nat.le_trans (Nat.le_trans (Nat.le_trans (Nat.le_trans (Nat.le_trans (Nat.le_trans (Nat.le_trans (Nat.le_trans (Nat.le_trans (Nat.le_trans (Nat.le_refl _) E105.1) K107.1) K109.1) E118.1) E120.1) K122.1) K124.1) E133.1) E135.1) K137.1) K139.1) E148.1) K150.1) K152.1) (Nat.le_of_eq g158.symm)))
      have c183 : Fld Z T163.heap b104 "com/example/barrault/barrault/model/PathPattern$Step" "kind" "Lcom/example/barrault/barrault/model/PathPattern$Kind;" (.ref kv_101) := (Fld.keep (Fld.ext E160 (Fld.ext E158 (Fld.keep (Fld.keep (Fld.ext E148 (Fld.keep (Fld.keep (Fld.ext E135 (Fld.ext E133 (Fld.keep (Fld.keep (Fld.ext E120 (Fld.ext E118 P109_0)) K122 (ninS ne177 nin0)) K124 (ninS ne178 nin0)))) K137 (ninS ne179 nin0)) K139 (ninS ne180 nin0))) K150 (ninS ne181 nin0)) K152 (ninS ne181 nin0)))) K163 (ninS ne182 nin0))
      have O184 : Ext Z.heap T163.heap := (Ext.keep O173 K163 (allS n_b158 all0))
      have c185 : Exa Z T163.heap b158 "com/example/barrault/barrault/model/PathPattern" := (Exa.keep c164 K163)
      refine Go.callV (y := (⟨"com/example/barrault/barrault/model/PathPattern", "selectsElements", "()Z"⟩ : MethodName)) (z := (⟨"com/example/barrault/barrault/model/PathPattern", "selectsElements", "()Z"⟩ : MethodName)) (a := b158) (pc' := 187) C160 X163 (tw hw 203 rfl) (tw hw 204 rfl) (notFace_at C160.2.1 (tw hw 206 rfl)) (tw hw 206 rfl) (tw hw 205 rfl) c185 (by decide) (rm_se1 l Z a0 hw b158 kv_101 ke r_163 em b104 T163.heap O184 P163_0 P163_1 P163_2 P163_3 SE c176 c183 SK0) (tw hw 207 rfl) (tw hw 122 rfl) rfl (argsL := []) (rest := []) (W := 0) rfl rfl pd_12 rfl (Nat.le_of_eq rfl) rfl (by decide) (by decide) (by decide) (by decide) at_184 rfl ?_
      intro T175 v175 L175 X175 q175
      obtain ⟨rfl, rfl, e175⟩ := q175
      have N175 := Fr.app N163 (Fr.nil _)
      refine Go.aload (pc' := 189) C160 X175 at_187 rfl rfl rfl ?_
      refine Go.getS (pc' := 192) (host := "") C160 X175 (Or.inl (tw hw 5 rfl)) Via.refl e175 (SK0.ext O184) at_189 rfl ?_
      intro T186 X186 e186
      refine Go.acmpNo (pc' := 195) C160 X186 at_192 rfl rfl (XT.aa_ne_f (congrArg Value.ref hke)) rfl ?_
      refine Go.iconst (z := (1 : Int32)) (pc' := 196) C160 X186 at_195 rfl rfl ?_
      refine Go.goto (pc' := 200) C160 X186 at_196 (by decide) (by decide) ?_
      refine Go.icmpNo (pc' := 203) C160 X186 at_200 (teq (x := (if kv_101 = ke then (1 : Int32) else 0)) (y := (1 : Int32)) (if_pos hke)).2 rfl ?_
      refine Go.iconst (z := (1 : Int32)) (pc' := 204) C160 X186 at_203 rfl rfl ?_
      refine Go.goto (pc' := 208) C160 X186 at_204 (by decide) (by decide) ?_
      have K188 : Keep h0 T163.heap [] := (((((((((((((((((((Keep.refl h0 []).ext E104).ext E105).trans K107 (allS (Or.inr z_b105) all0)).trans K109 (allS (Or.inr z_b104) all0)).ext E118).ext E120).trans K122 (allS (Or.inr z_b120) all0)).trans K124 (allS (Or.inr z_b118) all0)).ext E133).ext E135).trans K137 (allS (Or.inr z_b135) all0)).trans K139 (allS (Or.inr z_b133) all0)).ext E148).trans K150 (allS (Or.inr z_b148) all0)).trans K152 (allS (Or.inr z_b148) all0)).ext E158).ext E160).trans K163 (allS (Or.inr z_b158) all0))
      have Si189 : Sin s sC160 T163.heap := Sin.mono Si160 (Nat.le_trans (Nat.le_refl _) K163.1)
      exact Go.retNW C160 X186 (by rw [e186]; exact Si189) rfl at_208 (by simp) (by rw [e186]; exact ⟨rfl, N175, K188⟩) (by decide) (by decide)
    · refine Go.aload (pc' := 184) C160 X163 at_182 rfl rfl rfl ?_
      have c191 : Exa Z T163.heap b104 "com/example/barrault/barrault/model/PathPattern$Step" := (Exa.keep c172 K163)
      have ne192 : b104 ≠ b120 := Nat.ne_of_lt (Nat.lt_of_lt_of_le A104.lt (Nat.le_trans (Nat.le_trans (Nat.le_trans (Nat.le_trans (Nat.le_trans (Nat.le_refl _) E105.1) K107.1) K109.1) E118.1) (Nat.le_of_eq g120.symm)))
      have ne193 : b104 ≠ b118 := Nat.ne_of_lt (Nat.lt_of_lt_of_le A104.lt (Nat.le_trans (Nat.le_trans (Nat.le_trans (Nat.le_trans (Nat.le_refl _) E105.1) K107.1) K109.1) (Nat.le_of_eq g118.symm)))
      have ne194 : b104 ≠ b135 := Nat.ne_of_lt (Nat.lt_of_lt_of_le A104.lt (Nat.le_trans (Nat.le_trans (Nat.le_trans (Nat.le_trans (Nat.le_trans (Nat.le_trans (Nat.le_trans (Nat.le_trans (Nat.le_trans (Nat.le_refl _) E105.1) K107.1) K109.1) E118.1) E120.1) K122.1) K124.1) E133.1) (Nat.le_of_eq g135.symm)))
      have ne195 : b104 ≠ b133 := Nat.ne_of_lt (Nat.lt_of_lt_of_le A104.lt (Nat.le_trans (Nat.le_trans (Nat.le_trans (Nat.le_trans (Nat.le_trans (Nat.le_trans (Nat.le_trans (Nat.le_trans (Nat.le_refl _) E105.1) K107.1) K109.1) E118.1) E120.1) K122.1) K124.1) (Nat.le_of_eq g133.symm)))
      have ne196 : b104 ≠ b148 := Nat.ne_of_lt (Nat.lt_of_lt_of_le A104.lt (Nat.le_trans (Nat.le_trans (Nat.le_trans (Nat.le_trans (Nat.le_trans (Nat.le_trans (Nat.le_trans (Nat.le_trans (Nat.le_trans (Nat.le_trans (Nat.le_trans (Nat.le_trans (Nat.le_refl _) E105.1) K107.1) K109.1) E118.1) E120.1) K122.1) K124.1) E133.1) E135.1) K137.1) K139.1) (Nat.le_of_eq g148.symm)))
      have ne197 : b104 ≠ b158 := Nat.ne_of_lt (Nat.lt_of_lt_of_le A104.lt (Nat.le_trans (Nat.le_trans (Nat.le_trans (Nat.le_trans (Nat.le_trans (Nat.le_trans (Nat.le_trans (Nat.le_trans (Nat.le_trans (Nat.le_trans (Nat.le_trans (Nat.le_trans (Nat.le_trans (Nat.le_trans (Nat.le_trans (Nat.le_refl _) E105.1) K107.1) K109.1) E118.1) E120.1) K122.1) K124.1) E133.1) E135.1) K137.1) K139.1) E148.1) K150.1) K152.1) (Nat.le_of_eq g158.symm)))
      have c198 : Fld Z T163.heap b104 "com/example/barrault/barrault/model/PathPattern$Step" "kind" "Lcom/example/barrault/barrault/model/PathPattern$Kind;" (.ref kv_101) := (Fld.keep (Fld.ext E160 (Fld.ext E158 (Fld.keep (Fld.keep (Fld.ext E148 (Fld.keep (Fld.keep (Fld.ext E135 (Fld.ext E133 (Fld.keep (Fld.keep (Fld.ext E120 (Fld.ext E118 P109_0)) K122 (ninS ne192 nin0)) K124 (ninS ne193 nin0)))) K137 (ninS ne194 nin0)) K139 (ninS ne195 nin0))) K150 (ninS ne196 nin0)) K152 (ninS ne196 nin0)))) K163 (ninS ne197 nin0))
      have O199 : Ext Z.heap T163.heap := (Ext.keep O173 K163 (allS n_b158 all0))
      have c200 : Exa Z T163.heap b158 "com/example/barrault/barrault/model/PathPattern" := (Exa.keep c164 K163)
      refine Go.callV (y := (⟨"com/example/barrault/barrault/model/PathPattern", "selectsElements", "()Z"⟩ : MethodName)) (z := (⟨"com/example/barrault/barrault/model/PathPattern", "selectsElements", "()Z"⟩ : MethodName)) (a := b158) (pc' := 187) C160 X163 (tw hw 203 rfl) (tw hw 204 rfl) (notFace_at C160.2.1 (tw hw 206 rfl)) (tw hw 206 rfl) (tw hw 205 rfl) c200 (by decide) (rm_se1 l Z a0 hw b158 kv_101 ke r_163 em b104 T163.heap O199 P163_0 P163_1 P163_2 P163_3 SE c191 c198 SK0) (tw hw 207 rfl) (tw hw 122 rfl) rfl (argsL := []) (rest := []) (W := 0) rfl rfl pd_12 rfl (Nat.le_of_eq rfl) rfl (by decide) (by decide) (by decide) (by decide) at_184 rfl ?_
      intro T190 v190 L190 X190 q190
      obtain ⟨rfl, rfl, e190⟩ := q190
      have N190 := Fr.app N163 (Fr.nil _)
      refine Go.aload (pc' := 189) C160 X190 at_187 rfl rfl rfl ?_
      refine Go.getS (pc' := 192) (host := "") C160 X190 (Or.inl (tw hw 5 rfl)) Via.refl e190 (SK0.ext O199) at_189 rfl ?_
      intro T201 X201 e201
      refine Go.acmpYes (pc' := 199) C160 X201 at_192 rfl rfl (XT.aa_ne_t (fun q => hke (Value.ref.inj q))) (by decide) (by decide) ?_
      refine Go.iconst (z := (0 : Int32)) (pc' := 200) C160 X201 at_199 rfl rfl ?_
      refine Go.icmpNo (pc' := 203) C160 X201 at_200 (teq (x := (if kv_101 = ke then (1 : Int32) else 0)) (y := (0 : Int32)) (if_neg hke)).2 rfl ?_
      refine Go.iconst (z := (1 : Int32)) (pc' := 204) C160 X201 at_203 rfl rfl ?_
      refine Go.goto (pc' := 208) C160 X201 at_204 (by decide) (by decide) ?_
      have K203 : Keep h0 T163.heap [] := (((((((((((((((((((Keep.refl h0 []).ext E104).ext E105).trans K107 (allS (Or.inr z_b105) all0)).trans K109 (allS (Or.inr z_b104) all0)).ext E118).ext E120).trans K122 (allS (Or.inr z_b120) all0)).trans K124 (allS (Or.inr z_b118) all0)).ext E133).ext E135).trans K137 (allS (Or.inr z_b135) all0)).trans K139 (allS (Or.inr z_b133) all0)).ext E148).trans K150 (allS (Or.inr z_b148) all0)).trans K152 (allS (Or.inr z_b148) all0)).ext E158).ext E160).trans K163 (allS (Or.inr z_b158) all0))
      have Si204 : Sin s sC160 T163.heap := Sin.mono Si160 (Nat.le_trans (Nat.le_refl _) K163.1)
      exact Go.retNW C160 X201 (by rw [e201]; exact Si204) rfl at_208 (by simp) (by rw [e201]; exact ⟨rfl, N190, K203⟩) (by decide) (by decide)
  · rw [hl]
    refine Go.iadd (pc' := 8) C X0 at_7 rfl ?_
    rw [show ((1 : Int32) + (1 : Int32)) = (2 : Int32) from by decide]
    refine Go.istore (Ls' := #[.val (.int p1), .val (.int p2), .val (.int p3), .val (.int p4), .val (.int (2 : Int32)), .unset, .unset, .unset, .unset, .unset, .unset, .unset, .unset, .unset]) (pc' := 10) C X0 at_8 rfl rfl ?_
    refine Go.iloadN (pc' := 11) C X0 at_10 rfl rfl ?_
    refine Go.callS (y := (⟨"com/example/barrault/barrault/model/PathPatternSelectsElementsPinLaw", "kind", "(I)Lcom/example/barrault/barrault/model/PathPattern$Kind;"⟩ : MethodName)) (pc' := 14) C X0 (tw hw 1 rfl) (tw hw 2 rfl) (by decide) (rm_kind l Z a0 hw p2 ke ka kt h0 O0 SK0 SK1 SK2) (tw hw 4 rfl) (tw hw 3 rfl) e0 (argsL := [(.int p2)]) (rest := []) (W := 0) rfl rfl pd_18 rfl (Nat.le_of_eq rfl) rfl (by decide) (by decide) (by decide) (by decide) at_11 rfl ?_
    intro T205 v205 L205 X205 q205
    obtain ⟨kv_205, rfl, rfl, e205⟩ := q205
    have N205 := Fr.app N0 (Fr.nil _)
    refine Go.astore (Ls' := #[.val (.int p1), .val (.int p2), .val (.int p3), .val (.int p4), .val (.int (2 : Int32)), .val (.ref kv_205), .unset, .unset, .unset, .unset, .unset, .unset, .unset, .unset]) (pc' := 16) C X205 at_14 rfl rfl rfl ?_
    refine Go.iloadN (pc' := 17) C X205 at_16 rfl rfl ?_
    refine Go.callS (y := (⟨"com/example/barrault/barrault/model/PathPatternSelectsElementsPinLaw", "kind", "(I)Lcom/example/barrault/barrault/model/PathPattern$Kind;"⟩ : MethodName)) (pc' := 20) C X205 (tw hw 1 rfl) (tw hw 2 rfl) (by decide) (rm_kind l Z a0 hw p3 ke ka kt h0 O0 SK0 SK1 SK2) (tw hw 4 rfl) (tw hw 3 rfl) e205 (argsL := [(.int p3)]) (rest := []) (W := 0) rfl rfl pd_18 rfl (Nat.le_of_eq rfl) rfl (by decide) (by decide) (by decide) (by decide) at_17 rfl ?_
    intro T206 v206 L206 X206 q206
    obtain ⟨kv_206, rfl, rfl, e206⟩ := q206
    have N206 := Fr.app N205 (Fr.nil _)
    refine Go.astore (Ls' := #[.val (.int p1), .val (.int p2), .val (.int p3), .val (.int p4), .val (.int (2 : Int32)), .val (.ref kv_205), .val (.ref kv_206), .unset, .unset, .unset, .unset, .unset, .unset, .unset]) (pc' := 22) C X206 at_20 rfl rfl rfl ?_
    refine Go.iloadN (pc' := 23) C X206 at_22 rfl rfl ?_
    refine Go.callS (y := (⟨"com/example/barrault/barrault/model/PathPatternSelectsElementsPinLaw", "kind", "(I)Lcom/example/barrault/barrault/model/PathPattern$Kind;"⟩ : MethodName)) (pc' := 26) C X206 (tw hw 1 rfl) (tw hw 2 rfl) (by decide) (rm_kind l Z a0 hw p4 ke ka kt h0 O0 SK0 SK1 SK2) (tw hw 4 rfl) (tw hw 3 rfl) e206 (argsL := [(.int p4)]) (rest := []) (W := 0) rfl rfl pd_18 rfl (Nat.le_of_eq rfl) rfl (by decide) (by decide) (by decide) (by decide) at_23 rfl ?_
    intro T207 v207 L207 X207 q207
    obtain ⟨kv_207, rfl, rfl, e207⟩ := q207
    have N207 := Fr.app N206 (Fr.nil _)
    refine Go.astore (Ls' := #[.val (.int p1), .val (.int p2), .val (.int p3), .val (.int p4), .val (.int (2 : Int32)), .val (.ref kv_205), .val (.ref kv_206), .val (.ref kv_207), .unset, .unset, .unset, .unset, .unset, .unset]) (pc' := 28) C X207 at_26 rfl rfl rfl ?_
    refine Go.newO (pc' := 31) C X207 (tw hw 12 rfl) (tw hw 13 rfl) (tw hw 14 rfl) e207 (by decide) (by decide) at_28 rfl ?_
    intro T208 h208 b208 X208 e208 g208 E208 A208 D208
    have n_b208 : Z.heap.size ≤ b208 := Nat.le_trans O0.1 (Nat.le_of_eq g208.symm)
    have z_b208 : h0.size ≤ b208 := Nat.le_trans (Nat.le_refl _) (Nat.le_of_eq g208.symm)
    have F208_axis : Fld Z h208 b208 "com/example/barrault/barrault/model/PathPattern$Step" "axis" "Lcom/example/barrault/barrault/model/PathPattern$Axis;" .null := D208 (Or.inr (tw hw 80 rfl)) (ty := (.object "com/example/barrault/barrault/model/PathPattern$Axis")) (by decide)
    have F208_kind : Fld Z h208 b208 "com/example/barrault/barrault/model/PathPattern$Step" "kind" "Lcom/example/barrault/barrault/model/PathPattern$Kind;" .null := D208 (Or.inr (tw hw 82 rfl)) (ty := (.object "com/example/barrault/barrault/model/PathPattern$Kind")) (by decide)
    have F208_name : Fld Z h208 b208 "com/example/barrault/barrault/model/PathPattern$Step" "name" "Ljava/lang/String;" .null := D208 (Or.inr (tw hw 84 rfl)) (ty := (.object "java/lang/String")) (by decide)
    have F208_predicates : Fld Z h208 b208 "com/example/barrault/barrault/model/PathPattern$Step" "predicates" "Ljava/util/List;" .null := D208 (Or.inr (tw hw 86 rfl)) (ty := (.object "java/util/List")) (by decide)
    refine Go.dup (pc' := 32) C X208 at_31 rfl rfl ?_
    refine Go.aconstNull (pc' := 33) C X208 at_32 rfl ?_
    refine Go.aload (pc' := 35) C X208 at_33 rfl rfl rfl ?_
    refine Go.aconstNull (pc' := 36) C X208 at_35 rfl ?_
    have O210 : Ext Z.heap h208 := (Ext.trans O0 E208)
    refine Go.newO (pc' := 39) C X208 (tw hw 15 rfl) (tw hw 16 rfl) (tw hw 17 rfl) e208 (by decide) (by decide) at_36 rfl ?_
    intro T209 h209 b209 X209 e209 g209 E209 A209 D209
    have n_b209 : Z.heap.size ≤ b209 := Nat.le_trans O210.1 (Nat.le_of_eq g209.symm)
    have z_b209 : h0.size ≤ b209 := Nat.le_trans (Nat.le_trans (Nat.le_refl _) E208.1) (Nat.le_of_eq g209.symm)
    have F209_modCount : Fld Z h209 b209 "java/util/AbstractList" "modCount" "I" (.int (0 : Int32)) := D209 (Or.inl (tw hw 37 rfl)) (ty := .int) (by decide)
    have F209_elementData : Fld Z h209 b209 "java/util/ArrayList" "elementData" "[Ljava/lang/Object;" .null := D209 (Or.inl (tw hw 40 rfl)) (ty := (.array (.object "java/lang/Object"))) (by decide)
    have F209_size : Fld Z h209 b209 "java/util/ArrayList" "size" "I" (.int (0 : Int32)) := D209 (Or.inl (tw hw 74 rfl)) (ty := .int) (by decide)
    refine Go.dup (pc' := 40) C X209 at_39 rfl rfl ?_
    have O212 : Ext Z.heap h209 := (Ext.trans O210 E209)
    refine Go.callI (y := (⟨"java/util/ArrayList", "<init>", "()V"⟩ : MethodName)) (a := b209) (pc' := 43) C X209 rfl (tw hw 18 rfl) (tw hw 19 rfl) (by decide) (rm_alI l Z a0 hw b209 dc h209 O212 A209 F209_modCount F209_elementData F209_size SD n_b209) (tw hw 20 rfl) (tw hw 17 rfl) e209 (argsL := []) (rest := [(.ref b209), .null, (.ref kv_205), .null, (.ref b208), (.ref b208)]) (W := 6) rfl rfl pd_0 rfl (Nat.le_of_eq rfl) rfl (by decide) (by decide) (by decide) (by decide) rfl at_40 rfl ?_
    intro T211 v211 L211 X211 q211
    obtain ⟨rfl, N211q, K211, P211_0, P211_1, P211_2⟩ := q211
    have N211 := Fr.app N207 N211q
    have c214 : Exa Z T211.heap b208 "com/example/barrault/barrault/model/PathPattern$Step" := (Exa.keep (Exa.ext E209 A208) K211)
    have ne215 : b208 ≠ b209 := Nat.ne_of_lt (Nat.lt_of_lt_of_le A208.lt (Nat.le_trans (Nat.le_refl _) (Nat.le_of_eq g209.symm)))
    have c216 : Fld Z T211.heap b208 "com/example/barrault/barrault/model/PathPattern$Step" "axis" "Lcom/example/barrault/barrault/model/PathPattern$Axis;" .null := (Fld.keep (Fld.ext E209 F208_axis) K211 (ninS ne215 nin0))
    have c217 : Fld Z T211.heap b208 "com/example/barrault/barrault/model/PathPattern$Step" "kind" "Lcom/example/barrault/barrault/model/PathPattern$Kind;" .null := (Fld.keep (Fld.ext E209 F208_kind) K211 (ninS ne215 nin0))
    have c218 : Fld Z T211.heap b208 "com/example/barrault/barrault/model/PathPattern$Step" "name" "Ljava/lang/String;" .null := (Fld.keep (Fld.ext E209 F208_name) K211 (ninS ne215 nin0))
    have c219 : Fld Z T211.heap b208 "com/example/barrault/barrault/model/PathPattern$Step" "predicates" "Ljava/util/List;" .null := (Fld.keep (Fld.ext E209 F208_predicates) K211 (ninS ne215 nin0))
    have c220 : Exa Z T211.heap b209 "java/util/ArrayList" := (Exa.keep A209 K211)
    have O221 : Ext Z.heap T211.heap := (Ext.keep O212 K211 (allS n_b209 all0))
    refine Go.callI (y := (⟨"com/example/barrault/barrault/model/PathPattern$Step", "<init>", "(Lcom/example/barrault/barrault/model/PathPattern$Axis;Lcom/example/barrault/barrault/model/PathPattern$Kind;Ljava/lang/String;Ljava/util/List;)V"⟩ : MethodName)) (a := b208) (pc' := 46) C X211 rfl (tw hw 41 rfl) (tw hw 42 rfl) (by decide) (rm_stI l Z a0 hw b208 kv_205 b209 dc el T211.heap O221 c214 c216 c217 c218 c219 c220 P211_1 P211_2 SL n_b208) (tw hw 43 rfl) (tw hw 14 rfl) rfl (argsL := [.null, (.ref kv_205), .null, (.ref b209)]) (rest := [(.ref b208)]) (W := 1) rfl rfl pd_19 rfl (Nat.le_of_eq rfl) rfl (by decide) (by decide) (by decide) (by decide) rfl at_43 rfl ?_
    intro T213 v213 L213 X213 q213
    obtain ⟨rfl, N213q, K213, P213_0⟩ := q213
    have N213 := Fr.app N211 N213q
    refine Go.astore (Ls' := #[.val (.int p1), .val (.int p2), .val (.int p3), .val (.int p4), .val (.int (2 : Int32)), .val (.ref kv_205), .val (.ref kv_206), .val (.ref kv_207), .val (.ref b208), .unset, .unset, .unset, .unset, .unset]) (pc' := 48) C X213 at_46 rfl rfl rfl ?_
    have O223 : Ext Z.heap T213.heap := (Ext.keep O221 K213 (allS n_b208 all0))
    refine Go.newO (pc' := 51) C X213 (tw hw 12 rfl) (tw hw 13 rfl) (tw hw 14 rfl) rfl (by decide) (by decide) at_48 rfl ?_
    intro T222 h222 b222 X222 e222 g222 E222 A222 D222
    have n_b222 : Z.heap.size ≤ b222 := Nat.le_trans O223.1 (Nat.le_of_eq g222.symm)
    have z_b222 : h0.size ≤ b222 := Nat.le_trans (Nat.le_trans (Nat.le_trans (Nat.le_trans (Nat.le_trans (Nat.le_refl _) E208.1) E209.1) K211.1) K213.1) (Nat.le_of_eq g222.symm)
    have F222_axis : Fld Z h222 b222 "com/example/barrault/barrault/model/PathPattern$Step" "axis" "Lcom/example/barrault/barrault/model/PathPattern$Axis;" .null := D222 (Or.inr (tw hw 80 rfl)) (ty := (.object "com/example/barrault/barrault/model/PathPattern$Axis")) (by decide)
    have F222_kind : Fld Z h222 b222 "com/example/barrault/barrault/model/PathPattern$Step" "kind" "Lcom/example/barrault/barrault/model/PathPattern$Kind;" .null := D222 (Or.inr (tw hw 82 rfl)) (ty := (.object "com/example/barrault/barrault/model/PathPattern$Kind")) (by decide)
    have F222_name : Fld Z h222 b222 "com/example/barrault/barrault/model/PathPattern$Step" "name" "Ljava/lang/String;" .null := D222 (Or.inr (tw hw 84 rfl)) (ty := (.object "java/lang/String")) (by decide)
    have F222_predicates : Fld Z h222 b222 "com/example/barrault/barrault/model/PathPattern$Step" "predicates" "Ljava/util/List;" .null := D222 (Or.inr (tw hw 86 rfl)) (ty := (.object "java/util/List")) (by decide)
    refine Go.dup (pc' := 52) C X222 at_51 rfl rfl ?_
    refine Go.aconstNull (pc' := 53) C X222 at_52 rfl ?_
    refine Go.aload (pc' := 55) C X222 at_53 rfl rfl rfl ?_
    refine Go.aconstNull (pc' := 56) C X222 at_55 rfl ?_
    have O225 : Ext Z.heap h222 := (Ext.trans O223 E222)
    refine Go.newO (pc' := 59) C X222 (tw hw 15 rfl) (tw hw 16 rfl) (tw hw 17 rfl) e222 (by decide) (by decide) at_56 rfl ?_
    intro T224 h224 b224 X224 e224 g224 E224 A224 D224
    have n_b224 : Z.heap.size ≤ b224 := Nat.le_trans O225.1 (Nat.le_of_eq g224.symm)
    have z_b224 : h0.size ≤ b224 := Nat.le_trans (Nat.le_trans (Nat.le_trans (Nat.le_trans (Nat.le_trans (Nat.le_trans (Nat.le_refl _) E208.1) E209.1) K211.1) K213.1) E222.1) (Nat.le_of_eq g224.symm)
    have F224_modCount : Fld Z h224 b224 "java/util/AbstractList" "modCount" "I" (.int (0 : Int32)) := D224 (Or.inl (tw hw 37 rfl)) (ty := .int) (by decide)
    have F224_elementData : Fld Z h224 b224 "java/util/ArrayList" "elementData" "[Ljava/lang/Object;" .null := D224 (Or.inl (tw hw 40 rfl)) (ty := (.array (.object "java/lang/Object"))) (by decide)
    have F224_size : Fld Z h224 b224 "java/util/ArrayList" "size" "I" (.int (0 : Int32)) := D224 (Or.inl (tw hw 74 rfl)) (ty := .int) (by decide)
    refine Go.dup (pc' := 60) C X224 at_59 rfl rfl ?_
    have O227 : Ext Z.heap h224 := (Ext.trans O225 E224)
    refine Go.callI (y := (⟨"java/util/ArrayList", "<init>", "()V"⟩ : MethodName)) (a := b224) (pc' := 63) C X224 rfl (tw hw 18 rfl) (tw hw 19 rfl) (by decide) (rm_alI l Z a0 hw b224 dc h224 O227 A224 F224_modCount F224_elementData F224_size SD n_b224) (tw hw 20 rfl) (tw hw 17 rfl) e224 (argsL := []) (rest := [(.ref b224), .null, (.ref kv_206), .null, (.ref b222), (.ref b222)]) (W := 6) rfl rfl pd_0 rfl (Nat.le_of_eq rfl) rfl (by decide) (by decide) (by decide) (by decide) rfl at_60 rfl ?_
    intro T226 v226 L226 X226 q226
    obtain ⟨rfl, N226q, K226, P226_0, P226_1, P226_2⟩ := q226
    have N226 := Fr.app N213 N226q
    have c229 : Exa Z T226.heap b222 "com/example/barrault/barrault/model/PathPattern$Step" := (Exa.keep (Exa.ext E224 A222) K226)
    have ne230 : b222 ≠ b224 := Nat.ne_of_lt (Nat.lt_of_lt_of_le A222.lt (Nat.le_trans (Nat.le_refl _) (Nat.le_of_eq g224.symm)))
    have c231 : Fld Z T226.heap b222 "com/example/barrault/barrault/model/PathPattern$Step" "axis" "Lcom/example/barrault/barrault/model/PathPattern$Axis;" .null := (Fld.keep (Fld.ext E224 F222_axis) K226 (ninS ne230 nin0))
    have c232 : Fld Z T226.heap b222 "com/example/barrault/barrault/model/PathPattern$Step" "kind" "Lcom/example/barrault/barrault/model/PathPattern$Kind;" .null := (Fld.keep (Fld.ext E224 F222_kind) K226 (ninS ne230 nin0))
    have c233 : Fld Z T226.heap b222 "com/example/barrault/barrault/model/PathPattern$Step" "name" "Ljava/lang/String;" .null := (Fld.keep (Fld.ext E224 F222_name) K226 (ninS ne230 nin0))
    have c234 : Fld Z T226.heap b222 "com/example/barrault/barrault/model/PathPattern$Step" "predicates" "Ljava/util/List;" .null := (Fld.keep (Fld.ext E224 F222_predicates) K226 (ninS ne230 nin0))
    have c235 : Exa Z T226.heap b224 "java/util/ArrayList" := (Exa.keep A224 K226)
    have O236 : Ext Z.heap T226.heap := (Ext.keep O227 K226 (allS n_b224 all0))
    refine Go.callI (y := (⟨"com/example/barrault/barrault/model/PathPattern$Step", "<init>", "(Lcom/example/barrault/barrault/model/PathPattern$Axis;Lcom/example/barrault/barrault/model/PathPattern$Kind;Ljava/lang/String;Ljava/util/List;)V"⟩ : MethodName)) (a := b222) (pc' := 66) C X226 rfl (tw hw 41 rfl) (tw hw 42 rfl) (by decide) (rm_stI l Z a0 hw b222 kv_206 b224 dc el T226.heap O236 c229 c231 c232 c233 c234 c235 P226_1 P226_2 SL n_b222) (tw hw 43 rfl) (tw hw 14 rfl) rfl (argsL := [.null, (.ref kv_206), .null, (.ref b224)]) (rest := [(.ref b222)]) (W := 1) rfl rfl pd_19 rfl (Nat.le_of_eq rfl) rfl (by decide) (by decide) (by decide) (by decide) rfl at_63 rfl ?_
    intro T228 v228 L228 X228 q228
    obtain ⟨rfl, N228q, K228, P228_0⟩ := q228
    have N228 := Fr.app N226 N228q
    refine Go.astore (Ls' := #[.val (.int p1), .val (.int p2), .val (.int p3), .val (.int p4), .val (.int (2 : Int32)), .val (.ref kv_205), .val (.ref kv_206), .val (.ref kv_207), .val (.ref b208), .val (.ref b222), .unset, .unset, .unset, .unset]) (pc' := 68) C X228 at_66 rfl rfl rfl ?_
    have O238 : Ext Z.heap T228.heap := (Ext.keep O236 K228 (allS n_b222 all0))
    refine Go.newO (pc' := 71) C X228 (tw hw 12 rfl) (tw hw 13 rfl) (tw hw 14 rfl) rfl (by decide) (by decide) at_68 rfl ?_
    intro T237 h237 b237 X237 e237 g237 E237 A237 D237
    have n_b237 : Z.heap.size ≤ b237 := Nat.le_trans O238.1 (Nat.le_of_eq g237.symm)
    have z_b237 : h0.size ≤ b237 := Nat.le_trans (Nat.le_trans (Nat.le_trans (Nat.le_trans (Nat.le_trans (Nat.le_trans (Nat.le_trans (Nat.le_trans (Nat.le_trans (Nat.le_refl _) E208.1) E209.1) K211.1) K213.1) E222.1) E224.1) K226.1) K228.1) (Nat.le_of_eq g237.symm)
    have F237_axis : Fld Z h237 b237 "com/example/barrault/barrault/model/PathPattern$Step" "axis" "Lcom/example/barrault/barrault/model/PathPattern$Axis;" .null := D237 (Or.inr (tw hw 80 rfl)) (ty := (.object "com/example/barrault/barrault/model/PathPattern$Axis")) (by decide)
    have F237_kind : Fld Z h237 b237 "com/example/barrault/barrault/model/PathPattern$Step" "kind" "Lcom/example/barrault/barrault/model/PathPattern$Kind;" .null := D237 (Or.inr (tw hw 82 rfl)) (ty := (.object "com/example/barrault/barrault/model/PathPattern$Kind")) (by decide)
    have F237_name : Fld Z h237 b237 "com/example/barrault/barrault/model/PathPattern$Step" "name" "Ljava/lang/String;" .null := D237 (Or.inr (tw hw 84 rfl)) (ty := (.object "java/lang/String")) (by decide)
    have F237_predicates : Fld Z h237 b237 "com/example/barrault/barrault/model/PathPattern$Step" "predicates" "Ljava/util/List;" .null := D237 (Or.inr (tw hw 86 rfl)) (ty := (.object "java/util/List")) (by decide)
    refine Go.dup (pc' := 72) C X237 at_71 rfl rfl ?_
    refine Go.aconstNull (pc' := 73) C X237 at_72 rfl ?_
    refine Go.aload (pc' := 75) C X237 at_73 rfl rfl rfl ?_
    refine Go.aconstNull (pc' := 76) C X237 at_75 rfl ?_
    have O240 : Ext Z.heap h237 := (Ext.trans O238 E237)
    refine Go.newO (pc' := 79) C X237 (tw hw 15 rfl) (tw hw 16 rfl) (tw hw 17 rfl) e237 (by decide) (by decide) at_76 rfl ?_
    intro T239 h239 b239 X239 e239 g239 E239 A239 D239
    have n_b239 : Z.heap.size ≤ b239 := Nat.le_trans O240.1 (Nat.le_of_eq g239.symm)
    have z_b239 : h0.size ≤ b239 := Nat.le_trans (Nat.le_trans (Nat.le_trans (Nat.le_trans (Nat.le_trans (Nat.le_trans (Nat.le_trans (Nat.le_trans (Nat.le_trans (Nat.le_trans (Nat.le_refl _) E208.1) E209.1) K211.1) K213.1) E222.1) E224.1) K226.1) K228.1) E237.1) (Nat.le_of_eq g239.symm)
    have F239_modCount : Fld Z h239 b239 "java/util/AbstractList" "modCount" "I" (.int (0 : Int32)) := D239 (Or.inl (tw hw 37 rfl)) (ty := .int) (by decide)
    have F239_elementData : Fld Z h239 b239 "java/util/ArrayList" "elementData" "[Ljava/lang/Object;" .null := D239 (Or.inl (tw hw 40 rfl)) (ty := (.array (.object "java/lang/Object"))) (by decide)
    have F239_size : Fld Z h239 b239 "java/util/ArrayList" "size" "I" (.int (0 : Int32)) := D239 (Or.inl (tw hw 74 rfl)) (ty := .int) (by decide)
    refine Go.dup (pc' := 80) C X239 at_79 rfl rfl ?_
    have O242 : Ext Z.heap h239 := (Ext.trans O240 E239)
    refine Go.callI (y := (⟨"java/util/ArrayList", "<init>", "()V"⟩ : MethodName)) (a := b239) (pc' := 83) C X239 rfl (tw hw 18 rfl) (tw hw 19 rfl) (by decide) (rm_alI l Z a0 hw b239 dc h239 O242 A239 F239_modCount F239_elementData F239_size SD n_b239) (tw hw 20 rfl) (tw hw 17 rfl) e239 (argsL := []) (rest := [(.ref b239), .null, (.ref kv_207), .null, (.ref b237), (.ref b237)]) (W := 6) rfl rfl pd_0 rfl (Nat.le_of_eq rfl) rfl (by decide) (by decide) (by decide) (by decide) rfl at_80 rfl ?_
    intro T241 v241 L241 X241 q241
    obtain ⟨rfl, N241q, K241, P241_0, P241_1, P241_2⟩ := q241
    have N241 := Fr.app N228 N241q
    have c244 : Exa Z T241.heap b237 "com/example/barrault/barrault/model/PathPattern$Step" := (Exa.keep (Exa.ext E239 A237) K241)
    have ne245 : b237 ≠ b239 := Nat.ne_of_lt (Nat.lt_of_lt_of_le A237.lt (Nat.le_trans (Nat.le_refl _) (Nat.le_of_eq g239.symm)))
    have c246 : Fld Z T241.heap b237 "com/example/barrault/barrault/model/PathPattern$Step" "axis" "Lcom/example/barrault/barrault/model/PathPattern$Axis;" .null := (Fld.keep (Fld.ext E239 F237_axis) K241 (ninS ne245 nin0))
    have c247 : Fld Z T241.heap b237 "com/example/barrault/barrault/model/PathPattern$Step" "kind" "Lcom/example/barrault/barrault/model/PathPattern$Kind;" .null := (Fld.keep (Fld.ext E239 F237_kind) K241 (ninS ne245 nin0))
    have c248 : Fld Z T241.heap b237 "com/example/barrault/barrault/model/PathPattern$Step" "name" "Ljava/lang/String;" .null := (Fld.keep (Fld.ext E239 F237_name) K241 (ninS ne245 nin0))
    have c249 : Fld Z T241.heap b237 "com/example/barrault/barrault/model/PathPattern$Step" "predicates" "Ljava/util/List;" .null := (Fld.keep (Fld.ext E239 F237_predicates) K241 (ninS ne245 nin0))
    have c250 : Exa Z T241.heap b239 "java/util/ArrayList" := (Exa.keep A239 K241)
    have O251 : Ext Z.heap T241.heap := (Ext.keep O242 K241 (allS n_b239 all0))
    refine Go.callI (y := (⟨"com/example/barrault/barrault/model/PathPattern$Step", "<init>", "(Lcom/example/barrault/barrault/model/PathPattern$Axis;Lcom/example/barrault/barrault/model/PathPattern$Kind;Ljava/lang/String;Ljava/util/List;)V"⟩ : MethodName)) (a := b237) (pc' := 86) C X241 rfl (tw hw 41 rfl) (tw hw 42 rfl) (by decide) (rm_stI l Z a0 hw b237 kv_207 b239 dc el T241.heap O251 c244 c246 c247 c248 c249 c250 P241_1 P241_2 SL n_b237) (tw hw 43 rfl) (tw hw 14 rfl) rfl (argsL := [.null, (.ref kv_207), .null, (.ref b239)]) (rest := [(.ref b237)]) (W := 1) rfl rfl pd_19 rfl (Nat.le_of_eq rfl) rfl (by decide) (by decide) (by decide) (by decide) rfl at_83 rfl ?_
    intro T243 v243 L243 X243 q243
    obtain ⟨rfl, N243q, K243, P243_0⟩ := q243
    have N243 := Fr.app N241 N243q
    refine Go.astore (Ls' := #[.val (.int p1), .val (.int p2), .val (.int p3), .val (.int p4), .val (.int (2 : Int32)), .val (.ref kv_205), .val (.ref kv_206), .val (.ref kv_207), .val (.ref b208), .val (.ref b222), .val (.ref b237), .unset, .unset, .unset]) (pc' := 88) C X243 at_86 rfl rfl rfl ?_
    have O253 : Ext Z.heap T243.heap := (Ext.keep O251 K243 (allS n_b237 all0))
    refine Go.newO (pc' := 91) C X243 (tw hw 15 rfl) (tw hw 16 rfl) (tw hw 17 rfl) rfl (by decide) (by decide) at_88 rfl ?_
    intro T252 h252 b252 X252 e252 g252 E252 A252 D252
    have n_b252 : Z.heap.size ≤ b252 := Nat.le_trans O253.1 (Nat.le_of_eq g252.symm)
    have z_b252 : h0.size ≤ b252 := Nat.le_trans (Nat.le_trans (Nat.le_trans (Nat.le_trans (Nat.le_trans (Nat.le_trans (Nat.le_trans (Nat.le_trans (Nat.le_trans (Nat.le_trans (Nat.le_trans (Nat.le_trans (Nat.le_trans (Nat.le_refl _) E208.1) E209.1) K211.1) K213.1) E222.1) E224.1) K226.1) K228.1) E237.1) E239.1) K241.1) K243.1) (Nat.le_of_eq g252.symm)
    have F252_modCount : Fld Z h252 b252 "java/util/AbstractList" "modCount" "I" (.int (0 : Int32)) := D252 (Or.inl (tw hw 37 rfl)) (ty := .int) (by decide)
    have F252_elementData : Fld Z h252 b252 "java/util/ArrayList" "elementData" "[Ljava/lang/Object;" .null := D252 (Or.inl (tw hw 40 rfl)) (ty := (.array (.object "java/lang/Object"))) (by decide)
    have F252_size : Fld Z h252 b252 "java/util/ArrayList" "size" "I" (.int (0 : Int32)) := D252 (Or.inl (tw hw 74 rfl)) (ty := .int) (by decide)
    refine Go.dup (pc' := 92) C X252 at_91 rfl rfl ?_
    have O255 : Ext Z.heap h252 := (Ext.trans O253 E252)
    refine Go.callI (y := (⟨"java/util/ArrayList", "<init>", "()V"⟩ : MethodName)) (a := b252) (pc' := 95) C X252 rfl (tw hw 18 rfl) (tw hw 19 rfl) (by decide) (rm_alI l Z a0 hw b252 dc h252 O255 A252 F252_modCount F252_elementData F252_size SD n_b252) (tw hw 20 rfl) (tw hw 17 rfl) e252 (argsL := []) (rest := [(.ref b252)]) (W := 1) rfl rfl pd_0 rfl (Nat.le_of_eq rfl) rfl (by decide) (by decide) (by decide) (by decide) rfl at_92 rfl ?_
    intro T254 v254 L254 X254 q254
    obtain ⟨rfl, N254q, K254, P254_0, P254_1, P254_2⟩ := q254
    have N254 := Fr.app N243 N254q
    refine Go.astore (Ls' := #[.val (.int p1), .val (.int p2), .val (.int p3), .val (.int p4), .val (.int (2 : Int32)), .val (.ref kv_205), .val (.ref kv_206), .val (.ref kv_207), .val (.ref b208), .val (.ref b222), .val (.ref b237), .val (.ref b252), .unset, .unset]) (pc' := 97) C X254 at_95 rfl rfl rfl ?_
    refine Go.aload (pc' := 99) C X254 at_97 rfl rfl rfl ?_
    refine Go.aload (pc' := 101) C X254 at_99 rfl rfl rfl ?_
    have c257 : Exa Z T254.heap b252 "java/util/ArrayList" := (Exa.keep A252 K254)
    have c258 : Exa Z T254.heap b208 "com/example/barrault/barrault/model/PathPattern$Step" := (Exa.keep (Exa.ext E252 (Exa.keep (Exa.keep (Exa.ext E239 (Exa.ext E237 (Exa.keep (Exa.keep (Exa.ext E224 (Exa.ext E222 (Exa.keep c214 K213))) K226) K228))) K241) K243)) K254)
    have O259 : Ext Z.heap T254.heap := (Ext.keep O255 K254 (allS n_b252 all0))
    refine Go.callF (y := (⟨"java/util/List", "add", "(Ljava/lang/Object;)Z"⟩ : MethodName)) (z := (⟨"java/util/ArrayList", "add", "(Ljava/lang/Object;)Z"⟩ : MethodName)) (a := b252) (pc' := 106) C X254 (tw hw 87 rfl) (tw hw 88 rfl) (tw hw 89 rfl) (tw hw 90 rfl) (tw hw 91 rfl) (tw hw 92 rfl) (tw hw 93 rfl) (tw hw 94 rfl) rfl c257 (by decide) (rm_add0 l Z a0 hw b252 b208 dc kd ((0 : Int32)) T254.heap O259 c257 c258 P254_0 P254_2 P254_1 SD AD n_b252) (tw hw 95 rfl) (tw hw 17 rfl) rfl (argsL := [(.ref b208)]) (rest := []) (W := 0) rfl rfl pd_20 rfl (Nat.le_of_eq rfl) rfl (by decide) (by decide) (by decide) (by decide) at_101 rfl ?_
    intro T256 v256 L256 X256 q256
    obtain ⟨w_256, kw_256, rfl, N256q, K256, B256_0, P256_0, P256_1, P256_2, P256_3, P256_4, p256_0⟩ := q256
    have N256 := Fr.app N254 N256q
    have n_w_256 : Z.heap.size ≤ w_256 := Nat.le_trans O259.1 B256_0
    have z_w_256 : h0.size ≤ w_256 := Nat.le_trans (Nat.le_trans (Nat.le_trans (Nat.le_trans (Nat.le_trans (Nat.le_trans (Nat.le_trans (Nat.le_trans (Nat.le_trans (Nat.le_trans (Nat.le_trans (Nat.le_trans (Nat.le_trans (Nat.le_trans (Nat.le_trans (Nat.le_refl _) E208.1) E209.1) K211.1) K213.1) E222.1) E224.1) K226.1) K228.1) E237.1) E239.1) K241.1) K243.1) E252.1) K254.1) B256_0
    refine Go.pop (pc' := 107) C X256 at_106 rfl rfl ?_
    refine Go.iload (pc' := 109) C X256 at_107 rfl rfl ?_
    refine Go.iconst (z := (2 : Int32)) (pc' := 110) C X256 at_109 rfl rfl ?_
    refine Go.icmpNo (pc' := 113) C X256 at_110 (flt (x := (2 : Int32)) (y := (2 : Int32)) (by decide)).1 rfl ?_
    refine Go.aload (pc' := 115) C X256 at_113 rfl rfl rfl ?_
    refine Go.aload (pc' := 117) C X256 at_115 rfl rfl rfl ?_
    have c262 : Exa Z T256.heap b252 "java/util/ArrayList" := (Exa.keep c257 K256)
    have c263 : Exa Z T256.heap b222 "com/example/barrault/barrault/model/PathPattern$Step" := (Exa.keep (Exa.keep (Exa.ext E252 (Exa.keep (Exa.keep (Exa.ext E239 (Exa.ext E237 (Exa.keep c229 K228))) K241) K243)) K254) K256)
    have O264 : Ext Z.heap T256.heap := (Ext.keep O259 K256 (allS n_b252 all0))
    refine Go.callF (y := (⟨"java/util/List", "add", "(Ljava/lang/Object;)Z"⟩ : MethodName)) (z := (⟨"java/util/ArrayList", "add", "(Ljava/lang/Object;)Z"⟩ : MethodName)) (a := b252) (pc' := 122) C X256 (tw hw 87 rfl) (tw hw 88 rfl) (tw hw 89 rfl) (tw hw 90 rfl) (tw hw 91 rfl) (tw hw 92 rfl) (tw hw 93 rfl) (tw hw 94 rfl) rfl c262 (by decide) (rm_add1 l Z a0 hw b252 b208 b222 w_256 kw_256 (((0 : Int32) + (1 : Int32))) T256.heap O264 c262 c263 P256_0 P256_1 P256_2 P256_4 P256_3 n_b252 n_w_256 p256_0) (tw hw 95 rfl) (tw hw 17 rfl) rfl (argsL := [(.ref b222)]) (rest := []) (W := 0) rfl rfl pd_20 rfl (Nat.le_of_eq rfl) rfl (by decide) (by decide) (by decide) (by decide) at_117 rfl ?_
    intro T261 v261 L261 X261 q261
    obtain ⟨rfl, N261q, K261, P261_0, P261_1, P261_2, P261_3⟩ := q261
    have N261 := Fr.app N256 N261q
    refine Go.pop (pc' := 123) C X261 at_122 rfl rfl ?_
    refine Go.iload (pc' := 125) C X261 at_123 rfl rfl ?_
    refine Go.iconst (z := (3 : Int32)) (pc' := 126) C X261 at_125 rfl rfl ?_
    refine Go.icmpYes (pc' := 139) C X261 at_126 (tlt (x := (2 : Int32)) (y := (3 : Int32)) (by decide)).1 (by decide) (by decide) ?_
    have O267 : Ext Z.heap T261.heap := (Ext.keep O264 K261 (allS n_b252 (allS n_w_256 all0)))
    refine Go.newO (pc' := 142) C X261 (tw hw 120 rfl) (tw hw 121 rfl) (tw hw 122 rfl) rfl (by decide) (by decide) at_139 rfl ?_
    intro T266 h266 b266 X266 e266 g266 E266 A266 D266
    have n_b266 : Z.heap.size ≤ b266 := Nat.le_trans O267.1 (Nat.le_of_eq g266.symm)
    have z_b266 : h0.size ≤ b266 := Nat.le_trans (Nat.le_trans (Nat.le_trans (Nat.le_trans (Nat.le_trans (Nat.le_trans (Nat.le_trans (Nat.le_trans (Nat.le_trans (Nat.le_trans (Nat.le_trans (Nat.le_trans (Nat.le_trans (Nat.le_trans (Nat.le_trans (Nat.le_trans (Nat.le_trans (Nat.le_refl _) E208.1) E209.1) K211.1) K213.1) E222.1) E224.1) K226.1) K228.1) E237.1) E239.1) K241.1) K243.1) E252.1) K254.1) K256.1) K261.1) (Nat.le_of_eq g266.symm)
    have F266_text : Fld Z h266 b266 "com/example/barrault/barrault/model/PathPattern" "text" "Ljava/lang/String;" .null := D266 (Or.inr (tw hw 200 rfl)) (ty := (.object "java/lang/String")) (by decide)
    have F266_steps : Fld Z h266 b266 "com/example/barrault/barrault/model/PathPattern" "steps" "Ljava/util/List;" .null := D266 (Or.inr (tw hw 202 rfl)) (ty := (.object "java/util/List")) (by decide)
    refine Go.dup (pc' := 143) C X266 at_142 rfl rfl ?_
    have O269 : Ext Z.heap h266 := (Ext.trans O267 E266)
    have Si270 : Sin s s h266 := Sin.mono Si0 (Nat.le_trans (Nat.le_trans (Nat.le_trans (Nat.le_trans (Nat.le_trans (Nat.le_trans (Nat.le_trans (Nat.le_trans (Nat.le_trans (Nat.le_trans (Nat.le_trans (Nat.le_trans (Nat.le_trans (Nat.le_trans (Nat.le_trans (Nat.le_trans (Nat.le_trans (Nat.le_refl _) E208.1) E209.1) K211.1) K213.1) E222.1) E224.1) K226.1) K228.1) E237.1) E239.1) K241.1) K243.1) E252.1) K254.1) K256.1) K261.1) E266.1)
    refine Go.ldcW (pc' := 145) (n := 0) C X266 Si270 (tw hw 123 rfl) (wS hw) e266 (by decide) (by decide) (by decide) (by decide) at_143 rfl ?_
    intro T268 h268 b268 sC268 C268 X268 e268 Si268 E268
    refine Go.aload (pc' := 147) C268 X268 at_145 rfl rfl rfl ?_
    have c272 : Exa Z h268 b266 "com/example/barrault/barrault/model/PathPattern" := (Exa.ext E268 A266)
    have c273 : Fld Z h268 b266 "com/example/barrault/barrault/model/PathPattern" "text" "Ljava/lang/String;" .null := (Fld.ext E268 F266_text)
    have c274 : Fld Z h268 b266 "com/example/barrault/barrault/model/PathPattern" "steps" "Ljava/util/List;" .null := (Fld.ext E268 F266_steps)
    have c275 : Exa Z h268 b252 "java/util/ArrayList" := (Exa.ext E268 (Exa.ext E266 (Exa.keep c262 K261)))
    have c276 : Fld Z h268 b252 "java/util/ArrayList" "elementData" "[Ljava/lang/Object;" (.ref w_256) := (Fld.ext E268 (Fld.ext E266 P261_1))
    have c277 : Fld Z h268 b252 "java/util/ArrayList" "size" "I" (.int (2 : Int32)) := (Fld.ext E268 (Fld.ext E266 P261_2))
    have c278 : Exa Z h268 w_256 "[Ljava/lang/Object;" := (Exa.ext E268 (Exa.ext E266 (Exa.keep P256_4 K261)))
    have c279 : AL Z h268 w_256 kw_256 (.object "java/lang/Object") [(.ref b208), (.ref b222), .null, .null, .null, .null, .null, .null, .null, .null] := (AL.ext E268 (AL.ext E266 P261_3))
    have c280 : Exa Z h268 b208 "com/example/barrault/barrault/model/PathPattern$Step" := (Exa.ext E268 (Exa.ext E266 (Exa.keep (Exa.keep c258 K256) K261)))
    have c281 : Exa Z h268 b222 "com/example/barrault/barrault/model/PathPattern$Step" := (Exa.ext E268 (Exa.ext E266 (Exa.keep c263 K261)))
    have O282 : Ext Z.heap h268 := (Ext.trans O269 E268)
    refine Go.callI (y := (⟨"com/example/barrault/barrault/model/PathPattern", "<init>", "(Ljava/lang/String;Ljava/util/List;)V"⟩ : MethodName)) (a := b266) (pc' := 150) C268 X268 rfl (tw hw 131 rfl) (tw hw 132 rfl) (by decide) (rm_jI2 l Z a0 hw b266 b268 b252 b208 b222 w_256 kw_256 mr h268 O282 c272 c273 c274 c275 c276 c277 c278 c279 c280 c281 hM n_b266) (tw hw 133 rfl) (tw hw 122 rfl) e268 (argsL := [(.ref b268), (.ref b252)]) (rest := [(.ref b266)]) (W := 1) rfl rfl pd_21 rfl (Nat.le_of_eq rfl) rfl (by decide) (by decide) (by decide) (by decide) rfl at_147 rfl ?_
    intro T271 v271 L271 X271 q271
    obtain ⟨r_271, rfl, N271q, K271, B271_0, P271_0, P271_1, P271_2, P271_3⟩ := q271
    have N271 := Fr.app N261 N271q
    have n_r_271 : Z.heap.size ≤ r_271 := Nat.le_trans O282.1 B271_0
    have z_r_271 : h0.size ≤ r_271 := Nat.le_trans (Nat.le_trans (Nat.le_trans (Nat.le_trans (Nat.le_trans (Nat.le_trans (Nat.le_trans (Nat.le_trans (Nat.le_trans (Nat.le_trans (Nat.le_trans (Nat.le_trans (Nat.le_trans (Nat.le_trans (Nat.le_trans (Nat.le_trans (Nat.le_trans (Nat.le_trans (Nat.le_trans (Nat.le_refl _) E208.1) E209.1) K211.1) K213.1) E222.1) E224.1) K226.1) K228.1) E237.1) E239.1) K241.1) K243.1) E252.1) K254.1) K256.1) K261.1) E266.1) E268.1) B271_0
    refine Go.astore (Ls' := #[.val (.int p1), .val (.int p2), .val (.int p3), .val (.int p4), .val (.int (2 : Int32)), .val (.ref kv_205), .val (.ref kv_206), .val (.ref kv_207), .val (.ref b208), .val (.ref b222), .val (.ref b237), .val (.ref b252), .val (.ref b266), .unset]) (pc' := 152) C268 X271 at_150 rfl rfl rfl ?_
    refine Go.iload (pc' := 154) C268 X271 at_152 rfl rfl ?_
    refine Go.iconst (z := (1 : Int32)) (pc' := 155) C268 X271 at_154 rfl rfl ?_
    refine Go.icmpYes (pc' := 165) C268 X271 at_155 (feq (x := (2 : Int32)) (y := (1 : Int32)) (by decide)).2 (by decide) (by decide) ?_
    refine Go.iload (pc' := 167) C268 X271 at_165 rfl rfl ?_
    refine Go.iconst (z := (2 : Int32)) (pc' := 168) C268 X271 at_167 rfl rfl ?_
    refine Go.icmpNo (pc' := 171) C268 X271 at_168 (teq (x := (2 : Int32)) (y := (2 : Int32)) (by decide)).2 rfl ?_
    refine Go.aload (pc' := 173) C268 X271 at_171 rfl rfl rfl ?_
    refine Go.astore (Ls' := #[.val (.int p1), .val (.int p2), .val (.int p3), .val (.int p4), .val (.int (2 : Int32)), .val (.ref kv_205), .val (.ref kv_206), .val (.ref kv_207), .val (.ref b208), .val (.ref b222), .val (.ref b237), .val (.ref b252), .val (.ref b266), .val (.ref kv_206)]) (pc' := 175) C268 X271 at_173 rfl rfl rfl ?_
    refine Go.goto (pc' := 182) C268 X271 at_175 (by decide) (by decide) ?_
    by_cases hke : kv_206 = ke
    · refine Go.aload (pc' := 184) C268 X271 at_182 rfl rfl rfl ?_
      have c286 : Exa Z T271.heap b222 "com/example/barrault/barrault/model/PathPattern$Step" := (Exa.keep c281 K271)
      have ne287 : b222 ≠ b239 := Nat.ne_of_lt (Nat.lt_of_lt_of_le A222.lt (Nat.le_trans (Nat.le_trans (Nat.le_trans (Nat.le_trans (Nat.le_trans (Nat.le_refl _) E224.1) K226.1) K228.1) E237.1) (Nat.le_of_eq g239.symm)))
      have ne288 : b222 ≠ b237 := Nat.ne_of_lt (Nat.lt_of_lt_of_le A222.lt (Nat.le_trans (Nat.le_trans (Nat.le_trans (Nat.le_trans (Nat.le_refl _) E224.1) K226.1) K228.1) (Nat.le_of_eq g237.symm)))
      have ne289 : b222 ≠ b252 := Nat.ne_of_lt (Nat.lt_of_lt_of_le A222.lt (Nat.le_trans (Nat.le_trans (Nat.le_trans (Nat.le_trans (Nat.le_trans (Nat.le_trans (Nat.le_trans (Nat.le_trans (Nat.le_refl _) E224.1) K226.1) K228.1) E237.1) E239.1) K241.1) K243.1) (Nat.le_of_eq g252.symm)))
      have ne290 : b222 ≠ w_256 := Nat.ne_of_lt (Nat.lt_of_lt_of_le A222.lt (Nat.le_trans (Nat.le_trans (Nat.le_trans (Nat.le_trans (Nat.le_trans (Nat.le_trans (Nat.le_trans (Nat.le_trans (Nat.le_trans (Nat.le_trans (Nat.le_refl _) E224.1) K226.1) K228.1) E237.1) E239.1) K241.1) K243.1) E252.1) K254.1) B256_0))
      have ne291 : b222 ≠ b266 := Nat.ne_of_lt (Nat.lt_of_lt_of_le A222.lt (Nat.le_trans (Nat.le_trans (Nat.le_trans (Nat.le_trans (Nat.le_trans (Nat.le_trans (Nat.le_trans (Nat.le_trans (Nat.le_trans (Nat.le_trans (Nat.le_trans (Nat.le_trans (Nat.le_refl _) E224.1) K226.1) K228.1) E237.1) E239.1) K241.1) K243.1) E252.1) K254.1) K256.1) K261.1) (Nat.le_of_eq g266.symm)))
      have c292 : Fld Z T271.heap b222 "com/example/barrault/barrault/model/PathPattern$Step" "kind" "Lcom/example/barrault/barrault/model/PathPattern$Kind;" (.ref kv_206) := (Fld.keep (Fld.ext E268 (Fld.ext E266 (Fld.keep (Fld.keep (Fld.keep (Fld.ext E252 (Fld.keep (Fld.keep (Fld.ext E239 (Fld.ext E237 P228_0)) K241 (ninS ne287 nin0)) K243 (ninS ne288 nin0))) K254 (ninS ne289 nin0)) K256 (ninS ne289 nin0)) K261 (ninS ne289 (ninS ne290 nin0))))) K271 (ninS ne291 nin0))
      have O293 : Ext Z.heap T271.heap := (Ext.keep O282 K271 (allS n_b266 all0))
      have c294 : Exa Z T271.heap b266 "com/example/barrault/barrault/model/PathPattern" := (Exa.keep c272 K271)
      refine Go.callV (y := (⟨"com/example/barrault/barrault/model/PathPattern", "selectsElements", "()Z"⟩ : MethodName)) (z := (⟨"com/example/barrault/barrault/model/PathPattern", "selectsElements", "()Z"⟩ : MethodName)) (a := b266) (pc' := 187) C268 X271 (tw hw 203 rfl) (tw hw 204 rfl) (notFace_at C268.2.1 (tw hw 206 rfl)) (tw hw 206 rfl) (tw hw 205 rfl) c294 (by decide) (rm_se2 l Z a0 hw b266 kv_206 ke r_271 em b208 b222 T271.heap O293 P271_0 P271_1 P271_2 P271_3 SE c286 Ee c292 SK0) (tw hw 207 rfl) (tw hw 122 rfl) rfl (argsL := []) (rest := []) (W := 0) rfl rfl pd_12 rfl (Nat.le_of_eq rfl) rfl (by decide) (by decide) (by decide) (by decide) at_184 rfl ?_
      intro T285 v285 L285 X285 q285
      obtain ⟨rfl, rfl, e285⟩ := q285
      have N285 := Fr.app N271 (Fr.nil _)
      refine Go.aload (pc' := 189) C268 X285 at_187 rfl rfl rfl ?_
      refine Go.getS (pc' := 192) (host := "") C268 X285 (Or.inl (tw hw 5 rfl)) Via.refl e285 (SK0.ext O293) at_189 rfl ?_
      intro T295 X295 e295
      refine Go.acmpNo (pc' := 195) C268 X295 at_192 rfl rfl (XT.aa_ne_f (congrArg Value.ref hke)) rfl ?_
      refine Go.iconst (z := (1 : Int32)) (pc' := 196) C268 X295 at_195 rfl rfl ?_
      refine Go.goto (pc' := 200) C268 X295 at_196 (by decide) (by decide) ?_
      refine Go.icmpNo (pc' := 203) C268 X295 at_200 (teq (x := (if kv_206 = ke then (1 : Int32) else 0)) (y := (1 : Int32)) (if_pos hke)).2 rfl ?_
      refine Go.iconst (z := (1 : Int32)) (pc' := 204) C268 X295 at_203 rfl rfl ?_
      refine Go.goto (pc' := 208) C268 X295 at_204 (by decide) (by decide) ?_
      have K297 : Keep h0 T271.heap [] := ((((((((((((((((((((Keep.refl h0 []).ext E208).ext E209).trans K211 (allS (Or.inr z_b209) all0)).trans K213 (allS (Or.inr z_b208) all0)).ext E222).ext E224).trans K226 (allS (Or.inr z_b224) all0)).trans K228 (allS (Or.inr z_b222) all0)).ext E237).ext E239).trans K241 (allS (Or.inr z_b239) all0)).trans K243 (allS (Or.inr z_b237) all0)).ext E252).trans K254 (allS (Or.inr z_b252) all0)).trans K256 (allS (Or.inr z_b252) all0)).trans K261 (allS (Or.inr z_b252) (allS (Or.inr z_w_256) all0))).ext E266).ext E268).trans K271 (allS (Or.inr z_b266) all0))
      have Si298 : Sin s sC268 T271.heap := Sin.mono Si268 (Nat.le_trans (Nat.le_refl _) K271.1)
      exact Go.retNW C268 X295 (by rw [e295]; exact Si298) rfl at_208 (by simp) (by rw [e295]; exact ⟨rfl, N285, K297⟩) (by decide) (by decide)
    · refine Go.aload (pc' := 184) C268 X271 at_182 rfl rfl rfl ?_
      have c300 : Exa Z T271.heap b222 "com/example/barrault/barrault/model/PathPattern$Step" := (Exa.keep c281 K271)
      have ne301 : b222 ≠ b239 := Nat.ne_of_lt (Nat.lt_of_lt_of_le A222.lt (Nat.le_trans (Nat.le_trans (Nat.le_trans (Nat.le_trans (Nat.le_trans (Nat.le_refl _) E224.1) K226.1) K228.1) E237.1) (Nat.le_of_eq g239.symm)))
      have ne302 : b222 ≠ b237 := Nat.ne_of_lt (Nat.lt_of_lt_of_le A222.lt (Nat.le_trans (Nat.le_trans (Nat.le_trans (Nat.le_trans (Nat.le_refl _) E224.1) K226.1) K228.1) (Nat.le_of_eq g237.symm)))
      have ne303 : b222 ≠ b252 := Nat.ne_of_lt (Nat.lt_of_lt_of_le A222.lt (Nat.le_trans (Nat.le_trans (Nat.le_trans (Nat.le_trans (Nat.le_trans (Nat.le_trans (Nat.le_trans (Nat.le_trans (Nat.le_refl _) E224.1) K226.1) K228.1) E237.1) E239.1) K241.1) K243.1) (Nat.le_of_eq g252.symm)))
      have ne304 : b222 ≠ w_256 := Nat.ne_of_lt (Nat.lt_of_lt_of_le A222.lt (Nat.le_trans (Nat.le_trans (Nat.le_trans (Nat.le_trans (Nat.le_trans (Nat.le_trans (Nat.le_trans (Nat.le_trans (Nat.le_trans (Nat.le_trans (Nat.le_refl _) E224.1) K226.1) K228.1) E237.1) E239.1) K241.1) K243.1) E252.1) K254.1) B256_0))
      have ne305 : b222 ≠ b266 := Nat.ne_of_lt (Nat.lt_of_lt_of_le A222.lt (Nat.le_trans (Nat.le_trans (Nat.le_trans (Nat.le_trans (Nat.le_trans (Nat.le_trans (Nat.le_trans (Nat.le_trans (Nat.le_trans (Nat.le_trans (Nat.le_trans (Nat.le_trans (Nat.le_refl _) E224.1) K226.1) K228.1) E237.1) E239.1) K241.1) K243.1) E252.1) K254.1) K256.1) K261.1) (Nat.le_of_eq g266.symm)))
      have c306 : Fld Z T271.heap b222 "com/example/barrault/barrault/model/PathPattern$Step" "kind" "Lcom/example/barrault/barrault/model/PathPattern$Kind;" (.ref kv_206) := (Fld.keep (Fld.ext E268 (Fld.ext E266 (Fld.keep (Fld.keep (Fld.keep (Fld.ext E252 (Fld.keep (Fld.keep (Fld.ext E239 (Fld.ext E237 P228_0)) K241 (ninS ne301 nin0)) K243 (ninS ne302 nin0))) K254 (ninS ne303 nin0)) K256 (ninS ne303 nin0)) K261 (ninS ne303 (ninS ne304 nin0))))) K271 (ninS ne305 nin0))
      have O307 : Ext Z.heap T271.heap := (Ext.keep O282 K271 (allS n_b266 all0))
      have c308 : Exa Z T271.heap b266 "com/example/barrault/barrault/model/PathPattern" := (Exa.keep c272 K271)
      refine Go.callV (y := (⟨"com/example/barrault/barrault/model/PathPattern", "selectsElements", "()Z"⟩ : MethodName)) (z := (⟨"com/example/barrault/barrault/model/PathPattern", "selectsElements", "()Z"⟩ : MethodName)) (a := b266) (pc' := 187) C268 X271 (tw hw 203 rfl) (tw hw 204 rfl) (notFace_at C268.2.1 (tw hw 206 rfl)) (tw hw 206 rfl) (tw hw 205 rfl) c308 (by decide) (rm_se2 l Z a0 hw b266 kv_206 ke r_271 em b208 b222 T271.heap O307 P271_0 P271_1 P271_2 P271_3 SE c300 Ee c306 SK0) (tw hw 207 rfl) (tw hw 122 rfl) rfl (argsL := []) (rest := []) (W := 0) rfl rfl pd_12 rfl (Nat.le_of_eq rfl) rfl (by decide) (by decide) (by decide) (by decide) at_184 rfl ?_
      intro T299 v299 L299 X299 q299
      obtain ⟨rfl, rfl, e299⟩ := q299
      have N299 := Fr.app N271 (Fr.nil _)
      refine Go.aload (pc' := 189) C268 X299 at_187 rfl rfl rfl ?_
      refine Go.getS (pc' := 192) (host := "") C268 X299 (Or.inl (tw hw 5 rfl)) Via.refl e299 (SK0.ext O307) at_189 rfl ?_
      intro T309 X309 e309
      refine Go.acmpYes (pc' := 199) C268 X309 at_192 rfl rfl (XT.aa_ne_t (fun q => hke (Value.ref.inj q))) (by decide) (by decide) ?_
      refine Go.iconst (z := (0 : Int32)) (pc' := 200) C268 X309 at_199 rfl rfl ?_
      refine Go.icmpNo (pc' := 203) C268 X309 at_200 (teq (x := (if kv_206 = ke then (1 : Int32) else 0)) (y := (0 : Int32)) (if_neg hke)).2 rfl ?_
      refine Go.iconst (z := (1 : Int32)) (pc' := 204) C268 X309 at_203 rfl rfl ?_
      refine Go.goto (pc' := 208) C268 X309 at_204 (by decide) (by decide) ?_
      have K311 : Keep h0 T271.heap [] := ((((((((((((((((((((Keep.refl h0 []).ext E208).ext E209).trans K211 (allS (Or.inr z_b209) all0)).trans K213 (allS (Or.inr z_b208) all0)).ext E222).ext E224).trans K226 (allS (Or.inr z_b224) all0)).trans K228 (allS (Or.inr z_b222) all0)).ext E237).ext E239).trans K241 (allS (Or.inr z_b239) all0)).trans K243 (allS (Or.inr z_b237) all0)).ext E252).trans K254 (allS (Or.inr z_b252) all0)).trans K256 (allS (Or.inr z_b252) all0)).trans K261 (allS (Or.inr z_b252) (allS (Or.inr z_w_256) all0))).ext E266).ext E268).trans K271 (allS (Or.inr z_b266) all0))
      have Si312 : Sin s sC268 T271.heap := Sin.mono Si268 (Nat.le_trans (Nat.le_refl _) K271.1)
      exact Go.retNW C268 X309 (by rw [e309]; exact Si312) rfl at_208 (by simp) (by rw [e309]; exact ⟨rfl, N299, K311⟩) (by decide) (by decide)
  · rw [hl]
    refine Go.iadd (pc' := 8) C X0 at_7 rfl ?_
    rw [show ((1 : Int32) + (2 : Int32)) = (3 : Int32) from by decide]
    refine Go.istore (Ls' := #[.val (.int p1), .val (.int p2), .val (.int p3), .val (.int p4), .val (.int (3 : Int32)), .unset, .unset, .unset, .unset, .unset, .unset, .unset, .unset, .unset]) (pc' := 10) C X0 at_8 rfl rfl ?_
    refine Go.iloadN (pc' := 11) C X0 at_10 rfl rfl ?_
    refine Go.callS (y := (⟨"com/example/barrault/barrault/model/PathPatternSelectsElementsPinLaw", "kind", "(I)Lcom/example/barrault/barrault/model/PathPattern$Kind;"⟩ : MethodName)) (pc' := 14) C X0 (tw hw 1 rfl) (tw hw 2 rfl) (by decide) (rm_kind l Z a0 hw p2 ke ka kt h0 O0 SK0 SK1 SK2) (tw hw 4 rfl) (tw hw 3 rfl) e0 (argsL := [(.int p2)]) (rest := []) (W := 0) rfl rfl pd_18 rfl (Nat.le_of_eq rfl) rfl (by decide) (by decide) (by decide) (by decide) at_11 rfl ?_
    intro T313 v313 L313 X313 q313
    obtain ⟨kv_313, rfl, rfl, e313⟩ := q313
    have N313 := Fr.app N0 (Fr.nil _)
    refine Go.astore (Ls' := #[.val (.int p1), .val (.int p2), .val (.int p3), .val (.int p4), .val (.int (3 : Int32)), .val (.ref kv_313), .unset, .unset, .unset, .unset, .unset, .unset, .unset, .unset]) (pc' := 16) C X313 at_14 rfl rfl rfl ?_
    refine Go.iloadN (pc' := 17) C X313 at_16 rfl rfl ?_
    refine Go.callS (y := (⟨"com/example/barrault/barrault/model/PathPatternSelectsElementsPinLaw", "kind", "(I)Lcom/example/barrault/barrault/model/PathPattern$Kind;"⟩ : MethodName)) (pc' := 20) C X313 (tw hw 1 rfl) (tw hw 2 rfl) (by decide) (rm_kind l Z a0 hw p3 ke ka kt h0 O0 SK0 SK1 SK2) (tw hw 4 rfl) (tw hw 3 rfl) e313 (argsL := [(.int p3)]) (rest := []) (W := 0) rfl rfl pd_18 rfl (Nat.le_of_eq rfl) rfl (by decide) (by decide) (by decide) (by decide) at_17 rfl ?_
    intro T314 v314 L314 X314 q314
    obtain ⟨kv_314, rfl, rfl, e314⟩ := q314
    have N314 := Fr.app N313 (Fr.nil _)
    refine Go.astore (Ls' := #[.val (.int p1), .val (.int p2), .val (.int p3), .val (.int p4), .val (.int (3 : Int32)), .val (.ref kv_313), .val (.ref kv_314), .unset, .unset, .unset, .unset, .unset, .unset, .unset]) (pc' := 22) C X314 at_20 rfl rfl rfl ?_
    refine Go.iloadN (pc' := 23) C X314 at_22 rfl rfl ?_
    refine Go.callS (y := (⟨"com/example/barrault/barrault/model/PathPatternSelectsElementsPinLaw", "kind", "(I)Lcom/example/barrault/barrault/model/PathPattern$Kind;"⟩ : MethodName)) (pc' := 26) C X314 (tw hw 1 rfl) (tw hw 2 rfl) (by decide) (rm_kind l Z a0 hw p4 ke ka kt h0 O0 SK0 SK1 SK2) (tw hw 4 rfl) (tw hw 3 rfl) e314 (argsL := [(.int p4)]) (rest := []) (W := 0) rfl rfl pd_18 rfl (Nat.le_of_eq rfl) rfl (by decide) (by decide) (by decide) (by decide) at_23 rfl ?_
    intro T315 v315 L315 X315 q315
    obtain ⟨kv_315, rfl, rfl, e315⟩ := q315
    have N315 := Fr.app N314 (Fr.nil _)
    refine Go.astore (Ls' := #[.val (.int p1), .val (.int p2), .val (.int p3), .val (.int p4), .val (.int (3 : Int32)), .val (.ref kv_313), .val (.ref kv_314), .val (.ref kv_315), .unset, .unset, .unset, .unset, .unset, .unset]) (pc' := 28) C X315 at_26 rfl rfl rfl ?_
    refine Go.newO (pc' := 31) C X315 (tw hw 12 rfl) (tw hw 13 rfl) (tw hw 14 rfl) e315 (by decide) (by decide) at_28 rfl ?_
    intro T316 h316 b316 X316 e316 g316 E316 A316 D316
    have n_b316 : Z.heap.size ≤ b316 := Nat.le_trans O0.1 (Nat.le_of_eq g316.symm)
    have z_b316 : h0.size ≤ b316 := Nat.le_trans (Nat.le_refl _) (Nat.le_of_eq g316.symm)
    have F316_axis : Fld Z h316 b316 "com/example/barrault/barrault/model/PathPattern$Step" "axis" "Lcom/example/barrault/barrault/model/PathPattern$Axis;" .null := D316 (Or.inr (tw hw 80 rfl)) (ty := (.object "com/example/barrault/barrault/model/PathPattern$Axis")) (by decide)
    have F316_kind : Fld Z h316 b316 "com/example/barrault/barrault/model/PathPattern$Step" "kind" "Lcom/example/barrault/barrault/model/PathPattern$Kind;" .null := D316 (Or.inr (tw hw 82 rfl)) (ty := (.object "com/example/barrault/barrault/model/PathPattern$Kind")) (by decide)
    have F316_name : Fld Z h316 b316 "com/example/barrault/barrault/model/PathPattern$Step" "name" "Ljava/lang/String;" .null := D316 (Or.inr (tw hw 84 rfl)) (ty := (.object "java/lang/String")) (by decide)
    have F316_predicates : Fld Z h316 b316 "com/example/barrault/barrault/model/PathPattern$Step" "predicates" "Ljava/util/List;" .null := D316 (Or.inr (tw hw 86 rfl)) (ty := (.object "java/util/List")) (by decide)
    refine Go.dup (pc' := 32) C X316 at_31 rfl rfl ?_
    refine Go.aconstNull (pc' := 33) C X316 at_32 rfl ?_
    refine Go.aload (pc' := 35) C X316 at_33 rfl rfl rfl ?_
    refine Go.aconstNull (pc' := 36) C X316 at_35 rfl ?_
    have O318 : Ext Z.heap h316 := (Ext.trans O0 E316)
    refine Go.newO (pc' := 39) C X316 (tw hw 15 rfl) (tw hw 16 rfl) (tw hw 17 rfl) e316 (by decide) (by decide) at_36 rfl ?_
    intro T317 h317 b317 X317 e317 g317 E317 A317 D317
    have n_b317 : Z.heap.size ≤ b317 := Nat.le_trans O318.1 (Nat.le_of_eq g317.symm)
    have z_b317 : h0.size ≤ b317 := Nat.le_trans (Nat.le_trans (Nat.le_refl _) E316.1) (Nat.le_of_eq g317.symm)
    have F317_modCount : Fld Z h317 b317 "java/util/AbstractList" "modCount" "I" (.int (0 : Int32)) := D317 (Or.inl (tw hw 37 rfl)) (ty := .int) (by decide)
    have F317_elementData : Fld Z h317 b317 "java/util/ArrayList" "elementData" "[Ljava/lang/Object;" .null := D317 (Or.inl (tw hw 40 rfl)) (ty := (.array (.object "java/lang/Object"))) (by decide)
    have F317_size : Fld Z h317 b317 "java/util/ArrayList" "size" "I" (.int (0 : Int32)) := D317 (Or.inl (tw hw 74 rfl)) (ty := .int) (by decide)
    refine Go.dup (pc' := 40) C X317 at_39 rfl rfl ?_
    have O320 : Ext Z.heap h317 := (Ext.trans O318 E317)
    refine Go.callI (y := (⟨"java/util/ArrayList", "<init>", "()V"⟩ : MethodName)) (a := b317) (pc' := 43) C X317 rfl (tw hw 18 rfl) (tw hw 19 rfl) (by decide) (rm_alI l Z a0 hw b317 dc h317 O320 A317 F317_modCount F317_elementData F317_size SD n_b317) (tw hw 20 rfl) (tw hw 17 rfl) e317 (argsL := []) (rest := [(.ref b317), .null, (.ref kv_313), .null, (.ref b316), (.ref b316)]) (W := 6) rfl rfl pd_0 rfl (Nat.le_of_eq rfl) rfl (by decide) (by decide) (by decide) (by decide) rfl at_40 rfl ?_
    intro T319 v319 L319 X319 q319
    obtain ⟨rfl, N319q, K319, P319_0, P319_1, P319_2⟩ := q319
    have N319 := Fr.app N315 N319q
    have c322 : Exa Z T319.heap b316 "com/example/barrault/barrault/model/PathPattern$Step" := (Exa.keep (Exa.ext E317 A316) K319)
    have ne323 : b316 ≠ b317 := Nat.ne_of_lt (Nat.lt_of_lt_of_le A316.lt (Nat.le_trans (Nat.le_refl _) (Nat.le_of_eq g317.symm)))
    have c324 : Fld Z T319.heap b316 "com/example/barrault/barrault/model/PathPattern$Step" "axis" "Lcom/example/barrault/barrault/model/PathPattern$Axis;" .null := (Fld.keep (Fld.ext E317 F316_axis) K319 (ninS ne323 nin0))
    have c325 : Fld Z T319.heap b316 "com/example/barrault/barrault/model/PathPattern$Step" "kind" "Lcom/example/barrault/barrault/model/PathPattern$Kind;" .null := (Fld.keep (Fld.ext E317 F316_kind) K319 (ninS ne323 nin0))
    have c326 : Fld Z T319.heap b316 "com/example/barrault/barrault/model/PathPattern$Step" "name" "Ljava/lang/String;" .null := (Fld.keep (Fld.ext E317 F316_name) K319 (ninS ne323 nin0))
    have c327 : Fld Z T319.heap b316 "com/example/barrault/barrault/model/PathPattern$Step" "predicates" "Ljava/util/List;" .null := (Fld.keep (Fld.ext E317 F316_predicates) K319 (ninS ne323 nin0))
    have c328 : Exa Z T319.heap b317 "java/util/ArrayList" := (Exa.keep A317 K319)
    have O329 : Ext Z.heap T319.heap := (Ext.keep O320 K319 (allS n_b317 all0))
    refine Go.callI (y := (⟨"com/example/barrault/barrault/model/PathPattern$Step", "<init>", "(Lcom/example/barrault/barrault/model/PathPattern$Axis;Lcom/example/barrault/barrault/model/PathPattern$Kind;Ljava/lang/String;Ljava/util/List;)V"⟩ : MethodName)) (a := b316) (pc' := 46) C X319 rfl (tw hw 41 rfl) (tw hw 42 rfl) (by decide) (rm_stI l Z a0 hw b316 kv_313 b317 dc el T319.heap O329 c322 c324 c325 c326 c327 c328 P319_1 P319_2 SL n_b316) (tw hw 43 rfl) (tw hw 14 rfl) rfl (argsL := [.null, (.ref kv_313), .null, (.ref b317)]) (rest := [(.ref b316)]) (W := 1) rfl rfl pd_19 rfl (Nat.le_of_eq rfl) rfl (by decide) (by decide) (by decide) (by decide) rfl at_43 rfl ?_
    intro T321 v321 L321 X321 q321
    obtain ⟨rfl, N321q, K321, P321_0⟩ := q321
    have N321 := Fr.app N319 N321q
    refine Go.astore (Ls' := #[.val (.int p1), .val (.int p2), .val (.int p3), .val (.int p4), .val (.int (3 : Int32)), .val (.ref kv_313), .val (.ref kv_314), .val (.ref kv_315), .val (.ref b316), .unset, .unset, .unset, .unset, .unset]) (pc' := 48) C X321 at_46 rfl rfl rfl ?_
    have O331 : Ext Z.heap T321.heap := (Ext.keep O329 K321 (allS n_b316 all0))
    refine Go.newO (pc' := 51) C X321 (tw hw 12 rfl) (tw hw 13 rfl) (tw hw 14 rfl) rfl (by decide) (by decide) at_48 rfl ?_
    intro T330 h330 b330 X330 e330 g330 E330 A330 D330
    have n_b330 : Z.heap.size ≤ b330 := Nat.le_trans O331.1 (Nat.le_of_eq g330.symm)
    have z_b330 : h0.size ≤ b330 := Nat.le_trans (Nat.le_trans (Nat.le_trans (Nat.le_trans (Nat.le_trans (Nat.le_refl _) E316.1) E317.1) K319.1) K321.1) (Nat.le_of_eq g330.symm)
    have F330_axis : Fld Z h330 b330 "com/example/barrault/barrault/model/PathPattern$Step" "axis" "Lcom/example/barrault/barrault/model/PathPattern$Axis;" .null := D330 (Or.inr (tw hw 80 rfl)) (ty := (.object "com/example/barrault/barrault/model/PathPattern$Axis")) (by decide)
    have F330_kind : Fld Z h330 b330 "com/example/barrault/barrault/model/PathPattern$Step" "kind" "Lcom/example/barrault/barrault/model/PathPattern$Kind;" .null := D330 (Or.inr (tw hw 82 rfl)) (ty := (.object "com/example/barrault/barrault/model/PathPattern$Kind")) (by decide)
    have F330_name : Fld Z h330 b330 "com/example/barrault/barrault/model/PathPattern$Step" "name" "Ljava/lang/String;" .null := D330 (Or.inr (tw hw 84 rfl)) (ty := (.object "java/lang/String")) (by decide)
    have F330_predicates : Fld Z h330 b330 "com/example/barrault/barrault/model/PathPattern$Step" "predicates" "Ljava/util/List;" .null := D330 (Or.inr (tw hw 86 rfl)) (ty := (.object "java/util/List")) (by decide)
    refine Go.dup (pc' := 52) C X330 at_51 rfl rfl ?_
    refine Go.aconstNull (pc' := 53) C X330 at_52 rfl ?_
    refine Go.aload (pc' := 55) C X330 at_53 rfl rfl rfl ?_
    refine Go.aconstNull (pc' := 56) C X330 at_55 rfl ?_
    have O333 : Ext Z.heap h330 := (Ext.trans O331 E330)
    refine Go.newO (pc' := 59) C X330 (tw hw 15 rfl) (tw hw 16 rfl) (tw hw 17 rfl) e330 (by decide) (by decide) at_56 rfl ?_
    intro T332 h332 b332 X332 e332 g332 E332 A332 D332
    have n_b332 : Z.heap.size ≤ b332 := Nat.le_trans O333.1 (Nat.le_of_eq g332.symm)
    have z_b332 : h0.size ≤ b332 := Nat.le_trans (Nat.le_trans (Nat.le_trans (Nat.le_trans (Nat.le_trans (Nat.le_trans (Nat.le_refl _) E316.1) E317.1) K319.1) K321.1) E330.1) (Nat.le_of_eq g332.symm)
    have F332_modCount : Fld Z h332 b332 "java/util/AbstractList" "modCount" "I" (.int (0 : Int32)) := D332 (Or.inl (tw hw 37 rfl)) (ty := .int) (by decide)
    have F332_elementData : Fld Z h332 b332 "java/util/ArrayList" "elementData" "[Ljava/lang/Object;" .null := D332 (Or.inl (tw hw 40 rfl)) (ty := (.array (.object "java/lang/Object"))) (by decide)
    have F332_size : Fld Z h332 b332 "java/util/ArrayList" "size" "I" (.int (0 : Int32)) := D332 (Or.inl (tw hw 74 rfl)) (ty := .int) (by decide)
    refine Go.dup (pc' := 60) C X332 at_59 rfl rfl ?_
    have O335 : Ext Z.heap h332 := (Ext.trans O333 E332)
    refine Go.callI (y := (⟨"java/util/ArrayList", "<init>", "()V"⟩ : MethodName)) (a := b332) (pc' := 63) C X332 rfl (tw hw 18 rfl) (tw hw 19 rfl) (by decide) (rm_alI l Z a0 hw b332 dc h332 O335 A332 F332_modCount F332_elementData F332_size SD n_b332) (tw hw 20 rfl) (tw hw 17 rfl) e332 (argsL := []) (rest := [(.ref b332), .null, (.ref kv_314), .null, (.ref b330), (.ref b330)]) (W := 6) rfl rfl pd_0 rfl (Nat.le_of_eq rfl) rfl (by decide) (by decide) (by decide) (by decide) rfl at_60 rfl ?_
    intro T334 v334 L334 X334 q334
    obtain ⟨rfl, N334q, K334, P334_0, P334_1, P334_2⟩ := q334
    have N334 := Fr.app N321 N334q
    have c337 : Exa Z T334.heap b330 "com/example/barrault/barrault/model/PathPattern$Step" := (Exa.keep (Exa.ext E332 A330) K334)
    have ne338 : b330 ≠ b332 := Nat.ne_of_lt (Nat.lt_of_lt_of_le A330.lt (Nat.le_trans (Nat.le_refl _) (Nat.le_of_eq g332.symm)))
    have c339 : Fld Z T334.heap b330 "com/example/barrault/barrault/model/PathPattern$Step" "axis" "Lcom/example/barrault/barrault/model/PathPattern$Axis;" .null := (Fld.keep (Fld.ext E332 F330_axis) K334 (ninS ne338 nin0))
    have c340 : Fld Z T334.heap b330 "com/example/barrault/barrault/model/PathPattern$Step" "kind" "Lcom/example/barrault/barrault/model/PathPattern$Kind;" .null := (Fld.keep (Fld.ext E332 F330_kind) K334 (ninS ne338 nin0))
    have c341 : Fld Z T334.heap b330 "com/example/barrault/barrault/model/PathPattern$Step" "name" "Ljava/lang/String;" .null := (Fld.keep (Fld.ext E332 F330_name) K334 (ninS ne338 nin0))
    have c342 : Fld Z T334.heap b330 "com/example/barrault/barrault/model/PathPattern$Step" "predicates" "Ljava/util/List;" .null := (Fld.keep (Fld.ext E332 F330_predicates) K334 (ninS ne338 nin0))
    have c343 : Exa Z T334.heap b332 "java/util/ArrayList" := (Exa.keep A332 K334)
    have O344 : Ext Z.heap T334.heap := (Ext.keep O335 K334 (allS n_b332 all0))
    refine Go.callI (y := (⟨"com/example/barrault/barrault/model/PathPattern$Step", "<init>", "(Lcom/example/barrault/barrault/model/PathPattern$Axis;Lcom/example/barrault/barrault/model/PathPattern$Kind;Ljava/lang/String;Ljava/util/List;)V"⟩ : MethodName)) (a := b330) (pc' := 66) C X334 rfl (tw hw 41 rfl) (tw hw 42 rfl) (by decide) (rm_stI l Z a0 hw b330 kv_314 b332 dc el T334.heap O344 c337 c339 c340 c341 c342 c343 P334_1 P334_2 SL n_b330) (tw hw 43 rfl) (tw hw 14 rfl) rfl (argsL := [.null, (.ref kv_314), .null, (.ref b332)]) (rest := [(.ref b330)]) (W := 1) rfl rfl pd_19 rfl (Nat.le_of_eq rfl) rfl (by decide) (by decide) (by decide) (by decide) rfl at_63 rfl ?_
    intro T336 v336 L336 X336 q336
    obtain ⟨rfl, N336q, K336, P336_0⟩ := q336
    have N336 := Fr.app N334 N336q
    refine Go.astore (Ls' := #[.val (.int p1), .val (.int p2), .val (.int p3), .val (.int p4), .val (.int (3 : Int32)), .val (.ref kv_313), .val (.ref kv_314), .val (.ref kv_315), .val (.ref b316), .val (.ref b330), .unset, .unset, .unset, .unset]) (pc' := 68) C X336 at_66 rfl rfl rfl ?_
    have O346 : Ext Z.heap T336.heap := (Ext.keep O344 K336 (allS n_b330 all0))
    refine Go.newO (pc' := 71) C X336 (tw hw 12 rfl) (tw hw 13 rfl) (tw hw 14 rfl) rfl (by decide) (by decide) at_68 rfl ?_
    intro T345 h345 b345 X345 e345 g345 E345 A345 D345
    have n_b345 : Z.heap.size ≤ b345 := Nat.le_trans O346.1 (Nat.le_of_eq g345.symm)
    have z_b345 : h0.size ≤ b345 := Nat.le_trans (Nat.le_trans (Nat.le_trans (Nat.le_trans (Nat.le_trans (Nat.le_trans (Nat.le_trans (Nat.le_trans (Nat.le_trans (Nat.le_refl _) E316.1) E317.1) K319.1) K321.1) E330.1) E332.1) K334.1) K336.1) (Nat.le_of_eq g345.symm)
    have F345_axis : Fld Z h345 b345 "com/example/barrault/barrault/model/PathPattern$Step" "axis" "Lcom/example/barrault/barrault/model/PathPattern$Axis;" .null := D345 (Or.inr (tw hw 80 rfl)) (ty := (.object "com/example/barrault/barrault/model/PathPattern$Axis")) (by decide)
    have F345_kind : Fld Z h345 b345 "com/example/barrault/barrault/model/PathPattern$Step" "kind" "Lcom/example/barrault/barrault/model/PathPattern$Kind;" .null := D345 (Or.inr (tw hw 82 rfl)) (ty := (.object "com/example/barrault/barrault/model/PathPattern$Kind")) (by decide)
    have F345_name : Fld Z h345 b345 "com/example/barrault/barrault/model/PathPattern$Step" "name" "Ljava/lang/String;" .null := D345 (Or.inr (tw hw 84 rfl)) (ty := (.object "java/lang/String")) (by decide)
    have F345_predicates : Fld Z h345 b345 "com/example/barrault/barrault/model/PathPattern$Step" "predicates" "Ljava/util/List;" .null := D345 (Or.inr (tw hw 86 rfl)) (ty := (.object "java/util/List")) (by decide)
    refine Go.dup (pc' := 72) C X345 at_71 rfl rfl ?_
    refine Go.aconstNull (pc' := 73) C X345 at_72 rfl ?_
    refine Go.aload (pc' := 75) C X345 at_73 rfl rfl rfl ?_
    refine Go.aconstNull (pc' := 76) C X345 at_75 rfl ?_
    have O348 : Ext Z.heap h345 := (Ext.trans O346 E345)
    refine Go.newO (pc' := 79) C X345 (tw hw 15 rfl) (tw hw 16 rfl) (tw hw 17 rfl) e345 (by decide) (by decide) at_76 rfl ?_
    intro T347 h347 b347 X347 e347 g347 E347 A347 D347
    have n_b347 : Z.heap.size ≤ b347 := Nat.le_trans O348.1 (Nat.le_of_eq g347.symm)
    have z_b347 : h0.size ≤ b347 := Nat.le_trans (Nat.le_trans (Nat.le_trans (Nat.le_trans (Nat.le_trans (Nat.le_trans (Nat.le_trans (Nat.le_trans (Nat.le_trans (Nat.le_trans (Nat.le_refl _) E316.1) E317.1) K319.1) K321.1) E330.1) E332.1) K334.1) K336.1) E345.1) (Nat.le_of_eq g347.symm)
    have F347_modCount : Fld Z h347 b347 "java/util/AbstractList" "modCount" "I" (.int (0 : Int32)) := D347 (Or.inl (tw hw 37 rfl)) (ty := .int) (by decide)
    have F347_elementData : Fld Z h347 b347 "java/util/ArrayList" "elementData" "[Ljava/lang/Object;" .null := D347 (Or.inl (tw hw 40 rfl)) (ty := (.array (.object "java/lang/Object"))) (by decide)
    have F347_size : Fld Z h347 b347 "java/util/ArrayList" "size" "I" (.int (0 : Int32)) := D347 (Or.inl (tw hw 74 rfl)) (ty := .int) (by decide)
    refine Go.dup (pc' := 80) C X347 at_79 rfl rfl ?_
    have O350 : Ext Z.heap h347 := (Ext.trans O348 E347)
    refine Go.callI (y := (⟨"java/util/ArrayList", "<init>", "()V"⟩ : MethodName)) (a := b347) (pc' := 83) C X347 rfl (tw hw 18 rfl) (tw hw 19 rfl) (by decide) (rm_alI l Z a0 hw b347 dc h347 O350 A347 F347_modCount F347_elementData F347_size SD n_b347) (tw hw 20 rfl) (tw hw 17 rfl) e347 (argsL := []) (rest := [(.ref b347), .null, (.ref kv_315), .null, (.ref b345), (.ref b345)]) (W := 6) rfl rfl pd_0 rfl (Nat.le_of_eq rfl) rfl (by decide) (by decide) (by decide) (by decide) rfl at_80 rfl ?_
    intro T349 v349 L349 X349 q349
    obtain ⟨rfl, N349q, K349, P349_0, P349_1, P349_2⟩ := q349
    have N349 := Fr.app N336 N349q
    have c352 : Exa Z T349.heap b345 "com/example/barrault/barrault/model/PathPattern$Step" := (Exa.keep (Exa.ext E347 A345) K349)
    have ne353 : b345 ≠ b347 := Nat.ne_of_lt (Nat.lt_of_lt_of_le A345.lt (Nat.le_trans (Nat.le_refl _) (Nat.le_of_eq g347.symm)))
    have c354 : Fld Z T349.heap b345 "com/example/barrault/barrault/model/PathPattern$Step" "axis" "Lcom/example/barrault/barrault/model/PathPattern$Axis;" .null := (Fld.keep (Fld.ext E347 F345_axis) K349 (ninS ne353 nin0))
    have c355 : Fld Z T349.heap b345 "com/example/barrault/barrault/model/PathPattern$Step" "kind" "Lcom/example/barrault/barrault/model/PathPattern$Kind;" .null := (Fld.keep (Fld.ext E347 F345_kind) K349 (ninS ne353 nin0))
    have c356 : Fld Z T349.heap b345 "com/example/barrault/barrault/model/PathPattern$Step" "name" "Ljava/lang/String;" .null := (Fld.keep (Fld.ext E347 F345_name) K349 (ninS ne353 nin0))
    have c357 : Fld Z T349.heap b345 "com/example/barrault/barrault/model/PathPattern$Step" "predicates" "Ljava/util/List;" .null := (Fld.keep (Fld.ext E347 F345_predicates) K349 (ninS ne353 nin0))
    have c358 : Exa Z T349.heap b347 "java/util/ArrayList" := (Exa.keep A347 K349)
    have O359 : Ext Z.heap T349.heap := (Ext.keep O350 K349 (allS n_b347 all0))
    refine Go.callI (y := (⟨"com/example/barrault/barrault/model/PathPattern$Step", "<init>", "(Lcom/example/barrault/barrault/model/PathPattern$Axis;Lcom/example/barrault/barrault/model/PathPattern$Kind;Ljava/lang/String;Ljava/util/List;)V"⟩ : MethodName)) (a := b345) (pc' := 86) C X349 rfl (tw hw 41 rfl) (tw hw 42 rfl) (by decide) (rm_stI l Z a0 hw b345 kv_315 b347 dc el T349.heap O359 c352 c354 c355 c356 c357 c358 P349_1 P349_2 SL n_b345) (tw hw 43 rfl) (tw hw 14 rfl) rfl (argsL := [.null, (.ref kv_315), .null, (.ref b347)]) (rest := [(.ref b345)]) (W := 1) rfl rfl pd_19 rfl (Nat.le_of_eq rfl) rfl (by decide) (by decide) (by decide) (by decide) rfl at_83 rfl ?_
    intro T351 v351 L351 X351 q351
    obtain ⟨rfl, N351q, K351, P351_0⟩ := q351
    have N351 := Fr.app N349 N351q
    refine Go.astore (Ls' := #[.val (.int p1), .val (.int p2), .val (.int p3), .val (.int p4), .val (.int (3 : Int32)), .val (.ref kv_313), .val (.ref kv_314), .val (.ref kv_315), .val (.ref b316), .val (.ref b330), .val (.ref b345), .unset, .unset, .unset]) (pc' := 88) C X351 at_86 rfl rfl rfl ?_
    have O361 : Ext Z.heap T351.heap := (Ext.keep O359 K351 (allS n_b345 all0))
    refine Go.newO (pc' := 91) C X351 (tw hw 15 rfl) (tw hw 16 rfl) (tw hw 17 rfl) rfl (by decide) (by decide) at_88 rfl ?_
    intro T360 h360 b360 X360 e360 g360 E360 A360 D360
    have n_b360 : Z.heap.size ≤ b360 := Nat.le_trans O361.1 (Nat.le_of_eq g360.symm)
    have z_b360 : h0.size ≤ b360 := Nat.le_trans (Nat.le_trans (Nat.le_trans (Nat.le_trans (Nat.le_trans (Nat.le_trans (Nat.le_trans (Nat.le_trans (Nat.le_trans (Nat.le_trans (Nat.le_trans (Nat.le_trans (Nat.le_trans (Nat.le_refl _) E316.1) E317.1) K319.1) K321.1) E330.1) E332.1) K334.1) K336.1) E345.1) E347.1) K349.1) K351.1) (Nat.le_of_eq g360.symm)
    have F360_modCount : Fld Z h360 b360 "java/util/AbstractList" "modCount" "I" (.int (0 : Int32)) := D360 (Or.inl (tw hw 37 rfl)) (ty := .int) (by decide)
    have F360_elementData : Fld Z h360 b360 "java/util/ArrayList" "elementData" "[Ljava/lang/Object;" .null := D360 (Or.inl (tw hw 40 rfl)) (ty := (.array (.object "java/lang/Object"))) (by decide)
    have F360_size : Fld Z h360 b360 "java/util/ArrayList" "size" "I" (.int (0 : Int32)) := D360 (Or.inl (tw hw 74 rfl)) (ty := .int) (by decide)
    refine Go.dup (pc' := 92) C X360 at_91 rfl rfl ?_
    have O363 : Ext Z.heap h360 := (Ext.trans O361 E360)
    refine Go.callI (y := (⟨"java/util/ArrayList", "<init>", "()V"⟩ : MethodName)) (a := b360) (pc' := 95) C X360 rfl (tw hw 18 rfl) (tw hw 19 rfl) (by decide) (rm_alI l Z a0 hw b360 dc h360 O363 A360 F360_modCount F360_elementData F360_size SD n_b360) (tw hw 20 rfl) (tw hw 17 rfl) e360 (argsL := []) (rest := [(.ref b360)]) (W := 1) rfl rfl pd_0 rfl (Nat.le_of_eq rfl) rfl (by decide) (by decide) (by decide) (by decide) rfl at_92 rfl ?_
    intro T362 v362 L362 X362 q362
    obtain ⟨rfl, N362q, K362, P362_0, P362_1, P362_2⟩ := q362
    have N362 := Fr.app N351 N362q
    refine Go.astore (Ls' := #[.val (.int p1), .val (.int p2), .val (.int p3), .val (.int p4), .val (.int (3 : Int32)), .val (.ref kv_313), .val (.ref kv_314), .val (.ref kv_315), .val (.ref b316), .val (.ref b330), .val (.ref b345), .val (.ref b360), .unset, .unset]) (pc' := 97) C X362 at_95 rfl rfl rfl ?_
    refine Go.aload (pc' := 99) C X362 at_97 rfl rfl rfl ?_
    refine Go.aload (pc' := 101) C X362 at_99 rfl rfl rfl ?_
    have c365 : Exa Z T362.heap b360 "java/util/ArrayList" := (Exa.keep A360 K362)
    have c366 : Exa Z T362.heap b316 "com/example/barrault/barrault/model/PathPattern$Step" := (Exa.keep (Exa.ext E360 (Exa.keep (Exa.keep (Exa.ext E347 (Exa.ext E345 (Exa.keep (Exa.keep (Exa.ext E332 (Exa.ext E330 (Exa.keep c322 K321))) K334) K336))) K349) K351)) K362)
    have O367 : Ext Z.heap T362.heap := (Ext.keep O363 K362 (allS n_b360 all0))
    refine Go.callF (y := (⟨"java/util/List", "add", "(Ljava/lang/Object;)Z"⟩ : MethodName)) (z := (⟨"java/util/ArrayList", "add", "(Ljava/lang/Object;)Z"⟩ : MethodName)) (a := b360) (pc' := 106) C X362 (tw hw 87 rfl) (tw hw 88 rfl) (tw hw 89 rfl) (tw hw 90 rfl) (tw hw 91 rfl) (tw hw 92 rfl) (tw hw 93 rfl) (tw hw 94 rfl) rfl c365 (by decide) (rm_add0 l Z a0 hw b360 b316 dc kd ((0 : Int32)) T362.heap O367 c365 c366 P362_0 P362_2 P362_1 SD AD n_b360) (tw hw 95 rfl) (tw hw 17 rfl) rfl (argsL := [(.ref b316)]) (rest := []) (W := 0) rfl rfl pd_20 rfl (Nat.le_of_eq rfl) rfl (by decide) (by decide) (by decide) (by decide) at_101 rfl ?_
    intro T364 v364 L364 X364 q364
    obtain ⟨w_364, kw_364, rfl, N364q, K364, B364_0, P364_0, P364_1, P364_2, P364_3, P364_4, p364_0⟩ := q364
    have N364 := Fr.app N362 N364q
    have n_w_364 : Z.heap.size ≤ w_364 := Nat.le_trans O367.1 B364_0
    have z_w_364 : h0.size ≤ w_364 := Nat.le_trans (Nat.le_trans (Nat.le_trans (Nat.le_trans (Nat.le_trans (Nat.le_trans (Nat.le_trans (Nat.le_trans (Nat.le_trans (Nat.le_trans (Nat.le_trans (Nat.le_trans (Nat.le_trans (Nat.le_trans (Nat.le_trans (Nat.le_refl _) E316.1) E317.1) K319.1) K321.1) E330.1) E332.1) K334.1) K336.1) E345.1) E347.1) K349.1) K351.1) E360.1) K362.1) B364_0
    refine Go.pop (pc' := 107) C X364 at_106 rfl rfl ?_
    refine Go.iload (pc' := 109) C X364 at_107 rfl rfl ?_
    refine Go.iconst (z := (2 : Int32)) (pc' := 110) C X364 at_109 rfl rfl ?_
    refine Go.icmpNo (pc' := 113) C X364 at_110 (flt (x := (3 : Int32)) (y := (2 : Int32)) (by decide)).1 rfl ?_
    refine Go.aload (pc' := 115) C X364 at_113 rfl rfl rfl ?_
    refine Go.aload (pc' := 117) C X364 at_115 rfl rfl rfl ?_
    have c370 : Exa Z T364.heap b360 "java/util/ArrayList" := (Exa.keep c365 K364)
    have c371 : Exa Z T364.heap b330 "com/example/barrault/barrault/model/PathPattern$Step" := (Exa.keep (Exa.keep (Exa.ext E360 (Exa.keep (Exa.keep (Exa.ext E347 (Exa.ext E345 (Exa.keep c337 K336))) K349) K351)) K362) K364)
    have O372 : Ext Z.heap T364.heap := (Ext.keep O367 K364 (allS n_b360 all0))
    refine Go.callF (y := (⟨"java/util/List", "add", "(Ljava/lang/Object;)Z"⟩ : MethodName)) (z := (⟨"java/util/ArrayList", "add", "(Ljava/lang/Object;)Z"⟩ : MethodName)) (a := b360) (pc' := 122) C X364 (tw hw 87 rfl) (tw hw 88 rfl) (tw hw 89 rfl) (tw hw 90 rfl) (tw hw 91 rfl) (tw hw 92 rfl) (tw hw 93 rfl) (tw hw 94 rfl) rfl c370 (by decide) (rm_add1 l Z a0 hw b360 b316 b330 w_364 kw_364 (((0 : Int32) + (1 : Int32))) T364.heap O372 c370 c371 P364_0 P364_1 P364_2 P364_4 P364_3 n_b360 n_w_364 p364_0) (tw hw 95 rfl) (tw hw 17 rfl) rfl (argsL := [(.ref b330)]) (rest := []) (W := 0) rfl rfl pd_20 rfl (Nat.le_of_eq rfl) rfl (by decide) (by decide) (by decide) (by decide) at_117 rfl ?_
    intro T369 v369 L369 X369 q369
    obtain ⟨rfl, N369q, K369, P369_0, P369_1, P369_2, P369_3⟩ := q369
    have N369 := Fr.app N364 N369q
    refine Go.pop (pc' := 123) C X369 at_122 rfl rfl ?_
    refine Go.iload (pc' := 125) C X369 at_123 rfl rfl ?_
    refine Go.iconst (z := (3 : Int32)) (pc' := 126) C X369 at_125 rfl rfl ?_
    refine Go.icmpNo (pc' := 129) C X369 at_126 (flt (x := (3 : Int32)) (y := (3 : Int32)) (by decide)).1 rfl ?_
    refine Go.aload (pc' := 131) C X369 at_129 rfl rfl rfl ?_
    refine Go.aload (pc' := 133) C X369 at_131 rfl rfl rfl ?_
    have c375 : Exa Z T369.heap b360 "java/util/ArrayList" := (Exa.keep c370 K369)
    have c376 : Exa Z T369.heap b345 "com/example/barrault/barrault/model/PathPattern$Step" := (Exa.keep (Exa.keep (Exa.keep (Exa.ext E360 (Exa.keep c352 K351)) K362) K364) K369)
    have c377 : Exa Z T369.heap w_364 "[Ljava/lang/Object;" := (Exa.keep P364_4 K369)
    have O378 : Ext Z.heap T369.heap := (Ext.keep O372 K369 (allS n_b360 (allS n_w_364 all0)))
    refine Go.callF (y := (⟨"java/util/List", "add", "(Ljava/lang/Object;)Z"⟩ : MethodName)) (z := (⟨"java/util/ArrayList", "add", "(Ljava/lang/Object;)Z"⟩ : MethodName)) (a := b360) (pc' := 138) C X369 (tw hw 87 rfl) (tw hw 88 rfl) (tw hw 89 rfl) (tw hw 90 rfl) (tw hw 91 rfl) (tw hw 92 rfl) (tw hw 93 rfl) (tw hw 94 rfl) rfl c375 (by decide) (rm_add2 l Z a0 hw b360 b316 b330 b345 w_364 kw_364 ((((0 : Int32) + (1 : Int32)) + (1 : Int32))) T369.heap O378 c375 c376 P369_0 P369_1 P369_2 c377 P369_3 n_b360 n_w_364 p364_0) (tw hw 95 rfl) (tw hw 17 rfl) rfl (argsL := [(.ref b345)]) (rest := []) (W := 0) rfl rfl pd_20 rfl (Nat.le_of_eq rfl) rfl (by decide) (by decide) (by decide) (by decide) at_133 rfl ?_
    intro T374 v374 L374 X374 q374
    obtain ⟨rfl, N374q, K374, P374_0, P374_1, P374_2, P374_3⟩ := q374
    have N374 := Fr.app N369 N374q
    refine Go.pop (pc' := 139) C X374 at_138 rfl rfl ?_
    have O380 : Ext Z.heap T374.heap := (Ext.keep O378 K374 (allS n_b360 (allS n_w_364 all0)))
    refine Go.newO (pc' := 142) C X374 (tw hw 120 rfl) (tw hw 121 rfl) (tw hw 122 rfl) rfl (by decide) (by decide) at_139 rfl ?_
    intro T379 h379 b379 X379 e379 g379 E379 A379 D379
    have n_b379 : Z.heap.size ≤ b379 := Nat.le_trans O380.1 (Nat.le_of_eq g379.symm)
    have z_b379 : h0.size ≤ b379 := Nat.le_trans (Nat.le_trans (Nat.le_trans (Nat.le_trans (Nat.le_trans (Nat.le_trans (Nat.le_trans (Nat.le_trans (Nat.le_trans (Nat.le_trans (Nat.le_trans (Nat.le_trans (Nat.le_trans (Nat.le_trans (Nat.le_trans (Nat.le_trans (Nat.le_trans (Nat.le_trans (Nat.le_refl _) E316.1) E317.1) K319.1) K321.1) E330.1) E332.1) K334.1) K336.1) E345.1) E347.1) K349.1) K351.1) E360.1) K362.1) K364.1) K369.1) K374.1) (Nat.le_of_eq g379.symm)
    have F379_text : Fld Z h379 b379 "com/example/barrault/barrault/model/PathPattern" "text" "Ljava/lang/String;" .null := D379 (Or.inr (tw hw 200 rfl)) (ty := (.object "java/lang/String")) (by decide)
    have F379_steps : Fld Z h379 b379 "com/example/barrault/barrault/model/PathPattern" "steps" "Ljava/util/List;" .null := D379 (Or.inr (tw hw 202 rfl)) (ty := (.object "java/util/List")) (by decide)
    refine Go.dup (pc' := 143) C X379 at_142 rfl rfl ?_
    have O382 : Ext Z.heap h379 := (Ext.trans O380 E379)
    have Si383 : Sin s s h379 := Sin.mono Si0 (Nat.le_trans (Nat.le_trans (Nat.le_trans (Nat.le_trans (Nat.le_trans (Nat.le_trans (Nat.le_trans (Nat.le_trans (Nat.le_trans (Nat.le_trans (Nat.le_trans (Nat.le_trans (Nat.le_trans (Nat.le_trans (Nat.le_trans (Nat.le_trans (Nat.le_trans (Nat.le_trans (Nat.le_refl _) E316.1) E317.1) K319.1) K321.1) E330.1) E332.1) K334.1) K336.1) E345.1) E347.1) K349.1) K351.1) E360.1) K362.1) K364.1) K369.1) K374.1) E379.1)
    refine Go.ldcW (pc' := 145) (n := 0) C X379 Si383 (tw hw 123 rfl) (wS hw) e379 (by decide) (by decide) (by decide) (by decide) at_143 rfl ?_
    intro T381 h381 b381 sC381 C381 X381 e381 Si381 E381
    refine Go.aload (pc' := 147) C381 X381 at_145 rfl rfl rfl ?_
    have c385 : Exa Z h381 b379 "com/example/barrault/barrault/model/PathPattern" := (Exa.ext E381 A379)
    have c386 : Fld Z h381 b379 "com/example/barrault/barrault/model/PathPattern" "text" "Ljava/lang/String;" .null := (Fld.ext E381 F379_text)
    have c387 : Fld Z h381 b379 "com/example/barrault/barrault/model/PathPattern" "steps" "Ljava/util/List;" .null := (Fld.ext E381 F379_steps)
    have c388 : Exa Z h381 b360 "java/util/ArrayList" := (Exa.ext E381 (Exa.ext E379 (Exa.keep c375 K374)))
    have c389 : Fld Z h381 b360 "java/util/ArrayList" "elementData" "[Ljava/lang/Object;" (.ref w_364) := (Fld.ext E381 (Fld.ext E379 P374_1))
    have c390 : Fld Z h381 b360 "java/util/ArrayList" "size" "I" (.int (3 : Int32)) := (Fld.ext E381 (Fld.ext E379 P374_2))
    have c391 : Exa Z h381 w_364 "[Ljava/lang/Object;" := (Exa.ext E381 (Exa.ext E379 (Exa.keep c377 K374)))
    have c392 : AL Z h381 w_364 kw_364 (.object "java/lang/Object") [(.ref b316), (.ref b330), (.ref b345), .null, .null, .null, .null, .null, .null, .null] := (AL.ext E381 (AL.ext E379 P374_3))
    have c393 : Exa Z h381 b316 "com/example/barrault/barrault/model/PathPattern$Step" := (Exa.ext E381 (Exa.ext E379 (Exa.keep (Exa.keep (Exa.keep c366 K364) K369) K374)))
    have c394 : Exa Z h381 b330 "com/example/barrault/barrault/model/PathPattern$Step" := (Exa.ext E381 (Exa.ext E379 (Exa.keep (Exa.keep c371 K369) K374)))
    have c395 : Exa Z h381 b345 "com/example/barrault/barrault/model/PathPattern$Step" := (Exa.ext E381 (Exa.ext E379 (Exa.keep c376 K374)))
    have O396 : Ext Z.heap h381 := (Ext.trans O382 E381)
    refine Go.callI (y := (⟨"com/example/barrault/barrault/model/PathPattern", "<init>", "(Ljava/lang/String;Ljava/util/List;)V"⟩ : MethodName)) (a := b379) (pc' := 150) C381 X381 rfl (tw hw 131 rfl) (tw hw 132 rfl) (by decide) (rm_jI3 l Z a0 hw b379 b381 b360 b316 b330 b345 w_364 kw_364 mr h381 O396 c385 c386 c387 c388 c389 c390 c391 c392 c393 c394 c395 hM n_b379) (tw hw 133 rfl) (tw hw 122 rfl) e381 (argsL := [(.ref b381), (.ref b360)]) (rest := [(.ref b379)]) (W := 1) rfl rfl pd_21 rfl (Nat.le_of_eq rfl) rfl (by decide) (by decide) (by decide) (by decide) rfl at_147 rfl ?_
    intro T384 v384 L384 X384 q384
    obtain ⟨r_384, q_384, kq_384, rfl, N384q, K384, B384_0, B384_1, P384_0, P384_1, P384_2, P384_3⟩ := q384
    have N384 := Fr.app N374 N384q
    have n_r_384 : Z.heap.size ≤ r_384 := Nat.le_trans O396.1 B384_0
    have z_r_384 : h0.size ≤ r_384 := Nat.le_trans (Nat.le_trans (Nat.le_trans (Nat.le_trans (Nat.le_trans (Nat.le_trans (Nat.le_trans (Nat.le_trans (Nat.le_trans (Nat.le_trans (Nat.le_trans (Nat.le_trans (Nat.le_trans (Nat.le_trans (Nat.le_trans (Nat.le_trans (Nat.le_trans (Nat.le_trans (Nat.le_trans (Nat.le_trans (Nat.le_refl _) E316.1) E317.1) K319.1) K321.1) E330.1) E332.1) K334.1) K336.1) E345.1) E347.1) K349.1) K351.1) E360.1) K362.1) K364.1) K369.1) K374.1) E379.1) E381.1) B384_0
    have n_q_384 : Z.heap.size ≤ q_384 := Nat.le_trans O396.1 B384_1
    have z_q_384 : h0.size ≤ q_384 := Nat.le_trans (Nat.le_trans (Nat.le_trans (Nat.le_trans (Nat.le_trans (Nat.le_trans (Nat.le_trans (Nat.le_trans (Nat.le_trans (Nat.le_trans (Nat.le_trans (Nat.le_trans (Nat.le_trans (Nat.le_trans (Nat.le_trans (Nat.le_trans (Nat.le_trans (Nat.le_trans (Nat.le_trans (Nat.le_trans (Nat.le_refl _) E316.1) E317.1) K319.1) K321.1) E330.1) E332.1) K334.1) K336.1) E345.1) E347.1) K349.1) K351.1) E360.1) K362.1) K364.1) K369.1) K374.1) E379.1) E381.1) B384_1
    refine Go.astore (Ls' := #[.val (.int p1), .val (.int p2), .val (.int p3), .val (.int p4), .val (.int (3 : Int32)), .val (.ref kv_313), .val (.ref kv_314), .val (.ref kv_315), .val (.ref b316), .val (.ref b330), .val (.ref b345), .val (.ref b360), .val (.ref b379), .unset]) (pc' := 152) C381 X384 at_150 rfl rfl rfl ?_
    refine Go.iload (pc' := 154) C381 X384 at_152 rfl rfl ?_
    refine Go.iconst (z := (1 : Int32)) (pc' := 155) C381 X384 at_154 rfl rfl ?_
    refine Go.icmpYes (pc' := 165) C381 X384 at_155 (feq (x := (3 : Int32)) (y := (1 : Int32)) (by decide)).2 (by decide) (by decide) ?_
    refine Go.iload (pc' := 167) C381 X384 at_165 rfl rfl ?_
    refine Go.iconst (z := (2 : Int32)) (pc' := 168) C381 X384 at_167 rfl rfl ?_
    refine Go.icmpYes (pc' := 178) C381 X384 at_168 (feq (x := (3 : Int32)) (y := (2 : Int32)) (by decide)).2 (by decide) (by decide) ?_
    refine Go.aload (pc' := 180) C381 X384 at_178 rfl rfl rfl ?_
    refine Go.astore (Ls' := #[.val (.int p1), .val (.int p2), .val (.int p3), .val (.int p4), .val (.int (3 : Int32)), .val (.ref kv_313), .val (.ref kv_314), .val (.ref kv_315), .val (.ref b316), .val (.ref b330), .val (.ref b345), .val (.ref b360), .val (.ref b379), .val (.ref kv_315)]) (pc' := 182) C381 X384 at_180 rfl rfl rfl ?_
    by_cases hke : kv_315 = ke
    · refine Go.aload (pc' := 184) C381 X384 at_182 rfl rfl rfl ?_
      have c400 : Exa Z T384.heap b345 "com/example/barrault/barrault/model/PathPattern$Step" := (Exa.keep c395 K384)
      have ne401 : b345 ≠ b360 := Nat.ne_of_lt (Nat.lt_of_lt_of_le A345.lt (Nat.le_trans (Nat.le_trans (Nat.le_trans (Nat.le_trans (Nat.le_refl _) E347.1) K349.1) K351.1) (Nat.le_of_eq g360.symm)))
      have ne402 : b345 ≠ w_364 := Nat.ne_of_lt (Nat.lt_of_lt_of_le A345.lt (Nat.le_trans (Nat.le_trans (Nat.le_trans (Nat.le_trans (Nat.le_trans (Nat.le_trans (Nat.le_refl _) E347.1) K349.1) K351.1) E360.1) K362.1) B364_0))
      have ne403 : b345 ≠ b379 := Nat.ne_of_lt (Nat.lt_of_lt_of_le A345.lt (Nat.le_trans (Nat.le_trans (Nat.le_trans (Nat.le_trans (Nat.le_trans (Nat.le_trans (Nat.le_trans (Nat.le_trans (Nat.le_trans (Nat.le_refl _) E347.1) K349.1) K351.1) E360.1) K362.1) K364.1) K369.1) K374.1) (Nat.le_of_eq g379.symm)))
      have c404 : Fld Z T384.heap b345 "com/example/barrault/barrault/model/PathPattern$Step" "kind" "Lcom/example/barrault/barrault/model/PathPattern$Kind;" (.ref kv_315) := (Fld.keep (Fld.ext E381 (Fld.ext E379 (Fld.keep (Fld.keep (Fld.keep (Fld.keep (Fld.ext E360 P351_0) K362 (ninS ne401 nin0)) K364 (ninS ne401 nin0)) K369 (ninS ne401 (ninS ne402 nin0))) K374 (ninS ne401 (ninS ne402 nin0))))) K384 (ninS ne403 nin0))
      have O405 : Ext Z.heap T384.heap := (Ext.keep O396 K384 (allS n_b379 all0))
      have c406 : Exa Z T384.heap b379 "com/example/barrault/barrault/model/PathPattern" := (Exa.keep c385 K384)
      refine Go.callV (y := (⟨"com/example/barrault/barrault/model/PathPattern", "selectsElements", "()Z"⟩ : MethodName)) (z := (⟨"com/example/barrault/barrault/model/PathPattern", "selectsElements", "()Z"⟩ : MethodName)) (a := b379) (pc' := 187) C381 X384 (tw hw 203 rfl) (tw hw 204 rfl) (notFace_at C381.2.1 (tw hw 206 rfl)) (tw hw 206 rfl) (tw hw 205 rfl) c406 (by decide) (rm_se3 l Z a0 hw b379 kv_315 ke r_384 q_384 kq_384 b316 b330 b345 T384.heap O405 P384_0 P384_1 P384_2 P384_3 c400 c404 SK0) (tw hw 207 rfl) (tw hw 122 rfl) rfl (argsL := []) (rest := []) (W := 0) rfl rfl pd_12 rfl (Nat.le_of_eq rfl) rfl (by decide) (by decide) (by decide) (by decide) at_184 rfl ?_
      intro T399 v399 L399 X399 q399
      obtain ⟨rfl, rfl, e399⟩ := q399
      have N399 := Fr.app N384 (Fr.nil _)
      refine Go.aload (pc' := 189) C381 X399 at_187 rfl rfl rfl ?_
      refine Go.getS (pc' := 192) (host := "") C381 X399 (Or.inl (tw hw 5 rfl)) Via.refl e399 (SK0.ext O405) at_189 rfl ?_
      intro T407 X407 e407
      refine Go.acmpNo (pc' := 195) C381 X407 at_192 rfl rfl (XT.aa_ne_f (congrArg Value.ref hke)) rfl ?_
      refine Go.iconst (z := (1 : Int32)) (pc' := 196) C381 X407 at_195 rfl rfl ?_
      refine Go.goto (pc' := 200) C381 X407 at_196 (by decide) (by decide) ?_
      refine Go.icmpNo (pc' := 203) C381 X407 at_200 (teq (x := (if kv_315 = ke then (1 : Int32) else 0)) (y := (1 : Int32)) (if_pos hke)).2 rfl ?_
      refine Go.iconst (z := (1 : Int32)) (pc' := 204) C381 X407 at_203 rfl rfl ?_
      refine Go.goto (pc' := 208) C381 X407 at_204 (by decide) (by decide) ?_
      have K409 : Keep h0 T384.heap [] := (((((((((((((((((((((Keep.refl h0 []).ext E316).ext E317).trans K319 (allS (Or.inr z_b317) all0)).trans K321 (allS (Or.inr z_b316) all0)).ext E330).ext E332).trans K334 (allS (Or.inr z_b332) all0)).trans K336 (allS (Or.inr z_b330) all0)).ext E345).ext E347).trans K349 (allS (Or.inr z_b347) all0)).trans K351 (allS (Or.inr z_b345) all0)).ext E360).trans K362 (allS (Or.inr z_b360) all0)).trans K364 (allS (Or.inr z_b360) all0)).trans K369 (allS (Or.inr z_b360) (allS (Or.inr z_w_364) all0))).trans K374 (allS (Or.inr z_b360) (allS (Or.inr z_w_364) all0))).ext E379).ext E381).trans K384 (allS (Or.inr z_b379) all0))
      have Si410 : Sin s sC381 T384.heap := Sin.mono Si381 (Nat.le_trans (Nat.le_refl _) K384.1)
      exact Go.retNW C381 X407 (by rw [e407]; exact Si410) rfl at_208 (by simp) (by rw [e407]; exact ⟨rfl, N399, K409⟩) (by decide) (by decide)
    · refine Go.aload (pc' := 184) C381 X384 at_182 rfl rfl rfl ?_
      have c412 : Exa Z T384.heap b345 "com/example/barrault/barrault/model/PathPattern$Step" := (Exa.keep c395 K384)
      have ne413 : b345 ≠ b360 := Nat.ne_of_lt (Nat.lt_of_lt_of_le A345.lt (Nat.le_trans (Nat.le_trans (Nat.le_trans (Nat.le_trans (Nat.le_refl _) E347.1) K349.1) K351.1) (Nat.le_of_eq g360.symm)))
      have ne414 : b345 ≠ w_364 := Nat.ne_of_lt (Nat.lt_of_lt_of_le A345.lt (Nat.le_trans (Nat.le_trans (Nat.le_trans (Nat.le_trans (Nat.le_trans (Nat.le_trans (Nat.le_refl _) E347.1) K349.1) K351.1) E360.1) K362.1) B364_0))
      have ne415 : b345 ≠ b379 := Nat.ne_of_lt (Nat.lt_of_lt_of_le A345.lt (Nat.le_trans (Nat.le_trans (Nat.le_trans (Nat.le_trans (Nat.le_trans (Nat.le_trans (Nat.le_trans (Nat.le_trans (Nat.le_trans (Nat.le_refl _) E347.1) K349.1) K351.1) E360.1) K362.1) K364.1) K369.1) K374.1) (Nat.le_of_eq g379.symm)))
      have c416 : Fld Z T384.heap b345 "com/example/barrault/barrault/model/PathPattern$Step" "kind" "Lcom/example/barrault/barrault/model/PathPattern$Kind;" (.ref kv_315) := (Fld.keep (Fld.ext E381 (Fld.ext E379 (Fld.keep (Fld.keep (Fld.keep (Fld.keep (Fld.ext E360 P351_0) K362 (ninS ne413 nin0)) K364 (ninS ne413 nin0)) K369 (ninS ne413 (ninS ne414 nin0))) K374 (ninS ne413 (ninS ne414 nin0))))) K384 (ninS ne415 nin0))
      have O417 : Ext Z.heap T384.heap := (Ext.keep O396 K384 (allS n_b379 all0))
      have c418 : Exa Z T384.heap b379 "com/example/barrault/barrault/model/PathPattern" := (Exa.keep c385 K384)
      refine Go.callV (y := (⟨"com/example/barrault/barrault/model/PathPattern", "selectsElements", "()Z"⟩ : MethodName)) (z := (⟨"com/example/barrault/barrault/model/PathPattern", "selectsElements", "()Z"⟩ : MethodName)) (a := b379) (pc' := 187) C381 X384 (tw hw 203 rfl) (tw hw 204 rfl) (notFace_at C381.2.1 (tw hw 206 rfl)) (tw hw 206 rfl) (tw hw 205 rfl) c418 (by decide) (rm_se3 l Z a0 hw b379 kv_315 ke r_384 q_384 kq_384 b316 b330 b345 T384.heap O417 P384_0 P384_1 P384_2 P384_3 c412 c416 SK0) (tw hw 207 rfl) (tw hw 122 rfl) rfl (argsL := []) (rest := []) (W := 0) rfl rfl pd_12 rfl (Nat.le_of_eq rfl) rfl (by decide) (by decide) (by decide) (by decide) at_184 rfl ?_
      intro T411 v411 L411 X411 q411
      obtain ⟨rfl, rfl, e411⟩ := q411
      have N411 := Fr.app N384 (Fr.nil _)
      refine Go.aload (pc' := 189) C381 X411 at_187 rfl rfl rfl ?_
      refine Go.getS (pc' := 192) (host := "") C381 X411 (Or.inl (tw hw 5 rfl)) Via.refl e411 (SK0.ext O417) at_189 rfl ?_
      intro T419 X419 e419
      refine Go.acmpYes (pc' := 199) C381 X419 at_192 rfl rfl (XT.aa_ne_t (fun q => hke (Value.ref.inj q))) (by decide) (by decide) ?_
      refine Go.iconst (z := (0 : Int32)) (pc' := 200) C381 X419 at_199 rfl rfl ?_
      refine Go.icmpNo (pc' := 203) C381 X419 at_200 (teq (x := (if kv_315 = ke then (1 : Int32) else 0)) (y := (0 : Int32)) (if_neg hke)).2 rfl ?_
      refine Go.iconst (z := (1 : Int32)) (pc' := 204) C381 X419 at_203 rfl rfl ?_
      refine Go.goto (pc' := 208) C381 X419 at_204 (by decide) (by decide) ?_
      have K421 : Keep h0 T384.heap [] := (((((((((((((((((((((Keep.refl h0 []).ext E316).ext E317).trans K319 (allS (Or.inr z_b317) all0)).trans K321 (allS (Or.inr z_b316) all0)).ext E330).ext E332).trans K334 (allS (Or.inr z_b332) all0)).trans K336 (allS (Or.inr z_b330) all0)).ext E345).ext E347).trans K349 (allS (Or.inr z_b347) all0)).trans K351 (allS (Or.inr z_b345) all0)).ext E360).trans K362 (allS (Or.inr z_b360) all0)).trans K364 (allS (Or.inr z_b360) all0)).trans K369 (allS (Or.inr z_b360) (allS (Or.inr z_w_364) all0))).trans K374 (allS (Or.inr z_b360) (allS (Or.inr z_w_364) all0))).ext E379).ext E381).trans K384 (allS (Or.inr z_b379) all0))
      have Si422 : Sin s sC381 T384.heap := Sin.mono Si381 (Nat.le_trans (Nat.le_refl _) K384.1)
      exact Go.retNW C381 X419 (by rw [e419]; exact Si422) rfl at_208 (by simp) (by rw [e419]; exact ⟨rfl, N411, K421⟩) (by decide) (by decide)
theorem own_eqI {args : Array Value} {Z : State} {t : Term} {n : Int32} (h : (Jvm.Cond.eq t (.int n)).value args Z none Z [] = some true) : t.eval args Z none [] Z = some (.int n) := by
  simp only [Cond.value, Term.eval] at h
  cases ht : t.eval args Z none [] Z with
  | none => simp [ht] at h
  | some x => cases x <;> simp [ht] at h ⊢; exact h
theorem own_al0 {args : Array Value} {Z : State} {t : Term} {a : Addr} {c : Cell} {ty : FieldType} (ev : t.eval args Z none [] Z = some (.ref a)) (A : Arr Z Z.heap a c ty) (h : (Jvm.Cond.eq (.length t) (.int 0)).value args Z none Z [] = some true) : AL Z Z.heap a c.cls ty [] := by
  have e := own_eqI h
  obtain ⟨x, cell, e1, e2, e3⟩ := Term.length_spec e
  cases ev.symm.trans e1
  have q := IntBox.arrayAt_of A.1 A.2.1 A.2.2
  cases q.symm.trans e2
  by_cases hl : c.slots.size < 2 ^ 31
  · have h0 : c.slots.size.toInt32 = 0 := (Value.int.inj e3).symm
    have h1 := len_toInt hl
    rw [h0] at h1
    have h2 : c.slots.size = 0 := by have : (0 : Int32).toInt = 0 := rfl; omega
    exact ⟨c, A, rfl, Array.eq_empty_of_size_eq_zero h2⟩
  · simp [Term.eval, ev, e2, hl] at e
set_option maxRecDepth 65536 in
set_option maxHeartbeats 40000000 in
theorem comes_1 {Post : Tables → Env → Array Value → State → Outcome → State → Prop} (hpost : ∀ tb e args s v u, (limb_1_1.after args s (.returned v) u = true ∧ limb_1_2.after args s (.returned v) u = true ∧ True) → ReturnedEndW s (.returned v) u (Jvm.fieldLocs frame_1_writes args s ++ Jvm.arrayLocs frame_1_arrays args s ++ Jvm.staticLocs frame_1_statics s) 40 1216 → Post tb e args s (.returned v) u) :
    ArmFor flags0 classFile x code maxLocals ret World_1 tables_1 room_1 Calls_1 rest_1 Pre_1 Post := by
  intro l hfl _ _ p e ha hc hk s m args below hf hA hF happ hP
  obtain ⟨hcalls, hrest, hpre⟩ := hP
  obtain ⟨-, -, -, hnamed, -, -, -, hat⟩ := (Spec.applies_iff hf).mp happ
  obtain ⟨hg, hn⟩ := and_e (Cond.before_iff.mp (show (Jvm.Cond.and given_1 narrow_1).before args s = true from hpre))
  obtain ⟨g1, g2⟩ := and_e hg
  obtain ⟨g3, g4⟩ := and_e g2
  obtain ⟨g5, g6⟩ := and_e g4
  obtain ⟨g7, g8⟩ := and_e g6
  obtain ⟨g9, g10⟩ := and_e hn
  obtain ⟨g11, g12⟩ := and_e g10
  obtain ⟨g13, g14⟩ := and_e g12
  obtain ⟨g15, g16⟩ := and_e g14
  obtain ⟨g17, g18⟩ := and_e g16
  obtain ⟨w0, w1, w2, w3, rfl⟩ : ∃ w0 w1 w2 w3 : Value, args = #[w0, w1, w2, w3] := by
    have hs : args.size = 4 := by simpa [Cond.value, given_1] using g1
    obtain ⟨L⟩ := args
    match L, hs with
    | [w0, w1, w2, w3], _ => exact ⟨w0, w1, w2, w3, rfl⟩
  have hw := fun d (hd : d ∈ tables_1) => atoms_spec (ws := Jvm.Cond.code x code maxLocals ret :: tables_1) hat d (List.mem_cons_of_mem _ hd)
  have hfit : Fit s := fun {y c} hc i hi => by
    obtain ⟨ha, rfl⟩ := Array.getElem?_eq_some_iff.mp hc
    have q := List.all_eq_true.mp ((Array.all_eq_true_iff_forall_mem.mp hF) _ (Array.getElem_mem ha)) i (List.mem_range.mpr hi)
    simpa [Array.getElem?_eq_getElem hi] using q
  obtain ⟨hsets, hown0⟩ := atoms_of _ (rest_1_c_eq ▸ (show rest_1_c.before _ s = true from hrest))
  obtain ⟨i0, ei0⟩ := is_v g3
  obtain rfl : w0 = (.int i0) := Option.some.inj ei0
  obtain ⟨i1, ei1⟩ := is_v g5
  obtain rfl : w1 = (.int i1) := Option.some.inj ei1
  obtain ⟨i2, ei2⟩ := is_v g7
  obtain rfl : w2 = (.int i2) := Option.some.inj ei2
  obtain ⟨i3, ei3⟩ := is_v g8
  obtain rfl : w3 = (.int i3) := Option.some.inj ei3
  obtain ⟨dc, vdc⟩ := exa_v (Cond.before_iff.mp (hsets _ (List.mem_of_getElem? (i := 7) rfl)))
  have SDs := Sta.start vdc (Or.inr ⟨(tw hw 17 rfl), (hsets _ (List.mem_of_getElem? (i := 2) rfl))⟩)
  have Edc := Exa.start vdc (Cond.before_iff.mp (hsets _ (List.mem_of_getElem? (i := 7) rfl)))
  obtain ⟨cdc, rdc⟩ := Arr.start vdc (Cond.before_iff.mp (hsets _ (List.mem_of_getElem? (i := 6) rfl)))
  have ADs := own_al0 vdc rdc (Cond.before_iff.mp (hsets _ (List.mem_of_getElem? (i := 8) rfl)))
  obtain ⟨em, vem⟩ := exa_v (Cond.before_iff.mp (hsets _ (List.mem_of_getElem? (i := 18) rfl)))
  have SEs := Sta.start vem (Or.inr ⟨(tw hw 56 rfl), (hsets _ (List.mem_of_getElem? (i := 16) rfl))⟩)
  have Ees := Exa.start vem (Cond.before_iff.mp (hsets _ (List.mem_of_getElem? (i := 18) rfl)))
  obtain ⟨el, vel⟩ := exa_v (Cond.before_iff.mp (hsets _ (List.mem_of_getElem? (i := 11) rfl)))
  have SLs := Sta.start vel (Or.inr ⟨(tw hw 56 rfl), (hsets _ (List.mem_of_getElem? (i := 9) rfl))⟩)
  have Els := Exa.start vel (Cond.before_iff.mp (hsets _ (List.mem_of_getElem? (i := 11) rfl)))
  obtain ⟨⟨cmr, kmr, mr, qmr⟩, -⟩ := hcalls
  have hM : Mir s "[Ljava/lang/Object;" mr := ⟨cmr, kmr, qmr⟩
  obtain ⟨ag19, vg19⟩ := exa_v g9
  have Sg19 := Sta.start vg19 (Or.inr ⟨(tw hw 6 rfl), (tw hw 7 rfl)⟩)
  have Eg19 := Exa.start vg19 g9
  obtain ⟨ag20, vg20⟩ := exa_v g13
  have Sg20 := Sta.start vg20 (Or.inr ⟨(tw hw 6 rfl), (tw hw 11 rfl)⟩)
  have Eg20 := Exa.start vg20 g13
  obtain ⟨ag21, vg21⟩ := exa_v g11
  have Sg21 := Sta.start vg21 (Or.inr ⟨(tw hw 6 rfl), (tw hw 9 rfl)⟩)
  have Eg21 := Exa.start vg21 g11
  obtain ⟨n, o, h1, h2, h3, _, L, rfl, ⟨rfl, N, -⟩, hq⟩ := rm_law l s _ hw i0 i1 i2 i3 dc cdc.cls em el mr ag19 ag20 ag21 s.heap (Ext.refl _) SDs ADs SEs Ees SLs Sg19 Sg20 Sg21 hM tables_1 p e ha hc hk s m _ below hf ((Spec.applies_iff_loose hf).mp happ).1 ⟨rfl, State.Warmed39.refl s, rfl⟩ trivial
  refine ⟨n, _, h1, h2, h3, hpost _ _ _ _ _ _ ⟨Cond.after_iff.mpr rfl, Cond.after_iff.mpr (eq_i res_at (Term.int_eval (1)) rfl), trivial⟩ ⟨hq.1, hq.2.1, hq.2.2.1, (hq.2.2.2.sift fun y hy => Or.inr (N y hy)).mono (by decide) (by decide)⟩⟩
theorem main_1_1 : Claimed_1_1 := comes_1 fun _ _ _ _ _ _ h hF => ⟨h.1, hF⟩
theorem main_1_2 : Claimed_1_2 := comes_1 fun _ _ _ _ _ _ h hF => ⟨h.2.1, hF⟩
end Jvm.Pilot.@@N@@
namespace Jvm.Pilot.@@N@@
open Jvm Jvm.ClassFile Sem Op Lib Jvm.Free Jvm.Stand Jvm.Pilot.@@N@@.Jvm.D
/-! MADE BY PROGRAM (witnessworld.py) out of the Statement's table words and the real class files: 37 classes; the members and pool entries that the words name. The judged class is class 1, her method 2. -/
namespace start1
open Jvm.ClassFile
def u (s : String) : CpInfo := .utf8 (stringToUtf16 s)
/-- a pool by its gaps: so many unusable entries, then the entry; so many at the end -/
def gap : Nat → List CpInfo → List CpInfo
  | 0, r => r
  | n + 1, r => .unusable :: gap n r
def poolList (es : List (Nat × CpInfo)) (last : Nat) : List CpInfo := es.foldr (fun e r => gap e.1 (e.2 :: r)) (gap last [])
def pool (es : List (Nat × CpInfo)) (last : Nat) : Array CpInfo := ⟨poolList es last⟩
def fileOf (pool : Array CpInfo) (this : Nat) (attrs : Array Attribute := #[]) (ms : Array MethodInfo := #[]) (fl : Nat := 33) (sup : Nat := 0) (ifs : Array Nat := #[]) (fds : Array FieldInfo := #[]) : ClassFile where
  minorVersion := 0
  majorVersion := 65
  constantPool := pool
  accessFlags := fl
  thisClass := this
  superClass := sup
  interfaces := ifs
  fields := fds
  methods := ms
  attributes := attrs
def plain (name : String) (sup : Option ClassId) : Class where
  name := name
  kind := .ordinary
  loader := none
  accessFlags := 33
  super := sup
  interfaces := #[]
  cf := none
  fields := #[]
  methods := #[]
  instanceTypes := #[]
  staticTypes := #[]
  resolved := #[]
  callSites := []
  init := .initialized
  statics := none
  mirror := none

def pool0 : Array CpInfo := pool [(5, u "<init>"), (0, u "()V"), (1, .class_ 10), (1, u "java/lang/Object"), (0, u "getClass"), (0, u "()Ljava/lang/Class;")] 111

def k0c0 : Code := { maxStack := 0, maxLocals := 1, code := object_method_1_code, exceptionTable := #[], attributes := #[] }
def k0m0 : Method := { name := "<init>", desc := "()V", sig := { parameters := [], returnType := none }, accessFlags := 1, code := some k0c0 }
def k0m1 : Method := { name := "getClass", desc := "()Ljava/lang/Class;", sig := { parameters := [], returnType := some (.object "java/lang/Class") }, accessFlags := 273, code := none }
/-- java/lang/Object -/
def k0 : Class := { plain "java/lang/Object" none with
  accessFlags := 33
  interfaces := #[]
  cf := some (fileOf pool0 8 #[] #[{ accessFlags := 1, nameIndex := 5, descriptorIndex := 6, attributes := #[] }, { accessFlags := 273, nameIndex := 11, descriptorIndex := 12, attributes := #[] }] 33 0 #[] #[])
  fields := #[]
  methods := #[k0m0, k0m1]
  instanceTypes := #[]
  staticTypes := #[]
  resolved := Array.replicate 124 none
  statics := none }

def pool1 : Array CpInfo := pool [(2, .class_ 4), (0, .nameAndType 5 6), (0, u "java/lang/Object"), (0, u "<init>"), (0, u "()V"), (0, .integer 2147483647), (0, .fieldref 9 10), (0, .class_ 11), (0, .nameAndType 12 13), (0, u "com/example/barrault/barrault/model/PathPattern$Kind"), (0, u "ELEMENT"), (0, u "Lcom/example/barrault/barrault/model/PathPattern$Kind;"), (0, .fieldref 9 15), (0, .nameAndType 16 13), (0, u "ATTRIBUTE"), (0, .fieldref 9 18), (0, .nameAndType 19 13), (0, u "TEXT"), (0, .methodref 21 22), (0, .class_ 23), (0, .nameAndType 24 25), (0, u "com/example/barrault/barrault/model/PathPatternSelectsElementsPinLaw"), (0, u "kind"), (0, u "(I)Lcom/example/barrault/barrault/model/PathPattern$Kind;"), (0, .class_ 27), (0, u "com/example/barrault/barrault/model/PathPattern$Step"), (0, .class_ 29), (0, u "java/util/ArrayList"), (0, .methodref 28 3), (0, .methodref 26 32), (0, .nameAndType 5 33), (0, u "(Lcom/example/barrault/barrault/model/PathPattern$Axis;Lcom/example/barrault/barrault/model/PathPattern$Kind;Ljava/lang/String;Ljava/util/List;)V"), (0, .interfaceMethodref 35 36), (0, .class_ 37), (0, .nameAndType 38 39), (0, u "java/util/List"), (0, u "add"), (0, u "(Ljava/lang/Object;)Z"), (0, .class_ 41), (0, u "com/example/barrault/barrault/model/PathPattern"), (0, .string 43), (0, u ""), (0, .methodref 40 45), (0, .nameAndType 5 46), (0, u "(Ljava/lang/String;Ljava/util/List;)V"), (0, .methodref 40 48), (0, .nameAndType 49 50), (0, u "selectsElements"), (0, u "()Z"), (3, u "law"), (0, u "(IIII)Z")] 8

def k1m0 : Method := { name := "<init>", desc := "()V", sig := { parameters := [], returnType := none }, accessFlags := 1, code := none }
def k1c1 : Code := { maxStack := 2, maxLocals := 2, code := method_2_code, exceptionTable := #[], attributes := #[] }
def k1m1 : Method := { name := "kind", desc := "(I)Lcom/example/barrault/barrault/model/PathPattern$Kind;", sig := { parameters := [.int], returnType := some (.object "com/example/barrault/barrault/model/PathPattern$Kind") }, accessFlags := 10, code := some k1c1 }
def k1c2 : Code := { maxStack := 7, maxLocals := 14, code := code, exceptionTable := #[], attributes := #[] }
def k1m2 : Method := { name := "law", desc := "(IIII)Z", sig := { parameters := [.int, .int, .int, .int], returnType := some .boolean }, accessFlags := 9, code := some k1c2 }
/-- com/example/barrault/barrault/model/PathPatternSelectsElementsPinLaw -/
def k1 : Class := { plain "com/example/barrault/barrault/model/PathPatternSelectsElementsPinLaw" (some 0) with
  accessFlags := 49
  interfaces := #[]
  cf := some (fileOf pool1 21 #[] #[{ accessFlags := 1, nameIndex := 5, descriptorIndex := 6, attributes := #[] }, { accessFlags := 10, nameIndex := 24, descriptorIndex := 25, attributes := #[] }, { accessFlags := 9, nameIndex := 54, descriptorIndex := 55, attributes := #[] }] 49 2 #[] #[])
  fields := #[]
  methods := #[k1m0, k1m1, k1m2]
  instanceTypes := #[]
  staticTypes := #[]
  resolved := Array.replicate 64 none
  statics := none }

def pool2 : Array CpInfo := pool [(1, .class_ 2), (0, u "java/lang/constant/Constable"), (0, .class_ 4), (0, u "java/lang/Object")] 6

/-- java/lang/constant/Constable -/
def k2 : Class := { plain "java/lang/constant/Constable" (some 0) with
  accessFlags := 1537
  interfaces := #[]
  cf := some (fileOf pool2 1 #[] #[] 1537 3 #[] #[])
  fields := #[]
  methods := #[]
  instanceTypes := #[]
  staticTypes := #[]
  resolved := Array.replicate 11 none
  statics := none }

def pool3 : Array CpInfo := pool [(1, .class_ 2), (0, u "java/lang/Comparable"), (0, .class_ 4), (0, u "java/lang/Object")] 7

/-- java/lang/Comparable -/
def k3 : Class := { plain "java/lang/Comparable" (some 0) with
  accessFlags := 1537
  interfaces := #[]
  cf := some (fileOf pool3 1 #[] #[] 1537 3 #[] #[])
  fields := #[]
  methods := #[]
  instanceTypes := #[]
  staticTypes := #[]
  resolved := Array.replicate 12 none
  statics := none }

def pool4 : Array CpInfo := pool [(1, .class_ 2), (0, u "java/io/Serializable"), (0, .class_ 4), (0, u "java/lang/Object")] 2

/-- java/io/Serializable -/
def k4 : Class := { plain "java/io/Serializable" (some 0) with
  accessFlags := 1537
  interfaces := #[]
  cf := some (fileOf pool4 1 #[] #[] 1537 3 #[] #[])
  fields := #[]
  methods := #[]
  instanceTypes := #[]
  staticTypes := #[]
  resolved := Array.replicate 7 none
  statics := none }

def pool5 : Array CpInfo := pool [(2, .class_ 4), (1, u "java/lang/Enum"), (0, u "name"), (0, u "Ljava/lang/String;"), (2, u "ordinal"), (0, u "I"), (1, .class_ 14), (1, u "java/lang/Object"), (4, u "hash"), (86, .class_ 108), (1, u "java/lang/Enum$EnumDesc"), (2, .class_ 112), (0, u "java/lang/constant/Constable"), (0, .class_ 114), (0, u "java/lang/Comparable"), (0, .class_ 116), (0, u "java/io/Serializable")] 87

/-- java/lang/Enum -/
def k5 : Class := { plain "java/lang/Enum" (some 0) with
  accessFlags := 1057
  interfaces := #[2, 3, 4]
  cf := some (fileOf pool5 2 #[.nestMembers #[106]] #[] 1057 12 #[111, 113, 115] #[{ accessFlags := 18, nameIndex := 5, descriptorIndex := 6, attributes := #[] }, { accessFlags := 18, nameIndex := 9, descriptorIndex := 10, attributes := #[] }, { accessFlags := 2, nameIndex := 19, descriptorIndex := 10, attributes := #[] }])
  fields := #[{ name := "name", type := (.object "java/lang/String"), accessFlags := 18, slot := 0, constantValue := 0 }, { name := "ordinal", type := .int, accessFlags := 18, slot := 1, constantValue := 0 }, { name := "hash", type := .int, accessFlags := 2, slot := 2, constantValue := 0 }]
  methods := #[]
  instanceTypes := #[(.object "java/lang/String"), .int, .int]
  staticTypes := #[]
  resolved := Array.replicate 204 none
  statics := none }

def pool6 : Array CpInfo := pool [(1, .class_ 2), (0, u "com/example/barrault/barrault/model/PathPattern$Kind"), (2, u "ELEMENT"), (0, u "Lcom/example/barrault/barrault/model/PathPattern$Kind;"), (2, u "ATTRIBUTE"), (2, u "TEXT"), (2, u "$VALUES"), (0, u "[Lcom/example/barrault/barrault/model/PathPattern$Kind;"), (6, .class_ 25), (1, u "java/lang/Enum"), (26, .class_ 53), (0, u "com/example/barrault/barrault/model/PathPattern")] 2

/-- com/example/barrault/barrault/model/PathPattern$Kind -/
def k6 : Class := { plain "com/example/barrault/barrault/model/PathPattern$Kind" (some 5) with
  accessFlags := 16433
  interfaces := #[]
  cf := some (fileOf pool6 1 #[.nestHost 52] #[] 16433 23 #[] #[{ accessFlags := 16409, nameIndex := 5, descriptorIndex := 6, attributes := #[] }, { accessFlags := 16409, nameIndex := 9, descriptorIndex := 6, attributes := #[] }, { accessFlags := 16409, nameIndex := 12, descriptorIndex := 6, attributes := #[] }, { accessFlags := 4122, nameIndex := 15, descriptorIndex := 16, attributes := #[] }])
  fields := #[{ name := "ELEMENT", type := (.object "com/example/barrault/barrault/model/PathPattern$Kind"), accessFlags := 16409, slot := 0, constantValue := 0 }, { name := "ATTRIBUTE", type := (.object "com/example/barrault/barrault/model/PathPattern$Kind"), accessFlags := 16409, slot := 1, constantValue := 0 }, { name := "TEXT", type := (.object "com/example/barrault/barrault/model/PathPattern$Kind"), accessFlags := 16409, slot := 2, constantValue := 0 }, { name := "$VALUES", type := (.array (.object "com/example/barrault/barrault/model/PathPattern$Kind")), accessFlags := 4122, slot := 3, constantValue := 0 }]
  methods := #[]
  instanceTypes := #[(.object "java/lang/String"), .int, .int]
  staticTypes := #[(.object "com/example/barrault/barrault/model/PathPattern$Kind"), (.object "com/example/barrault/barrault/model/PathPattern$Kind"), (.object "com/example/barrault/barrault/model/PathPattern$Kind"), (.array (.object "com/example/barrault/barrault/model/PathPattern$Kind"))]
  resolved := Array.replicate 56 none
  statics := some 0 }

def pool7 : Array CpInfo := pool [(1, .methodref 2 3), (0, .class_ 4), (0, .nameAndType 5 6), (0, u "java/lang/Object"), (0, u "<init>"), (0, u "()V"), (0, .class_ 8), (0, u "java/lang/Record")] 13

def k7c0 : Code := { maxStack := 1, maxLocals := 1, code := jdk_30_method_1_code, exceptionTable := #[], attributes := #[] }
def k7m0 : Method := { name := "<init>", desc := "()V", sig := { parameters := [], returnType := none }, accessFlags := 4, code := some k7c0 }
/-- java/lang/Record -/
def k7 : Class := { plain "java/lang/Record" (some 0) with
  accessFlags := 1057
  interfaces := #[]
  cf := some (fileOf pool7 7 #[] #[{ accessFlags := 4, nameIndex := 5, descriptorIndex := 6, attributes := #[] }] 1057 2 #[] #[])
  fields := #[]
  methods := #[k7m0]
  instanceTypes := #[]
  staticTypes := #[]
  resolved := Array.replicate 22 none
  statics := none }

def pool8 : Array CpInfo := pool [(1, .methodref 2 3), (0, .class_ 4), (0, .nameAndType 5 6), (0, u "java/lang/Record"), (0, u "<init>"), (0, u "()V"), (0, .interfaceMethodref 8 9), (0, .class_ 10), (0, .nameAndType 11 12), (0, u "java/util/List"), (0, u "copyOf"), (0, u "(Ljava/util/Collection;)Ljava/util/List;"), (0, .fieldref 14 15), (0, .class_ 16), (0, .nameAndType 17 18), (0, u "com/example/barrault/barrault/model/PathPattern$Step"), (0, u "axis"), (0, u "Lcom/example/barrault/barrault/model/PathPattern$Axis;"), (0, .fieldref 14 20), (0, .nameAndType 21 22), (0, u "kind"), (0, u "Lcom/example/barrault/barrault/model/PathPattern$Kind;"), (0, .fieldref 14 24), (0, .nameAndType 25 26), (0, u "name"), (0, u "Ljava/lang/String;"), (0, .fieldref 14 28), (0, .nameAndType 29 30), (0, u "predicates"), (0, u "Ljava/util/List;"), (14, u "(Lcom/example/barrault/barrault/model/PathPattern$Axis;Lcom/example/barrault/barrault/model/PathPattern$Kind;Ljava/lang/String;Ljava/util/List;)V"), (8, u "()Lcom/example/barrault/barrault/model/PathPattern$Kind;"), (5, .class_ 61), (0, u "com/example/barrault/barrault/model/PathPattern")] 31

def k8c0 : Code := { maxStack := 2, maxLocals := 5, code := prog_47_method_1_code, exceptionTable := #[], attributes := #[] }
def k8m0 : Method := { name := "<init>", desc := "(Lcom/example/barrault/barrault/model/PathPattern$Axis;Lcom/example/barrault/barrault/model/PathPattern$Kind;Ljava/lang/String;Ljava/util/List;)V", sig := { parameters := [(.object "com/example/barrault/barrault/model/PathPattern$Axis"), (.object "com/example/barrault/barrault/model/PathPattern$Kind"), (.object "java/lang/String"), (.object "java/util/List")], returnType := none }, accessFlags := 1, code := some k8c0 }
def k8c1 : Code := { maxStack := 1, maxLocals := 1, code := prog_47_method_6_code, exceptionTable := #[], attributes := #[] }
def k8m1 : Method := { name := "kind", desc := "()Lcom/example/barrault/barrault/model/PathPattern$Kind;", sig := { parameters := [], returnType := some (.object "com/example/barrault/barrault/model/PathPattern$Kind") }, accessFlags := 1, code := some k8c1 }
/-- com/example/barrault/barrault/model/PathPattern$Step -/
def k8 : Class := { plain "com/example/barrault/barrault/model/PathPattern$Step" (some 7) with
  accessFlags := 49
  interfaces := #[]
  cf := some (fileOf pool8 14 #[.nestHost 60] #[{ accessFlags := 1, nameIndex := 5, descriptorIndex := 45, attributes := #[] }, { accessFlags := 1, nameIndex := 21, descriptorIndex := 54, attributes := #[] }] 49 2 #[] #[{ accessFlags := 18, nameIndex := 17, descriptorIndex := 18, attributes := #[] }, { accessFlags := 18, nameIndex := 21, descriptorIndex := 22, attributes := #[] }, { accessFlags := 18, nameIndex := 25, descriptorIndex := 26, attributes := #[] }, { accessFlags := 18, nameIndex := 29, descriptorIndex := 30, attributes := #[] }])
  fields := #[{ name := "axis", type := (.object "com/example/barrault/barrault/model/PathPattern$Axis"), accessFlags := 18, slot := 0, constantValue := 0 }, { name := "kind", type := (.object "com/example/barrault/barrault/model/PathPattern$Kind"), accessFlags := 18, slot := 1, constantValue := 0 }, { name := "name", type := (.object "java/lang/String"), accessFlags := 18, slot := 2, constantValue := 0 }, { name := "predicates", type := (.object "java/util/List"), accessFlags := 18, slot := 3, constantValue := 0 }]
  methods := #[k8m0, k8m1]
  instanceTypes := #[(.object "com/example/barrault/barrault/model/PathPattern$Axis"), (.object "com/example/barrault/barrault/model/PathPattern$Kind"), (.object "java/lang/String"), (.object "java/util/List")]
  staticTypes := #[]
  resolved := Array.replicate 93 none
  statics := none }

def pool9 : Array CpInfo := pool [(8, .class_ 10), (1, u "java/lang/Iterable"), (24, .class_ 36), (0, u "java/lang/Object")] 25

/-- java/lang/Iterable -/
def k9 : Class := { plain "java/lang/Iterable" (some 0) with
  accessFlags := 1537
  interfaces := #[]
  cf := some (fileOf pool9 8 #[] #[] 1537 35 #[] #[])
  fields := #[]
  methods := #[]
  instanceTypes := #[]
  staticTypes := #[]
  resolved := Array.replicate 62 none
  statics := none }

def pool10 : Array CpInfo := pool [(10, .class_ 12), (1, u "java/util/Collection"), (0, u "toArray"), (16, u "()Z"), (29, .class_ 61), (0, u "java/lang/Object"), (0, .class_ 63), (0, u "java/lang/Iterable"), (2, u "isEmpty"), (3, u "()[Ljava/lang/Object;")] 44

def k10m0 : Method := { name := "isEmpty", desc := "()Z", sig := { parameters := [], returnType := some .boolean }, accessFlags := 1025, code := none }
def k10m1 : Method := { name := "toArray", desc := "()[Ljava/lang/Object;", sig := { parameters := [], returnType := some (.array (.object "java/lang/Object")) }, accessFlags := 1025, code := none }
/-- java/util/Collection -/
def k10 : Class := { plain "java/util/Collection" (some 0) with
  accessFlags := 1537
  interfaces := #[9]
  cf := some (fileOf pool10 10 #[] #[{ accessFlags := 1025, nameIndex := 66, descriptorIndex := 30, attributes := #[] }, { accessFlags := 1025, nameIndex := 13, descriptorIndex := 70, attributes := #[] }] 1537 60 #[62] #[])
  fields := #[]
  methods := #[k10m0, k10m1]
  instanceTypes := #[]
  staticTypes := #[]
  resolved := Array.replicate 115 none
  statics := none }

def pool11 : Array CpInfo := pool [(1, .methodref 2 3), (0, .class_ 4), (0, .nameAndType 5 6), (0, u "java/lang/Object"), (0, u "<init>"), (0, u "()V"), (1, .class_ 10), (1, u "java/util/AbstractCollection"), (66, .class_ 78), (0, u "java/util/Collection")] 81

def k11c0 : Code := { maxStack := 1, maxLocals := 1, code := jdk_22_method_1_code, exceptionTable := #[], attributes := #[] }
def k11m0 : Method := { name := "<init>", desc := "()V", sig := { parameters := [], returnType := none }, accessFlags := 4, code := some k11c0 }
/-- java/util/AbstractCollection -/
def k11 : Class := { plain "java/util/AbstractCollection" (some 0) with
  accessFlags := 1057
  interfaces := #[10]
  cf := some (fileOf pool11 8 #[] #[{ accessFlags := 4, nameIndex := 5, descriptorIndex := 6, attributes := #[] }] 1057 2 #[77] #[])
  fields := #[]
  methods := #[k11m0]
  instanceTypes := #[]
  staticTypes := #[]
  resolved := Array.replicate 160 none
  statics := none }

def pool12 : Array CpInfo := pool [(8, .class_ 10), (1, u "java/util/SequencedCollection"), (15, .class_ 27), (0, u "java/lang/Object"), (0, .class_ 29), (0, u "java/util/Collection")] 27

/-- java/util/SequencedCollection -/
def k12 : Class := { plain "java/util/SequencedCollection" (some 0) with
  accessFlags := 1537
  interfaces := #[10]
  cf := some (fileOf pool12 8 #[] #[] 1537 26 #[28] #[])
  fields := #[]
  methods := #[]
  instanceTypes := #[]
  staticTypes := #[]
  resolved := Array.replicate 57 none
  statics := none }

def pool13 : Array CpInfo := pool [(8, .class_ 10), (1, u "java/util/List"), (20, u "(Ljava/lang/Object;)V"), (16, u "<init>"), (11, u "add"), (3, u "(Ljava/lang/Object;)Z"), (10, u "get"), (0, u "(I)Ljava/lang/Object;"), (2, u "size"), (0, u "()I"), (7, u "of"), (1, .fieldref 91 92), (0, .class_ 93), (0, .nameAndType 94 95), (0, u "java/util/ImmutableCollections"), (0, u "EMPTY_LIST"), (0, u "Ljava/util/ImmutableCollections$ListN;"), (0, .class_ 97), (0, u "java/util/ImmutableCollections$List12"), (0, .methodref 96 99), (0, .nameAndType 48 31), (0, .methodref 96 101), (0, .nameAndType 48 102), (0, u "(Ljava/lang/Object;Ljava/lang/Object;)V"), (0, .class_ 104), (0, u "java/lang/Object"), (3, u "([Ljava/lang/Object;)Ljava/util/List;"), (0, .methodref 91 110), (0, .nameAndType 111 108), (0, u "listFromArray"), (0, .methodref 91 113), (0, .nameAndType 114 115), (0, u "listCopy"), (0, u "(Ljava/util/Collection;)Ljava/util/List;"), (3, u "()Ljava/util/List;"), (0, .class_ 121), (0, u "java/util/SequencedCollection"), (112, u "copyOf")] 16

def k13m0 : Method := { name := "size", desc := "()I", sig := { parameters := [], returnType := some .int }, accessFlags := 1025, code := none }
def k13m1 : Method := { name := "add", desc := "(Ljava/lang/Object;)Z", sig := { parameters := [(.object "java/lang/Object")], returnType := some .boolean }, accessFlags := 1025, code := none }
def k13m2 : Method := { name := "get", desc := "(I)Ljava/lang/Object;", sig := { parameters := [.int], returnType := some (.object "java/lang/Object") }, accessFlags := 1025, code := none }
def k13c3 : Code := { maxStack := 1, maxLocals := 0, code := jdk_40_method_36_code, exceptionTable := #[], attributes := #[] }
def k13m3 : Method := { name := "of", desc := "()Ljava/util/List;", sig := { parameters := [], returnType := some (.object "java/util/List") }, accessFlags := 9, code := some k13c3 }
def k13c4 : Code := { maxStack := 5, maxLocals := 2, code := jdk_40_method_47_code, exceptionTable := #[], attributes := #[] }
def k13m4 : Method := { name := "of", desc := "([Ljava/lang/Object;)Ljava/util/List;", sig := { parameters := [(.array (.object "java/lang/Object"))], returnType := some (.object "java/util/List") }, accessFlags := 137, code := some k13c4 }
def k13c5 : Code := { maxStack := 1, maxLocals := 1, code := jdk_40_method_48_code, exceptionTable := #[], attributes := #[] }
def k13m5 : Method := { name := "copyOf", desc := "(Ljava/util/Collection;)Ljava/util/List;", sig := { parameters := [(.object "java/util/Collection")], returnType := some (.object "java/util/List") }, accessFlags := 9, code := some k13c5 }
/-- java/util/List -/
def k13 : Class := { plain "java/util/List" (some 0) with
  accessFlags := 1537
  interfaces := #[12]
  cf := some (fileOf pool13 8 #[] #[{ accessFlags := 1025, nameIndex := 79, descriptorIndex := 80, attributes := #[] }, { accessFlags := 1025, nameIndex := 60, descriptorIndex := 64, attributes := #[] }, { accessFlags := 1025, nameIndex := 75, descriptorIndex := 76, attributes := #[] }, { accessFlags := 9, nameIndex := 88, descriptorIndex := 119, attributes := #[] }, { accessFlags := 137, nameIndex := 88, descriptorIndex := 108, attributes := #[] }, { accessFlags := 9, nameIndex := 234, descriptorIndex := 115, attributes := #[] }] 1537 103 #[120] #[])
  fields := #[]
  methods := #[k13m0, k13m1, k13m2, k13m3, k13m4, k13m5]
  instanceTypes := #[]
  staticTypes := #[]
  resolved := Array.replicate 251 none
  statics := none }

def pool14 : Array CpInfo := pool [(1, .methodref 2 3), (0, .class_ 4), (0, .nameAndType 5 6), (0, u "java/util/AbstractCollection"), (0, u "<init>"), (0, u "()V"), (0, .fieldref 8 9), (0, .class_ 10), (0, .nameAndType 11 12), (0, u "java/util/AbstractList"), (0, u "modCount"), (0, u "I"), (64, .class_ 78), (0, u "java/util/AbstractList$Itr"), (3, .class_ 83), (0, u "java/util/AbstractList$ListItr"), (9, .class_ 94), (0, u "java/util/AbstractList$RandomAccessSubList"), (3, .class_ 99), (0, u "java/util/AbstractList$SubList"), (33, .class_ 134), (0, u "java/util/List"), (73, .class_ 209), (0, u "java/util/AbstractList$SubList$1"), (0, .class_ 211), (0, u "java/util/AbstractList$RandomAccessSpliterator")] 6

def k14c0 : Code := { maxStack := 2, maxLocals := 1, code := jdk_39_method_1_code, exceptionTable := #[], attributes := #[] }
def k14m0 : Method := { name := "<init>", desc := "()V", sig := { parameters := [], returnType := none }, accessFlags := 4, code := some k14c0 }
/-- java/util/AbstractList -/
def k14 : Class := { plain "java/util/AbstractList" (some 11) with
  accessFlags := 1057
  interfaces := #[13]
  cf := some (fileOf pool14 8 #[.nestMembers #[93, 98, 208, 210, 82, 77]] #[{ accessFlags := 4, nameIndex := 5, descriptorIndex := 6, attributes := #[] }] 1057 2 #[133] #[{ accessFlags := 132, nameIndex := 11, descriptorIndex := 12, attributes := #[] }])
  fields := #[{ name := "modCount", type := .int, accessFlags := 132, slot := 0, constantValue := 0 }]
  methods := #[k14m0]
  instanceTypes := #[.int]
  staticTypes := #[]
  resolved := Array.replicate 218 none
  statics := none }

def pool15 : Array CpInfo := pool [(1, .class_ 2), (0, u "java/util/RandomAccess"), (0, .class_ 4), (0, u "java/lang/Object")] 2

/-- java/util/RandomAccess -/
def k15 : Class := { plain "java/util/RandomAccess" (some 0) with
  accessFlags := 1537
  interfaces := #[]
  cf := some (fileOf pool15 1 #[] #[] 1537 3 #[] #[])
  fields := #[]
  methods := #[]
  instanceTypes := #[]
  staticTypes := #[]
  resolved := Array.replicate 7 none
  statics := none }

def pool16 : Array CpInfo := pool [(1, .class_ 2), (0, u "java/lang/Cloneable"), (0, .class_ 4), (0, u "java/lang/Object")] 2

/-- java/lang/Cloneable -/
def k16 : Class := { plain "java/lang/Cloneable" (some 0) with
  accessFlags := 1537
  interfaces := #[]
  cf := some (fileOf pool16 1 #[] #[] 1537 3 #[] #[])
  fields := #[]
  methods := #[]
  instanceTypes := #[]
  staticTypes := #[]
  resolved := Array.replicate 7 none
  statics := none }

def pool17 : Array CpInfo := pool [(1, .methodref 2 3), (0, .class_ 4), (0, .nameAndType 5 6), (0, u "java/util/AbstractList"), (0, u "<init>"), (0, u "()V"), (0, .class_ 8), (0, u "java/lang/Object"), (0, .fieldref 10 11), (0, .class_ 12), (0, .nameAndType 13 14), (0, u "java/util/ArrayList"), (0, u "elementData"), (0, u "[Ljava/lang/Object;"), (2, u "EMPTY_ELEMENTDATA"), (21, .fieldref 10 40), (0, .nameAndType 41 14), (0, u "DEFAULTCAPACITY_EMPTY_ELEMENTDATA"), (4, u "toArray"), (0, u "()[Ljava/lang/Object;"), (0, .fieldref 10 49), (0, .nameAndType 50 51), (0, u "size"), (0, u "I"), (6, .class_ 60), (1, u "java/util/Arrays"), (0, u "copyOf"), (1, .fieldref 10 64), (0, .nameAndType 65 51), (0, u "modCount"), (0, .methodref 58 67), (0, .nameAndType 61 68), (0, u "([Ljava/lang/Object;I)[Ljava/lang/Object;"), (0, .methodref 10 70), (0, .nameAndType 71 72), (0, u "grow"), (0, u "(I)[Ljava/lang/Object;"), (6, .methodref 80 81), (0, .class_ 82), (0, .nameAndType 83 84), (0, u "java/lang/Math"), (0, u "max"), (0, u "(II)I"), (11, u "(Ljava/lang/Object;)Z"), (32, .methodref 10 130), (0, .nameAndType 71 47), (0, .methodref 10 132), (0, .nameAndType 133 134), (0, u "add"), (0, u "(Ljava/lang/Object;[Ljava/lang/Object;I)V"), (13, .class_ 149), (0, u "java/util/List"), (23, u "()Z"), (88, .class_ 263), (0, u "java/util/ArrayList$ListItr"), (3, .class_ 268), (0, u "java/util/ArrayList$Itr"), (7, .class_ 277), (0, u "java/util/ArrayList$SubList"), (12, .class_ 291), (0, u "java/util/ArrayList$ArrayListSpliterator"), (37, .class_ 330), (0, u "java/util/RandomAccess"), (0, .class_ 332), (0, u "java/lang/Cloneable"), (0, .class_ 334), (0, u "java/io/Serializable"), (0, u "serialVersionUID"), (0, u "J"), (3, u "DEFAULT_CAPACITY"), (22, u "isEmpty"), (136, .class_ 501), (0, u "java/util/ArrayList$SubList$2"), (0, .class_ 503), (0, u "java/util/ArrayList$SubList$1")] 5

def k17c0 : Code := { maxStack := 2, maxLocals := 1, code := jdk_38_method_2_code, exceptionTable := #[], attributes := #[] }
def k17m0 : Method := { name := "<init>", desc := "()V", sig := { parameters := [], returnType := none }, accessFlags := 1, code := some k17c0 }
def k17c1 : Code := { maxStack := 4, maxLocals := 4, code := jdk_38_method_6_code, exceptionTable := #[], attributes := #[] }
def k17m1 : Method := { name := "grow", desc := "(I)[Ljava/lang/Object;", sig := { parameters := [.int], returnType := some (.array (.object "java/lang/Object")) }, accessFlags := 2, code := some k17c1 }
def k17c2 : Code := { maxStack := 3, maxLocals := 1, code := jdk_38_method_7_code, exceptionTable := #[], attributes := #[] }
def k17m2 : Method := { name := "grow", desc := "()[Ljava/lang/Object;", sig := { parameters := [], returnType := some (.array (.object "java/lang/Object")) }, accessFlags := 2, code := some k17c2 }
def k17c3 : Code := { maxStack := 1, maxLocals := 1, code := jdk_38_method_9_code, exceptionTable := #[], attributes := #[] }
def k17m3 : Method := { name := "isEmpty", desc := "()Z", sig := { parameters := [], returnType := some .boolean }, accessFlags := 1, code := some k17c3 }
def k17c4 : Code := { maxStack := 2, maxLocals := 1, code := jdk_38_method_16_code, exceptionTable := #[], attributes := #[] }
def k17m4 : Method := { name := "toArray", desc := "()[Ljava/lang/Object;", sig := { parameters := [], returnType := some (.array (.object "java/lang/Object")) }, accessFlags := 1, code := some k17c4 }
def k17c5 : Code := { maxStack := 3, maxLocals := 4, code := jdk_38_method_24_code, exceptionTable := #[], attributes := #[] }
def k17m5 : Method := { name := "add", desc := "(Ljava/lang/Object;[Ljava/lang/Object;I)V", sig := { parameters := [(.object "java/lang/Object"), (.array (.object "java/lang/Object")), .int], returnType := none }, accessFlags := 2, code := some k17c5 }
def k17c6 : Code := { maxStack := 4, maxLocals := 2, code := jdk_38_method_25_code, exceptionTable := #[], attributes := #[] }
def k17m6 : Method := { name := "add", desc := "(Ljava/lang/Object;)Z", sig := { parameters := [(.object "java/lang/Object")], returnType := some .boolean }, accessFlags := 1, code := some k17c6 }
/-- java/util/ArrayList -/
def k17 : Class := { plain "java/util/ArrayList" (some 14) with
  accessFlags := 33
  interfaces := #[13, 15, 16, 4]
  cf := some (fileOf pool17 10 #[.nestMembers #[290, 276, 500, 502, 262, 267]] #[{ accessFlags := 1, nameIndex := 5, descriptorIndex := 6, attributes := #[] }, { accessFlags := 2, nameIndex := 71, descriptorIndex := 72, attributes := #[] }, { accessFlags := 2, nameIndex := 71, descriptorIndex := 47, attributes := #[] }, { accessFlags := 1, nameIndex := 363, descriptorIndex := 173, attributes := #[] }, { accessFlags := 1, nameIndex := 46, descriptorIndex := 47, attributes := #[] }, { accessFlags := 2, nameIndex := 133, descriptorIndex := 134, attributes := #[] }, { accessFlags := 1, nameIndex := 133, descriptorIndex := 96, attributes := #[] }] 33 2 #[148, 329, 331, 333] #[{ accessFlags := 26, nameIndex := 335, descriptorIndex := 336, attributes := #[] }, { accessFlags := 26, nameIndex := 340, descriptorIndex := 51, attributes := #[] }, { accessFlags := 26, nameIndex := 17, descriptorIndex := 14, attributes := #[] }, { accessFlags := 26, nameIndex := 41, descriptorIndex := 14, attributes := #[] }, { accessFlags := 128, nameIndex := 13, descriptorIndex := 14, attributes := #[] }, { accessFlags := 2, nameIndex := 50, descriptorIndex := 51, attributes := #[] }])
  fields := #[{ name := "serialVersionUID", type := .long, accessFlags := 26, slot := 0, constantValue := 0 }, { name := "DEFAULT_CAPACITY", type := .int, accessFlags := 26, slot := 1, constantValue := 0 }, { name := "EMPTY_ELEMENTDATA", type := (.array (.object "java/lang/Object")), accessFlags := 26, slot := 2, constantValue := 0 }, { name := "DEFAULTCAPACITY_EMPTY_ELEMENTDATA", type := (.array (.object "java/lang/Object")), accessFlags := 26, slot := 3, constantValue := 0 }, { name := "elementData", type := (.array (.object "java/lang/Object")), accessFlags := 128, slot := 1, constantValue := 0 }, { name := "size", type := .int, accessFlags := 2, slot := 2, constantValue := 0 }]
  methods := #[k17m0, k17m1, k17m2, k17m3, k17m4, k17m5, k17m6]
  instanceTypes := #[.int, (.array (.object "java/lang/Object")), .int]
  staticTypes := #[.long, .int, (.array (.object "java/lang/Object")), (.array (.object "java/lang/Object"))]
  resolved := Array.replicate 509 none
  statics := some 1 }

def pool18 : Array CpInfo := pool [(2, .class_ 4), (1, u "java/lang/Object"), (0, u "<init>"), (0, u "()V"), (3, .class_ 11), (0, u "java/util/ImmutableCollections$List12"), (0, .class_ 13), (0, u "java/util/ImmutableCollections$ListN"), (3, u "Z"), (0, .class_ 19), (0, u "java/util/List"), (0, .interfaceMethodref 21 22), (0, .class_ 23), (0, .nameAndType 24 25), (0, u "java/util/Collection"), (0, u "isEmpty"), (0, u "()Z"), (0, .interfaceMethodref 18 27), (0, .nameAndType 28 29), (0, u "of"), (0, u "()Ljava/util/List;"), (0, .interfaceMethodref 21 31), (0, .nameAndType 32 33), (0, u "toArray"), (0, u "()[Ljava/lang/Object;"), (0, .interfaceMethodref 18 35), (0, .nameAndType 28 36), (0, u "([Ljava/lang/Object;)Ljava/util/List;"), (0, .methodref 38 39), (0, .class_ 40), (0, .nameAndType 41 42), (0, u "java/util/Objects"), (0, u "requireNonNull"), (0, u "(Ljava/lang/Object;)Ljava/lang/Object;"), (0, .methodref 12 44), (0, .nameAndType 5 45), (0, u "([Ljava/lang/Object;Z)V"), (1, .class_ 49), (1, u "java/util/ImmutableCollections"), (0, u "$assertionsDisabled"), (5, u "[Ljava/lang/Object;"), (5, u "EMPTY_LIST"), (0, u "Ljava/util/ImmutableCollections$ListN;"), (8, u "EMPTY_LIST_NULLS"), (22, u "SALT32L"), (0, u "J"), (2, u "REVERSE"), (6, u "archivedObjects"), (2, u "EMPTY"), (0, u "Ljava/lang/Object;"), (0, .class_ 112), (0, u "java/util/ImmutableCollections$SetN"), (5, u "EMPTY_SET"), (0, u "Ljava/util/ImmutableCollections$SetN;"), (0, .class_ 121), (0, u "java/util/ImmutableCollections$MapN"), (3, u "EMPTY_MAP"), (0, u "Ljava/util/ImmutableCollections$MapN;"), (4, u "EXPAND_FACTOR"), (0, u "I"), (9, u "listCopy"), (0, u "(Ljava/util/Collection;)Ljava/util/List;"), (7, u "listFromArray"), (17, .class_ 170), (0, u "java/util/ImmutableCollections$MapN$MapNIterator"), (0, .class_ 172), (0, u "java/util/ImmutableCollections$MapN$1"), (0, .class_ 174), (0, u "java/util/ImmutableCollections$Map1"), (0, .class_ 176), (0, u "java/util/ImmutableCollections$AbstractImmutableMap"), (0, .class_ 178), (0, u "java/util/ImmutableCollections$SetN$SetNIterator"), (0, .class_ 180), (0, u "java/util/ImmutableCollections$Set12"), (0, .class_ 182), (0, u "java/util/ImmutableCollections$Set12$1"), (0, .class_ 184), (0, u "java/util/ImmutableCollections$AbstractImmutableSet"), (0, .class_ 186), (0, u "java/util/ImmutableCollections$SubList"), (0, .class_ 188), (0, u "java/util/ImmutableCollections$ListItr"), (0, .class_ 190), (0, u "java/util/ImmutableCollections$AbstractImmutableList"), (0, .class_ 192), (0, u "java/util/ImmutableCollections$AbstractImmutableCollection"), (0, .class_ 194), (0, u "java/util/ImmutableCollections$Access"), (0, .class_ 196), (0, u "java/util/ImmutableCollections$Access$1")] 16

def k18m0 : Method := { name := "<init>", desc := "()V", sig := { parameters := [], returnType := none }, accessFlags := 2, code := none }
def k18c1 : Code := { maxStack := 1, maxLocals := 2, code := jdk_56_method_3_code, exceptionTable := #[], attributes := #[] }
def k18m1 : Method := { name := "listCopy", desc := "(Ljava/util/Collection;)Ljava/util/List;", sig := { parameters := [(.object "java/util/Collection")], returnType := some (.object "java/util/List") }, accessFlags := 8, code := some k18c1 }
def k18c2 : Code := { maxStack := 4, maxLocals := 3, code := jdk_56_method_4_code, exceptionTable := #[], attributes := #[] }
def k18m2 : Method := { name := "listFromArray", desc := "([Ljava/lang/Object;)Ljava/util/List;", sig := { parameters := [(.array (.object "java/lang/Object"))], returnType := some (.object "java/util/List") }, accessFlags := 136, code := some k18c2 }
/-- java/util/ImmutableCollections -/
def k18 : Class := { plain "java/util/ImmutableCollections" (some 0) with
  accessFlags := 32
  interfaces := #[]
  cf := some (fileOf pool18 47 #[.nestMembers #[120, 169, 171, 173, 175, 111, 177, 179, 181, 183, 12, 10, 185, 187, 189, 191, 193, 195]] #[{ accessFlags := 2, nameIndex := 5, descriptorIndex := 6, attributes := #[] }, { accessFlags := 8, nameIndex := 142, descriptorIndex := 143, attributes := #[] }, { accessFlags := 136, nameIndex := 151, descriptorIndex := 36, attributes := #[] }] 32 2 #[] #[{ accessFlags := 26, nameIndex := 95, descriptorIndex := 96, attributes := #[] }, { accessFlags := 26, nameIndex := 99, descriptorIndex := 17, attributes := #[] }, { accessFlags := 10, nameIndex := 106, descriptorIndex := 56, attributes := #[] }, { accessFlags := 26, nameIndex := 109, descriptorIndex := 110, attributes := #[] }, { accessFlags := 24, nameIndex := 62, descriptorIndex := 63, attributes := #[] }, { accessFlags := 24, nameIndex := 72, descriptorIndex := 63, attributes := #[] }, { accessFlags := 24, nameIndex := 118, descriptorIndex := 119, attributes := #[] }, { accessFlags := 24, nameIndex := 125, descriptorIndex := 126, attributes := #[] }, { accessFlags := 24, nameIndex := 131, descriptorIndex := 132, attributes := #[] }, { accessFlags := 4120, nameIndex := 50, descriptorIndex := 17, attributes := #[] }])
  fields := #[{ name := "SALT32L", type := .long, accessFlags := 26, slot := 0, constantValue := 0 }, { name := "REVERSE", type := .boolean, accessFlags := 26, slot := 1, constantValue := 0 }, { name := "archivedObjects", type := (.array (.object "java/lang/Object")), accessFlags := 10, slot := 2, constantValue := 0 }, { name := "EMPTY", type := (.object "java/lang/Object"), accessFlags := 26, slot := 3, constantValue := 0 }, { name := "EMPTY_LIST", type := (.object "java/util/ImmutableCollections$ListN"), accessFlags := 24, slot := 4, constantValue := 0 }, { name := "EMPTY_LIST_NULLS", type := (.object "java/util/ImmutableCollections$ListN"), accessFlags := 24, slot := 5, constantValue := 0 }, { name := "EMPTY_SET", type := (.object "java/util/ImmutableCollections$SetN"), accessFlags := 24, slot := 6, constantValue := 0 }, { name := "EMPTY_MAP", type := (.object "java/util/ImmutableCollections$MapN"), accessFlags := 24, slot := 7, constantValue := 0 }, { name := "EXPAND_FACTOR", type := .int, accessFlags := 24, slot := 8, constantValue := 0 }, { name := "$assertionsDisabled", type := .boolean, accessFlags := 4120, slot := 9, constantValue := 0 }]
  methods := #[k18m0, k18m1, k18m2]
  instanceTypes := #[]
  staticTypes := #[.long, .boolean, (.array (.object "java/lang/Object")), (.object "java/lang/Object"), (.object "java/util/ImmutableCollections$ListN"), (.object "java/util/ImmutableCollections$ListN"), (.object "java/util/ImmutableCollections$SetN"), (.object "java/util/ImmutableCollections$MapN"), .int, .boolean]
  resolved := Array.replicate 213 none
  statics := some 2 }

def pool19 : Array CpInfo := pool [(1, .methodref 2 3), (0, .class_ 4), (0, .nameAndType 5 6), (0, u "java/util/AbstractCollection"), (0, u "<init>"), (0, u "()V"), (1, .class_ 10), (1, u "java/util/ImmutableCollections"), (2, .class_ 14), (0, u "java/util/ImmutableCollections$AbstractImmutableCollection")] 41

def k19c0 : Code := { maxStack := 1, maxLocals := 1, code := jdk_47_method_1_code, exceptionTable := #[], attributes := #[] }
def k19m0 : Method := { name := "<init>", desc := "()V", sig := { parameters := [], returnType := none }, accessFlags := 0, code := some k19c0 }
/-- java/util/ImmutableCollections$AbstractImmutableCollection -/
def k19 : Class := { plain "java/util/ImmutableCollections$AbstractImmutableCollection" (some 11) with
  accessFlags := 1056
  interfaces := #[]
  cf := some (fileOf pool19 13 #[.nestHost 8] #[{ accessFlags := 0, nameIndex := 5, descriptorIndex := 6, attributes := #[] }] 1056 2 #[] #[])
  fields := #[]
  methods := #[k19m0]
  instanceTypes := #[]
  staticTypes := #[]
  resolved := Array.replicate 56 none
  statics := none }

def pool20 : Array CpInfo := pool [(1, .methodref 2 3), (0, .class_ 4), (0, .nameAndType 5 6), (0, u "java/util/ImmutableCollections$AbstractImmutableCollection"), (0, u "<init>"), (0, u "()V"), (1, .class_ 10), (1, u "java/util/ImmutableCollections"), (3, .class_ 16), (1, u "java/util/ImmutableCollections$AbstractImmutableList"), (60, .class_ 78), (0, u "java/util/List"), (45, .class_ 125), (0, u "java/util/RandomAccess")] 70

def k20c0 : Code := { maxStack := 1, maxLocals := 1, code := jdk_46_method_1_code, exceptionTable := #[], attributes := #[] }
def k20m0 : Method := { name := "<init>", desc := "()V", sig := { parameters := [], returnType := none }, accessFlags := 0, code := some k20c0 }
/-- java/util/ImmutableCollections$AbstractImmutableList -/
def k20 : Class := { plain "java/util/ImmutableCollections$AbstractImmutableList" (some 19) with
  accessFlags := 1056
  interfaces := #[13, 15]
  cf := some (fileOf pool20 14 #[.nestHost 8] #[{ accessFlags := 0, nameIndex := 5, descriptorIndex := 6, attributes := #[] }] 1056 2 #[77, 124] #[])
  fields := #[]
  methods := #[k20m0]
  instanceTypes := #[]
  staticTypes := #[]
  resolved := Array.replicate 196 none
  statics := none }

def pool21 : Array CpInfo := pool [(1, .methodref 2 3), (0, .class_ 4), (0, .nameAndType 5 6), (0, u "java/util/ImmutableCollections$AbstractImmutableList"), (0, u "<init>"), (0, u "()V"), (0, .methodref 8 9), (0, .class_ 10), (0, .nameAndType 11 12), (0, u "java/util/Objects"), (0, u "requireNonNull"), (0, u "(Ljava/lang/Object;)Ljava/lang/Object;"), (0, .fieldref 14 15), (0, .class_ 16), (0, .nameAndType 17 18), (0, u "java/util/ImmutableCollections$List12"), (0, u "e0"), (0, u "Ljava/lang/Object;"), (0, .fieldref 20 21), (0, .class_ 22), (0, .nameAndType 23 18), (0, u "java/util/ImmutableCollections"), (0, u "EMPTY"), (0, .fieldref 14 25), (0, .nameAndType 26 18), (0, u "e1"), (24, u "size"), (0, u "()I"), (17, .class_ 71), (0, u "java/io/Serializable"), (4, u "(Ljava/lang/Object;)V"), (8, u "(Ljava/lang/Object;Ljava/lang/Object;)V"), (4, u "get"), (0, u "(I)Ljava/lang/Object;")] 33

def k21c0 : Code := { maxStack := 2, maxLocals := 2, code := jdk_44_method_1_code, exceptionTable := #[], attributes := #[] }
def k21m0 : Method := { name := "<init>", desc := "(Ljava/lang/Object;)V", sig := { parameters := [(.object "java/lang/Object")], returnType := none }, accessFlags := 0, code := some k21c0 }
def k21c1 : Code := { maxStack := 2, maxLocals := 3, code := jdk_44_method_2_code, exceptionTable := #[], attributes := #[] }
def k21m1 : Method := { name := "<init>", desc := "(Ljava/lang/Object;Ljava/lang/Object;)V", sig := { parameters := [(.object "java/lang/Object"), (.object "java/lang/Object")], returnType := none }, accessFlags := 0, code := some k21c1 }
def k21c2 : Code := { maxStack := 2, maxLocals := 1, code := jdk_44_method_3_code, exceptionTable := #[], attributes := #[] }
def k21m2 : Method := { name := "size", desc := "()I", sig := { parameters := [], returnType := some .int }, accessFlags := 1, code := some k21c2 }
def k21c3 : Code := { maxStack := 2, maxLocals := 2, code := jdk_44_method_5_code, exceptionTable := #[], attributes := #[] }
def k21m3 : Method := { name := "get", desc := "(I)Ljava/lang/Object;", sig := { parameters := [.int], returnType := some (.object "java/lang/Object") }, accessFlags := 1, code := some k21c3 }
/-- java/util/ImmutableCollections$List12 -/
def k21 : Class := { plain "java/util/ImmutableCollections$List12" (some 20) with
  accessFlags := 48
  interfaces := #[4]
  cf := some (fileOf pool21 14 #[.nestHost 20] #[{ accessFlags := 0, nameIndex := 5, descriptorIndex := 76, attributes := #[] }, { accessFlags := 0, nameIndex := 5, descriptorIndex := 85, attributes := #[] }, { accessFlags := 1, nameIndex := 51, descriptorIndex := 52, attributes := #[] }, { accessFlags := 1, nameIndex := 90, descriptorIndex := 91, attributes := #[] }] 48 2 #[70] #[{ accessFlags := 18, nameIndex := 17, descriptorIndex := 18, attributes := #[] }, { accessFlags := 18, nameIndex := 26, descriptorIndex := 18, attributes := #[] }])
  fields := #[{ name := "e0", type := (.object "java/lang/Object"), accessFlags := 18, slot := 0, constantValue := 0 }, { name := "e1", type := (.object "java/lang/Object"), accessFlags := 18, slot := 1, constantValue := 0 }]
  methods := #[k21m0, k21m1, k21m2, k21m3]
  instanceTypes := #[(.object "java/lang/Object"), (.object "java/lang/Object")]
  staticTypes := #[]
  resolved := Array.replicate 125 none
  statics := none }

def pool22 : Array CpInfo := pool [(1, .methodref 2 3), (0, .class_ 4), (0, .nameAndType 5 6), (0, u "java/util/ImmutableCollections$AbstractImmutableList"), (0, u "<init>"), (0, u "()V"), (0, .fieldref 8 9), (0, .class_ 10), (0, .nameAndType 11 12), (0, u "java/util/ImmutableCollections$ListN"), (0, u "elements"), (0, u "[Ljava/lang/Object;"), (0, .fieldref 8 14), (0, .nameAndType 15 16), (0, u "allowNulls"), (0, u "Z"), (42, .class_ 60), (0, u "java/io/Serializable"), (4, u "([Ljava/lang/Object;Z)V"), (11, u "size"), (0, u "()I"), (0, u "get"), (0, u "(I)Ljava/lang/Object;"), (33, .class_ 115), (0, u "java/util/ImmutableCollections")] 3

def k22c0 : Code := { maxStack := 2, maxLocals := 3, code := jdk_45_method_1_code, exceptionTable := #[], attributes := #[] }
def k22m0 : Method := { name := "<init>", desc := "([Ljava/lang/Object;Z)V", sig := { parameters := [(.array (.object "java/lang/Object")), .boolean], returnType := none }, accessFlags := 2, code := some k22c0 }
def k22c1 : Code := { maxStack := 1, maxLocals := 1, code := jdk_45_method_3_code, exceptionTable := #[], attributes := #[] }
def k22m1 : Method := { name := "size", desc := "()I", sig := { parameters := [], returnType := some .int }, accessFlags := 1, code := some k22c1 }
def k22c2 : Code := { maxStack := 2, maxLocals := 2, code := jdk_45_method_4_code, exceptionTable := #[], attributes := #[] }
def k22m2 : Method := { name := "get", desc := "(I)Ljava/lang/Object;", sig := { parameters := [.int], returnType := some (.object "java/lang/Object") }, accessFlags := 1, code := some k22c2 }
/-- java/util/ImmutableCollections$ListN -/
def k22 : Class := { plain "java/util/ImmutableCollections$ListN" (some 20) with
  accessFlags := 48
  interfaces := #[4]
  cf := some (fileOf pool22 8 #[.nestHost 114] #[{ accessFlags := 2, nameIndex := 5, descriptorIndex := 65, attributes := #[] }, { accessFlags := 1, nameIndex := 77, descriptorIndex := 78, attributes := #[] }, { accessFlags := 1, nameIndex := 79, descriptorIndex := 80, attributes := #[] }] 48 2 #[59] #[{ accessFlags := 18, nameIndex := 11, descriptorIndex := 12, attributes := #[] }, { accessFlags := 18, nameIndex := 15, descriptorIndex := 16, attributes := #[] }])
  fields := #[{ name := "elements", type := (.array (.object "java/lang/Object")), accessFlags := 18, slot := 0, constantValue := 0 }, { name := "allowNulls", type := .boolean, accessFlags := 18, slot := 1, constantValue := 0 }]
  methods := #[k22m0, k22m1, k22m2]
  instanceTypes := #[(.array (.object "java/lang/Object")), .boolean]
  staticTypes := #[]
  resolved := Array.replicate 119 none
  statics := none }

def pool23 : Array CpInfo := pool [(1, .class_ 2), (0, u "java/lang/Math"), (1, .class_ 6), (1, u "java/lang/Object"), (0, u "<init>"), (0, u "()V"), (89, .class_ 100), (1, u "java/lang/Math$RandomNumberGeneratorHolder"), (71, u "negativeZeroFloatBits"), (0, u "J"), (2, u "negativeZeroDoubleBits"), (21, u "max"), (2, u "min"), (43, u "$assertionsDisabled"), (0, u "Z"), (88, u "(II)I"), (2, u "twoToTheDoubleScaleDown"), (0, u "D"), (4, u "twoToTheDoubleScaleUp"), (9, u "E"), (3, u "PI"), (2, u "TAU"), (2, u "DEGREES_TO_RADIANS"), (0, u "RADIANS_TO_DEGREES")] 94

def k23m0 : Method := { name := "<init>", desc := "()V", sig := { parameters := [], returnType := none }, accessFlags := 2, code := none }
def k23c1 : Code := { maxStack := 2, maxLocals := 2, code := jdk_29_method_65_code, exceptionTable := #[], attributes := #[] }
def k23m1 : Method := { name := "max", desc := "(II)I", sig := { parameters := [.int, .int], returnType := some .int }, accessFlags := 9, code := some k23c1 }
def k23c2 : Code := { maxStack := 2, maxLocals := 2, code := jdk_29_method_69_code, exceptionTable := #[], attributes := #[] }
def k23m2 : Method := { name := "min", desc := "(II)I", sig := { parameters := [.int, .int], returnType := some .int }, accessFlags := 9, code := some k23c2 }
/-- java/lang/Math -/
def k23 : Class := { plain "java/lang/Math" (some 0) with
  accessFlags := 49
  interfaces := #[]
  cf := some (fileOf pool23 1 #[.nestMembers #[98]] #[{ accessFlags := 2, nameIndex := 7, descriptorIndex := 8, attributes := #[] }, { accessFlags := 9, nameIndex := 198, descriptorIndex := 335, attributes := #[] }, { accessFlags := 9, nameIndex := 201, descriptorIndex := 335, attributes := #[] }] 49 4 #[] #[{ accessFlags := 25, nameIndex := 354, descriptorIndex := 339, attributes := #[] }, { accessFlags := 25, nameIndex := 358, descriptorIndex := 339, attributes := #[] }, { accessFlags := 25, nameIndex := 361, descriptorIndex := 339, attributes := #[] }, { accessFlags := 26, nameIndex := 364, descriptorIndex := 339, attributes := #[] }, { accessFlags := 26, nameIndex := 365, descriptorIndex := 339, attributes := #[] }, { accessFlags := 26, nameIndex := 172, descriptorIndex := 173, attributes := #[] }, { accessFlags := 26, nameIndex := 176, descriptorIndex := 173, attributes := #[] }, { accessFlags := 8, nameIndex := 344, descriptorIndex := 339, attributes := #[] }, { accessFlags := 8, nameIndex := 338, descriptorIndex := 339, attributes := #[] }, { accessFlags := 4120, nameIndex := 245, descriptorIndex := 246, attributes := #[] }])
  fields := #[{ name := "E", type := .double, accessFlags := 25, slot := 0, constantValue := 0 }, { name := "PI", type := .double, accessFlags := 25, slot := 1, constantValue := 0 }, { name := "TAU", type := .double, accessFlags := 25, slot := 2, constantValue := 0 }, { name := "DEGREES_TO_RADIANS", type := .double, accessFlags := 26, slot := 3, constantValue := 0 }, { name := "RADIANS_TO_DEGREES", type := .double, accessFlags := 26, slot := 4, constantValue := 0 }, { name := "negativeZeroFloatBits", type := .long, accessFlags := 26, slot := 5, constantValue := 0 }, { name := "negativeZeroDoubleBits", type := .long, accessFlags := 26, slot := 6, constantValue := 0 }, { name := "twoToTheDoubleScaleUp", type := .double, accessFlags := 8, slot := 7, constantValue := 0 }, { name := "twoToTheDoubleScaleDown", type := .double, accessFlags := 8, slot := 8, constantValue := 0 }, { name := "$assertionsDisabled", type := .boolean, accessFlags := 4120, slot := 9, constantValue := 0 }]
  methods := #[k23m0, k23m1, k23m2]
  instanceTypes := #[]
  staticTypes := #[.double, .double, .double, .double, .double, .long, .long, .double, .double, .boolean]
  resolved := Array.replicate 460 none
  statics := none }

def pool24 : Array CpInfo := pool [(1, .methodref 2 3), (0, .class_ 4), (0, .nameAndType 5 6), (0, u "java/lang/Record"), (0, u "<init>"), (0, u "()V"), (0, .interfaceMethodref 8 9), (0, .class_ 10), (0, .nameAndType 11 12), (0, u "java/util/List"), (0, u "copyOf"), (0, u "(Ljava/util/Collection;)Ljava/util/List;"), (0, .fieldref 14 15), (0, .class_ 16), (0, .nameAndType 17 18), (0, u "com/example/barrault/barrault/model/PathPattern"), (0, u "text"), (0, u "Ljava/lang/String;"), (0, .fieldref 14 20), (0, .nameAndType 21 22), (0, u "steps"), (0, u "Ljava/util/List;"), (0, .class_ 24), (0, u "com/example/barrault/barrault/model/PathPattern$Parser"), (10, .interfaceMethodref 8 36), (0, .nameAndType 37 38), (0, u "size"), (0, u "()I"), (0, .interfaceMethodref 8 40), (0, .nameAndType 41 42), (0, u "get"), (0, u "(I)Ljava/lang/Object;"), (0, .class_ 44), (0, u "com/example/barrault/barrault/model/PathPattern$Step"), (5, .class_ 52), (1, u "com/example/barrault/barrault/model/PathPattern$Axis"), (27, u "()Z"), (4, .class_ 86), (0, u "com/example/barrault/barrault/model/PathPattern$Predicate"), (34, .methodref 43 122), (0, .nameAndType 123 124), (0, u "kind"), (0, u "()Lcom/example/barrault/barrault/model/PathPattern$Kind;"), (0, .fieldref 126 127), (0, .class_ 128), (0, .nameAndType 129 130), (0, u "com/example/barrault/barrault/model/PathPattern$Kind"), (0, u "ELEMENT"), (0, u "Lcom/example/barrault/barrault/model/PathPattern$Kind;"), (14, .class_ 146), (0, u "com/example/barrault/barrault/model/PathPattern$Contains"), (16, .class_ 164), (0, u "com/example/barrault/barrault/model/PathPattern$Equals"), (3, .class_ 169), (0, u "com/example/barrault/barrault/model/PathPattern$Position"), (11, .class_ 183), (1, u "com/example/barrault/barrault/model/PathPattern$Operand"), (27, u "(Ljava/lang/String;Ljava/util/List;)V"), (8, u "selectsElements"), (4, .class_ 226), (0, u "com/example/barrault/barrault/model/PathPattern$Last")] 47

def k24c0 : Code := { maxStack := 2, maxLocals := 3, code := prog_37_method_1_code, exceptionTable := #[], attributes := #[] }
def k24m0 : Method := { name := "<init>", desc := "(Ljava/lang/String;Ljava/util/List;)V", sig := { parameters := [(.object "java/lang/String"), (.object "java/util/List")], returnType := none }, accessFlags := 1, code := some k24c0 }
def k24c1 : Code := { maxStack := 3, maxLocals := 1, code := prog_37_method_4_code, exceptionTable := #[], attributes := #[] }
def k24m1 : Method := { name := "selectsElements", desc := "()Z", sig := { parameters := [], returnType := some .boolean }, accessFlags := 1, code := some k24c1 }
/-- com/example/barrault/barrault/model/PathPattern -/
def k24 : Class := { plain "com/example/barrault/barrault/model/PathPattern" (some 7) with
  accessFlags := 49
  interfaces := #[]
  cf := some (fileOf pool24 14 #[.nestMembers #[23, 225, 168, 163, 145, 85, 181, 43, 126, 50]] #[{ accessFlags := 1, nameIndex := 5, descriptorIndex := 211, attributes := #[] }, { accessFlags := 1, nameIndex := 220, descriptorIndex := 80, attributes := #[] }] 49 2 #[] #[{ accessFlags := 18, nameIndex := 17, descriptorIndex := 18, attributes := #[] }, { accessFlags := 18, nameIndex := 21, descriptorIndex := 22, attributes := #[] }])
  fields := #[{ name := "text", type := (.object "java/lang/String"), accessFlags := 18, slot := 0, constantValue := 0 }, { name := "steps", type := (.object "java/util/List"), accessFlags := 18, slot := 1, constantValue := 0 }]
  methods := #[k24m0, k24m1]
  instanceTypes := #[(.object "java/lang/String"), (.object "java/util/List")]
  staticTypes := #[]
  resolved := Array.replicate 274 none
  statics := none }

def pool25 : Array CpInfo := pool [(2, .class_ 4), (1, u "java/lang/CharSequence"), (42, .class_ 48), (0, u "java/lang/CharSequence$1CodePointIterator"), (10, .class_ 60), (0, u "java/lang/CharSequence$1CharIterator"), (5, .class_ 67), (0, u "java/lang/Object")] 63

/-- java/lang/CharSequence -/
def k25 : Class := { plain "java/lang/CharSequence" (some 0) with
  accessFlags := 1537
  interfaces := #[]
  cf := some (fileOf pool25 2 #[.nestMembers #[47, 59]] #[] 1537 66 #[] #[])
  fields := #[]
  methods := #[]
  instanceTypes := #[]
  staticTypes := #[]
  resolved := Array.replicate 131 none
  statics := none }

def pool26 : Array CpInfo := pool [(1, .class_ 2), (0, u "java/lang/constant/ConstantDesc"), (0, .class_ 4), (0, u "java/lang/Object")] 32

/-- java/lang/constant/ConstantDesc -/
def k26 : Class := { plain "java/lang/constant/ConstantDesc" (some 0) with
  accessFlags := 1537
  interfaces := #[]
  cf := some (fileOf pool26 1 #[] #[] 1537 3 #[] #[])
  fields := #[]
  methods := #[]
  instanceTypes := #[]
  staticTypes := #[]
  resolved := Array.replicate 37 none
  statics := none }

def pool27 : Array CpInfo := pool [(2, .class_ 4), (1, u "java/lang/Object"), (0, u "<init>"), (0, u "()V"), (3, .class_ 12), (1, u "java/lang/String"), (0, u "value"), (0, u "[B"), (2, u "coder"), (0, u "B"), (2, u "hash"), (0, u "I"), (2, u "hashIsZero"), (0, u "Z"), (13, u "COMPACT_STRINGS"), (534, .class_ 576), (0, u "java/lang/CharSequence"), (22, u "CASE_INSENSITIVE_ORDER"), (0, u "Ljava/util/Comparator;"), (500, u "serialPersistentFields"), (0, u "[Ljava/io/ObjectStreamField;"), (0, .class_ 1104), (0, u "java/lang/String$CaseInsensitiveComparator"), (1, .class_ 1107), (0, u "java/io/Serializable"), (0, .class_ 1109), (0, u "java/lang/Comparable"), (0, .class_ 1111), (0, u "java/lang/constant/Constable"), (0, .class_ 1113), (0, u "java/lang/constant/ConstantDesc"), (2, u "serialVersionUID"), (0, u "J"), (3, u "REPL"), (0, u "C"), (2, u "LATIN1"), (1, u "UTF16")] 323

def k27m0 : Method := { name := "<init>", desc := "()V", sig := { parameters := [], returnType := none }, accessFlags := 1, code := none }
/-- java/lang/String -/
def k27 : Class := { plain "java/lang/String" (some 0) with
  accessFlags := 49
  interfaces := #[4, 3, 25, 2, 26]
  cf := some (fileOf pool27 10 #[.nestMembers #[1103]] #[{ accessFlags := 1, nameIndex := 5, descriptorIndex := 6, attributes := #[] }] 49 2 #[1106, 1108, 575, 1110, 1112] #[{ accessFlags := 18, nameIndex := 13, descriptorIndex := 14, attributes := #[] }, { accessFlags := 18, nameIndex := 17, descriptorIndex := 18, attributes := #[] }, { accessFlags := 2, nameIndex := 21, descriptorIndex := 22, attributes := #[] }, { accessFlags := 2, nameIndex := 25, descriptorIndex := 26, attributes := #[] }, { accessFlags := 26, nameIndex := 1116, descriptorIndex := 1117, attributes := #[] }, { accessFlags := 24, nameIndex := 40, descriptorIndex := 26, attributes := #[] }, { accessFlags := 26, nameIndex := 1101, descriptorIndex := 1102, attributes := #[] }, { accessFlags := 26, nameIndex := 1121, descriptorIndex := 1122, attributes := #[] }, { accessFlags := 25, nameIndex := 599, descriptorIndex := 600, attributes := #[] }, { accessFlags := 24, nameIndex := 1125, descriptorIndex := 18, attributes := #[] }, { accessFlags := 24, nameIndex := 1127, descriptorIndex := 18, attributes := #[] }])
  fields := #[{ name := "value", type := (.array .byte), accessFlags := 18, slot := 0, constantValue := 0 }, { name := "coder", type := .byte, accessFlags := 18, slot := 1, constantValue := 0 }, { name := "hash", type := .int, accessFlags := 2, slot := 2, constantValue := 0 }, { name := "hashIsZero", type := .boolean, accessFlags := 2, slot := 3, constantValue := 0 }, { name := "serialVersionUID", type := .long, accessFlags := 26, slot := 0, constantValue := 0 }, { name := "COMPACT_STRINGS", type := .boolean, accessFlags := 24, slot := 1, constantValue := 0 }, { name := "serialPersistentFields", type := (.array (.object "java/io/ObjectStreamField")), accessFlags := 26, slot := 2, constantValue := 0 }, { name := "REPL", type := .char, accessFlags := 26, slot := 3, constantValue := 0 }, { name := "CASE_INSENSITIVE_ORDER", type := (.object "java/util/Comparator"), accessFlags := 25, slot := 4, constantValue := 0 }, { name := "LATIN1", type := .byte, accessFlags := 24, slot := 5, constantValue := 0 }, { name := "UTF16", type := .byte, accessFlags := 24, slot := 6, constantValue := 0 }]
  methods := #[k27m0]
  instanceTypes := #[(.array .byte), .byte, .int, .boolean]
  staticTypes := #[.long, .boolean, (.array (.object "java/io/ObjectStreamField")), .char, (.object "java/util/Comparator"), .byte, .byte]
  resolved := Array.replicate 1451 none
  statics := none }

def pool28 : Array CpInfo := pool [(2, .class_ 4), (1, u "java/lang/Object"), (0, u "<init>"), (0, u "()V"), (7, .class_ 16), (1, u "java/util/Arrays"), (57, .class_ 76), (1, u "java/util/Arrays$NaturalOrder"), (9, .methodref 2 87), (0, .nameAndType 88 89), (0, u "getClass"), (0, u "()Ljava/lang/Class;"), (20, .class_ 111), (0, u "[Ljava/lang/Object;"), (1, .class_ 115), (1, u "java/util/Arrays$LegacyMergeSort"), (1, u "Z"), (32, .methodref 151 152), (0, .class_ 153), (0, .nameAndType 154 155), (0, u "java/lang/System"), (0, u "arraycopy"), (0, u "(Ljava/lang/Object;ILjava/lang/Object;II)V"), (144, .methodref 14 301), (0, .nameAndType 302 303), (0, u "copyOf"), (0, u "([Ljava/lang/Object;ILjava/lang/Class;)[Ljava/lang/Object;"), (0, .methodref 305 306), (0, .class_ 307), (0, .nameAndType 308 309), (0, u "java/lang/Math"), (0, u "min"), (0, u "(II)I"), (65, .class_ 376), (0, u "java/util/Arrays$ArrayList"), (68, u "$assertionsDisabled"), (269, u "MIN_ARRAY_SORT_GRAN"), (0, u "I"), (2, u "INSERTIONSORT_THRESHOLD"), (140, u "([Ljava/lang/Object;I)[Ljava/lang/Object;"), (114, .class_ 976), (0, u "java/util/Arrays$ArrayItr")] 52

def k28m0 : Method := { name := "<init>", desc := "()V", sig := { parameters := [], returnType := none }, accessFlags := 2, code := none }
def k28c1 : Code := { maxStack := 3, maxLocals := 2, code := jdk_65_method_119_code, exceptionTable := #[], attributes := #[] }
def k28m1 : Method := { name := "copyOf", desc := "([Ljava/lang/Object;I)[Ljava/lang/Object;", sig := { parameters := [(.array (.object "java/lang/Object")), .int], returnType := some (.array (.object "java/lang/Object")) }, accessFlags := 9, code := some k28c1 }
def k28c2 : Code := { maxStack := 6, maxLocals := 4, code := jdk_65_method_120_code, exceptionTable := #[], attributes := #[] }
def k28m2 : Method := { name := "copyOf", desc := "([Ljava/lang/Object;ILjava/lang/Class;)[Ljava/lang/Object;", sig := { parameters := [(.array (.object "java/lang/Object")), .int, (.object "java/lang/Class")], returnType := some (.array (.object "java/lang/Object")) }, accessFlags := 9, code := some k28c2 }
/-- java/util/Arrays -/
def k28 : Class := { plain "java/util/Arrays" (some 0) with
  accessFlags := 49
  interfaces := #[]
  cf := some (fileOf pool28 14 #[.nestMembers #[975, 375, 113, 74]] #[{ accessFlags := 2, nameIndex := 5, descriptorIndex := 6, attributes := #[] }, { accessFlags := 9, nameIndex := 302, descriptorIndex := 860, attributes := #[] }, { accessFlags := 9, nameIndex := 302, descriptorIndex := 303, attributes := #[] }] 49 2 #[] #[{ accessFlags := 26, nameIndex := 715, descriptorIndex := 716, attributes := #[] }, { accessFlags := 26, nameIndex := 719, descriptorIndex := 716, attributes := #[] }, { accessFlags := 4120, nameIndex := 445, descriptorIndex := 117, attributes := #[] }])
  fields := #[{ name := "MIN_ARRAY_SORT_GRAN", type := .int, accessFlags := 26, slot := 0, constantValue := 0 }, { name := "INSERTIONSORT_THRESHOLD", type := .int, accessFlags := 26, slot := 1, constantValue := 0 }, { name := "$assertionsDisabled", type := .boolean, accessFlags := 4120, slot := 2, constantValue := 0 }]
  methods := #[k28m0, k28m1, k28m2]
  instanceTypes := #[]
  staticTypes := #[.int, .int, .boolean]
  resolved := Array.replicate 1029 none
  statics := none }

def pool29 : Array CpInfo := pool [(2, .class_ 4), (1, u "java/lang/Object"), (0, u "<init>"), (0, u "()V"), (1, .class_ 10), (1, u "java/lang/System"), (0, u "allowSecurityManager"), (0, u "I"), (16, u "cons"), (0, u "Ljava/io/Console;"), (77, .class_ 110), (1, u "java/lang/System$CallersHolder"), (43, u "initialErrStream"), (0, u "Ljava/io/PrintStream;"), (19, u "security"), (0, u "Ljava/lang/SecurityManager;"), (31, .class_ 209), (0, u "java/lang/System$1"), (7, u "props"), (0, u "Ljava/util/Properties;"), (2, u "lineSeparator"), (0, u "Ljava/lang/String;"), (96, .class_ 321), (1, u "java/lang/System$LoggerFinder"), (5, .class_ 328), (0, u "java/lang/System$Logger"), (67, u "err"), (2, u "out"), (91, u "notSupportedJnuEncoding"), (15, u "in"), (17, u "initialIn"), (0, u "Ljava/io/InputStream;"), (35, u "bootLayer"), (0, u "Ljava/lang/ModuleLayer;"), (99, .class_ 664), (0, u "java/lang/System$2"), (9, u "NEVER"), (2, u "MAYBE"), (49, u "arraycopy"), (0, u "(Ljava/lang/Object;ILjava/lang/Object;II)V"), (72, .class_ 802), (0, u "java/lang/System$Logger$Level")] 31

def k29m0 : Method := { name := "<init>", desc := "()V", sig := { parameters := [], returnType := none }, accessFlags := 2, code := none }
def k29m1 : Method := { name := "arraycopy", desc := "(Ljava/lang/Object;ILjava/lang/Object;II)V", sig := { parameters := [(.object "java/lang/Object"), .int, (.object "java/lang/Object"), .int, .int], returnType := none }, accessFlags := 265, code := none }
/-- java/lang/System -/
def k29 : Class := { plain "java/lang/System" (some 0) with
  accessFlags := 49
  interfaces := #[]
  cf := some (fileOf pool29 8 #[.nestMembers #[319, 327, 801, 108, 663, 208]] #[{ accessFlags := 2, nameIndex := 5, descriptorIndex := 6, attributes := #[] }, { accessFlags := 265, nameIndex := 727, descriptorIndex := 728, attributes := #[] }] 49 2 #[] #[{ accessFlags := 25, nameIndex := 507, descriptorIndex := 526, attributes := #[] }, { accessFlags := 25, nameIndex := 399, descriptorIndex := 155, attributes := #[] }, { accessFlags := 25, nameIndex := 396, descriptorIndex := 155, attributes := #[] }, { accessFlags := 10, nameIndex := 525, descriptorIndex := 526, attributes := #[] }, { accessFlags := 26, nameIndex := 674, descriptorIndex := 12, attributes := #[] }, { accessFlags := 26, nameIndex := 677, descriptorIndex := 12, attributes := #[] }, { accessFlags := 10, nameIndex := 11, descriptorIndex := 12, attributes := #[] }, { accessFlags := 74, nameIndex := 175, descriptorIndex := 176, attributes := #[] }, { accessFlags := 10, nameIndex := 491, descriptorIndex := 222, attributes := #[] }, { accessFlags := 74, nameIndex := 29, descriptorIndex := 30, attributes := #[] }, { accessFlags := 74, nameIndex := 154, descriptorIndex := 155, attributes := #[] }, { accessFlags := 10, nameIndex := 217, descriptorIndex := 218, attributes := #[] }, { accessFlags := 10, nameIndex := 221, descriptorIndex := 222, attributes := #[] }, { accessFlags := 8, nameIndex := 562, descriptorIndex := 563, attributes := #[] }])
  fields := #[{ name := "in", type := (.object "java/io/InputStream"), accessFlags := 25, slot := 0, constantValue := 0 }, { name := "out", type := (.object "java/io/PrintStream"), accessFlags := 25, slot := 1, constantValue := 0 }, { name := "err", type := (.object "java/io/PrintStream"), accessFlags := 25, slot := 2, constantValue := 0 }, { name := "initialIn", type := (.object "java/io/InputStream"), accessFlags := 10, slot := 3, constantValue := 0 }, { name := "NEVER", type := .int, accessFlags := 26, slot := 4, constantValue := 0 }, { name := "MAYBE", type := .int, accessFlags := 26, slot := 5, constantValue := 0 }, { name := "allowSecurityManager", type := .int, accessFlags := 10, slot := 6, constantValue := 0 }, { name := "security", type := (.object "java/lang/SecurityManager"), accessFlags := 74, slot := 7, constantValue := 0 }, { name := "notSupportedJnuEncoding", type := (.object "java/lang/String"), accessFlags := 10, slot := 8, constantValue := 0 }, { name := "cons", type := (.object "java/io/Console"), accessFlags := 74, slot := 9, constantValue := 0 }, { name := "initialErrStream", type := (.object "java/io/PrintStream"), accessFlags := 74, slot := 10, constantValue := 0 }, { name := "props", type := (.object "java/util/Properties"), accessFlags := 10, slot := 11, constantValue := 0 }, { name := "lineSeparator", type := (.object "java/lang/String"), accessFlags := 10, slot := 12, constantValue := 0 }, { name := "bootLayer", type := (.object "java/lang/ModuleLayer"), accessFlags := 8, slot := 13, constantValue := 0 }]
  methods := #[k29m0, k29m1]
  instanceTypes := #[]
  staticTypes := #[(.object "java/io/InputStream"), (.object "java/io/PrintStream"), (.object "java/io/PrintStream"), (.object "java/io/InputStream"), .int, .int, .int, (.object "java/lang/SecurityManager"), (.object "java/lang/String"), (.object "java/io/Console"), (.object "java/io/PrintStream"), (.object "java/util/Properties"), (.object "java/lang/String"), (.object "java/lang/ModuleLayer")]
  resolved := Array.replicate 834 none
  statics := none }

def pool30 : Array CpInfo := pool [(2, .class_ 4), (1, u "java/lang/Object"), (0, u "<init>"), (0, u "()V"), (35, .class_ 44), (1, u "java/util/Objects"), (0, u "requireNonNull"), (0, u "(Ljava/lang/Object;)Ljava/lang/Object;")] 137

def k30m0 : Method := { name := "<init>", desc := "()V", sig := { parameters := [], returnType := none }, accessFlags := 2, code := none }
def k30c1 : Code := { maxStack := 2, maxLocals := 1, code := jdk_31_method_10_code, exceptionTable := #[], attributes := #[] }
def k30m1 : Method := { name := "requireNonNull", desc := "(Ljava/lang/Object;)Ljava/lang/Object;", sig := { parameters := [(.object "java/lang/Object")], returnType := some (.object "java/lang/Object") }, accessFlags := 9, code := some k30c1 }
/-- java/util/Objects -/
def k30 : Class := { plain "java/util/Objects" (some 0) with
  accessFlags := 49
  interfaces := #[]
  cf := some (fileOf pool30 42 #[] #[{ accessFlags := 2, nameIndex := 5, descriptorIndex := 6, attributes := #[] }, { accessFlags := 9, nameIndex := 45, descriptorIndex := 46, attributes := #[] }] 49 2 #[] #[])
  fields := #[]
  methods := #[k30m0, k30m1]
  instanceTypes := #[]
  staticTypes := #[]
  resolved := Array.replicate 184 none
  statics := none }

def pool31 : Array CpInfo := pool [(1, u "java/lang/Class"), (0, .class_ 1), (0, u "java/lang/Object"), (0, .class_ 3)] 0

/-- java/lang/Class -/
def k31 : Class := { plain "java/lang/Class" (some 0) with
  accessFlags := 33
  interfaces := #[]
  cf := some (fileOf pool31 2 #[] #[] 33 4 #[] #[])
  fields := #[]
  methods := #[]
  instanceTypes := #[]
  staticTypes := #[]
  resolved := Array.replicate 5 none
  statics := none }

/-- the primitive byte -/
def k32 : Class := { plain "byte" none with kind := .primitive 'B', accessFlags := 0x411 }
/-- [B -/
def k33 : Class := { plain "[B" (some 0) with kind := .array 32 .byte, interfaces := #[16, 4], accessFlags := 1041 }

/-- the primitive int -/
def k34 : Class := { plain "int" none with kind := .primitive 'I', accessFlags := 0x411 }
/-- [I -/
def k35 : Class := { plain "[I" (some 0) with kind := .array 34 .int, interfaces := #[16, 4], accessFlags := 1041 }

/-- [Ljava/lang/Object; -/
def k36 : Class := { plain "[Ljava/lang/Object;" (some 0) with kind := .array 0 (.object "java/lang/Object"), mirror := some 3, interfaces := #[16, 4], accessFlags := 1041 }

def heap : Heap := #[{ cls := 6, slots := #[.ref 4, .ref 5, .ref 6, .null], vm := .statics 6 },
  { cls := 17, slots := #[.long 0, .int 0, .ref 7, .ref 8], vm := .statics 17 },
  { cls := 18, slots := #[.long 0, .int 0, .null, .ref 10, .ref 9, .null, .null, .null, .int 0, .int 1], vm := .statics 18 },
  { cls := 31, slots := #[], vm := .mirror 36 },
  { cls := 6, slots := #[.null, .int 0, .int 0], vm := .none },
  { cls := 6, slots := #[.null, .int 1, .int 0], vm := .none },
  { cls := 6, slots := #[.null, .int 2, .int 0], vm := .none },
  { cls := 36, slots := #[], vm := .none },
  { cls := 36, slots := #[], vm := .none },
  { cls := 22, slots := #[.ref 7, .int 0], vm := .none },
  { cls := 0, slots := #[], vm := .none }]
def classes : Array Class := #[k0, k1, k2, k3, k4, k5, k6, k7, k8, k9, k10, k11, k12, k13, k14, k15, k16, k17, k18, k19, k20, k21, k22, k23, k24, k25, k26, k27, k28, k29, k30, k31, k32, k33, k34, k35, k36]
def interned : List (Array UInt16 × Addr) := []
def slotsUsed : Nat := 29
def theMethod : MethodId := ⟨1, 2⟩
def args0 : Array Value := #[.int 5, .int 1, .int 65, .int 3]
def aboutOver (below : List Frame) : State where
  vm := { classes := classes, interned := interned.toArray }
  heap := heap
  slotsUsed := slotsUsed
  threads := #[{ frames := .invoking theMethod args0 :: below }]
def below0 : List Frame := [.native { method := ⟨0, 0⟩, args := #[] }]
def about1 : State := aboutOver below0
def p0 : Program := .bare "" "" ""
def e0 : Env := launch0.env 0 0 0
theorem w_frames : about1.frames = Frame.invoking theMethod args0 :: below0 := rfl
set_option maxRecDepth 65536 in
theorem w_args : argsFit about1.vm theMethod args0 = true := by decide +kernel
set_option maxRecDepth 65536 in
theorem w_heap : heapFits about1 = true := by decide +kernel
set_option maxRecDepth 65536 in
theorem w_runnable : about1.curStatus? = some .runnable := by decide +kernel
set_option maxRecDepth 65536 in
theorem w_alone : about1.alone = true := by decide +kernel
set_option maxRecDepth 65536 in
theorem w_named : about1.methodNamed? x = some theMethod := by decide +kernel
set_option maxRecDepth 65536 in
theorem w_hears : about1.hears theMethod below0 = true := by decide +kernel
set_option maxRecDepth 65536 in
theorem w_ripe : about1.ripe theMethod args0 below0 = true := by decide +kernel
theorem w_running : about1.status = .running := rfl
set_option maxRecDepth 65536 in
theorem w_room : about1.hasRoom e0.platform room_1 = true :=
  launch0.hasRoom_least _ room_1 (by decide +kernel) (by decide +kernel) (by decide +kernel) (by decide +kernel) (by decide +kernel) (by decide +kernel)
theorem allAtoms_all (ts : List Jvm.Cond) (a : Array Jvm.Value) (st : Jvm.State) : (allAtoms ts).before a st = ts.all (fun c => c.before a st) := by
  induction ts with
  | nil => rfl
  | cons c t ih =>
    show (Jvm.Cond.and c (allAtoms t)).before a st = _
    rw [Jvm.Cond.before_and, ih, List.all_cons]
def words1 : List Jvm.Cond := Jvm.Cond.code x code maxLocals ret :: tables_1
/-- a 'code' word, met by the world's own term for the bytes: nothing is compared byte by byte -/
theorem code_word {y : MethodName} {bytes : ByteArray} {mx : Nat} {rt : Option FieldType} {a : Array Value} {s : State} {m : MethodId} {meth : Method} {c : Code} (h1 : s.methodNamed? y = some m) (h2 : s.vm.method? m = some meth) (h3 : meth.code = some c) (h4 : c.code = bytes)
    (h5 : (c.maxLocals == mx && c.exceptionTable.isEmpty && decide (c.maxStack ≤ mostOperands) && decide (meth.sig.returnType = rt) && !meth.locks && decide (parseMethodDescriptor y.desc = some meth.sig)) = true) : (Jvm.Cond.code y bytes mx rt).before a s = true := by
  simp only [Bool.and_eq_true, beq_iff_eq, Bool.not_eq_true', decide_eq_true_eq] at h5
  obtain ⟨⟨⟨⟨⟨g1, g2⟩, g3⟩, g4⟩, g5⟩, g6⟩ := h5
  simp [Cond.before, Cond.holds, Cond.value, h1, h2, h3, h4, g1, g2, g3, g4, g5, g6]
def isCode : Jvm.Cond → Bool
  | .code _ _ _ _ => true
  | _ => false
theorem all_split {L : List Jvm.Cond} {P : Jvm.Cond → Bool} (h1 : L.all (fun c => isCode c || P c) = true) (h2 : ∀ c ∈ L.filter isCode, P c = true) : L.all P = true := by
  refine List.all_eq_true.mpr fun c hc => ?_
  have h := List.all_eq_true.mp h1 c hc
  rcases Bool.eq_false_or_eq_true (isCode c) with hi | hi
  · exact h2 c (List.mem_filter.mpr ⟨hc, hi⟩)
  · simpa [hi] using h
set_option maxRecDepth 65536 in
theorem w_c0 : (Jvm.Cond.code x code maxLocals ret).before args0 about1 = true := code_word (m := ⟨1, 2⟩) (meth := k1m2) (c := k1c2) (by decide +kernel) rfl rfl rfl (by decide +kernel)
set_option maxRecDepth 65536 in
theorem w_c1 : (Jvm.Cond.code ({ cls := "com/example/barrault/barrault/model/PathPatternSelectsElementsPinLaw", name := "kind", desc := "(I)Lcom/example/barrault/barrault/model/PathPattern$Kind;" } : Jvm.MethodName) method_2_code (2 : Nat) (Option.some (Jvm.ClassFile.FieldType.object "com/example/barrault/barrault/model/PathPattern$Kind"))).before args0 about1 = true := code_word (m := ⟨1, 1⟩) (meth := k1m1) (c := k1c1) (by decide +kernel) rfl rfl rfl (by decide +kernel)
set_option maxRecDepth 65536 in
theorem w_c2 : (Jvm.Cond.code ({ cls := "java/util/ArrayList", name := "<init>", desc := "()V" } : Jvm.MethodName) jdk_38_method_2_code (1 : Nat) (Option.none : Option Jvm.ClassFile.FieldType)).before args0 about1 = true := code_word (m := ⟨17, 0⟩) (meth := k17m0) (c := k17c0) (by decide +kernel) rfl rfl rfl (by decide +kernel)
set_option maxRecDepth 65536 in
theorem w_c3 : (Jvm.Cond.code ({ cls := "java/util/AbstractList", name := "<init>", desc := "()V" } : Jvm.MethodName) jdk_39_method_1_code (1 : Nat) (Option.none : Option Jvm.ClassFile.FieldType)).before args0 about1 = true := code_word (m := ⟨14, 0⟩) (meth := k14m0) (c := k14c0) (by decide +kernel) rfl rfl rfl (by decide +kernel)
set_option maxRecDepth 65536 in
theorem w_c4 : (Jvm.Cond.code ({ cls := "java/util/AbstractCollection", name := "<init>", desc := "()V" } : Jvm.MethodName) jdk_22_method_1_code (1 : Nat) (Option.none : Option Jvm.ClassFile.FieldType)).before args0 about1 = true := code_word (m := ⟨11, 0⟩) (meth := k11m0) (c := k11c0) (by decide +kernel) rfl rfl rfl (by decide +kernel)
set_option maxRecDepth 65536 in
theorem w_c5 : (Jvm.Cond.code ({ cls := "java/lang/Object", name := "<init>", desc := "()V" } : Jvm.MethodName) object_method_1_code (1 : Nat) (Option.none : Option Jvm.ClassFile.FieldType)).before args0 about1 = true := code_word (m := ⟨0, 0⟩) (meth := k0m0) (c := k0c0) (by decide +kernel) rfl rfl rfl (by decide +kernel)
set_option maxRecDepth 65536 in
theorem w_c6 : (Jvm.Cond.code ({ cls := "com/example/barrault/barrault/model/PathPattern$Step", name := "<init>", desc := "(Lcom/example/barrault/barrault/model/PathPattern$Axis;Lcom/example/barrault/barrault/model/PathPattern$Kind;Ljava/lang/String;Ljava/util/List;)V" } : Jvm.MethodName) prog_47_method_1_code (5 : Nat) (Option.none : Option Jvm.ClassFile.FieldType)).before args0 about1 = true := code_word (m := ⟨8, 0⟩) (meth := k8m0) (c := k8c0) (by decide +kernel) rfl rfl rfl (by decide +kernel)
set_option maxRecDepth 65536 in
theorem w_c7 : (Jvm.Cond.code ({ cls := "java/lang/Record", name := "<init>", desc := "()V" } : Jvm.MethodName) jdk_30_method_1_code (1 : Nat) (Option.none : Option Jvm.ClassFile.FieldType)).before args0 about1 = true := code_word (m := ⟨7, 0⟩) (meth := k7m0) (c := k7c0) (by decide +kernel) rfl rfl rfl (by decide +kernel)
set_option maxRecDepth 65536 in
theorem w_c8 : (Jvm.Cond.code ({ cls := "java/util/List", name := "copyOf", desc := "(Ljava/util/Collection;)Ljava/util/List;" } : Jvm.MethodName) jdk_40_method_48_code (1 : Nat) (Option.some (Jvm.ClassFile.FieldType.object "java/util/List"))).before args0 about1 = true := code_word (m := ⟨13, 5⟩) (meth := k13m5) (c := k13c5) (by decide +kernel) rfl rfl rfl (by decide +kernel)
set_option maxRecDepth 65536 in
theorem w_c9 : (Jvm.Cond.code ({ cls := "java/util/ImmutableCollections", name := "listCopy", desc := "(Ljava/util/Collection;)Ljava/util/List;" } : Jvm.MethodName) jdk_56_method_3_code (2 : Nat) (Option.some (Jvm.ClassFile.FieldType.object "java/util/List"))).before args0 about1 = true := code_word (m := ⟨18, 1⟩) (meth := k18m1) (c := k18c1) (by decide +kernel) rfl rfl rfl (by decide +kernel)
set_option maxRecDepth 65536 in
theorem w_c10 : (Jvm.Cond.code ({ cls := "java/util/ArrayList", name := "isEmpty", desc := "()Z" } : Jvm.MethodName) jdk_38_method_9_code (1 : Nat) (Option.some Jvm.ClassFile.FieldType.boolean)).before args0 about1 = true := code_word (m := ⟨17, 3⟩) (meth := k17m3) (c := k17c3) (by decide +kernel) rfl rfl rfl (by decide +kernel)
set_option maxRecDepth 65536 in
theorem w_c11 : (Jvm.Cond.code ({ cls := "java/util/List", name := "of", desc := "()Ljava/util/List;" } : Jvm.MethodName) jdk_40_method_36_code (0 : Nat) (Option.some (Jvm.ClassFile.FieldType.object "java/util/List"))).before args0 about1 = true := code_word (m := ⟨13, 3⟩) (meth := k13m3) (c := k13c3) (by decide +kernel) rfl rfl rfl (by decide +kernel)
set_option maxRecDepth 65536 in
theorem w_c12 : (Jvm.Cond.code ({ cls := "java/util/ArrayList", name := "add", desc := "(Ljava/lang/Object;)Z" } : Jvm.MethodName) jdk_38_method_25_code (2 : Nat) (Option.some Jvm.ClassFile.FieldType.boolean)).before args0 about1 = true := code_word (m := ⟨17, 6⟩) (meth := k17m6) (c := k17c6) (by decide +kernel) rfl rfl rfl (by decide +kernel)
set_option maxRecDepth 65536 in
theorem w_c13 : (Jvm.Cond.code ({ cls := "java/util/ArrayList", name := "add", desc := "(Ljava/lang/Object;[Ljava/lang/Object;I)V" } : Jvm.MethodName) jdk_38_method_24_code (4 : Nat) (Option.none : Option Jvm.ClassFile.FieldType)).before args0 about1 = true := code_word (m := ⟨17, 5⟩) (meth := k17m5) (c := k17c5) (by decide +kernel) rfl rfl rfl (by decide +kernel)
set_option maxRecDepth 65536 in
theorem w_c14 : (Jvm.Cond.code ({ cls := "java/util/ArrayList", name := "grow", desc := "()[Ljava/lang/Object;" } : Jvm.MethodName) jdk_38_method_7_code (1 : Nat) (Option.some (Jvm.ClassFile.FieldType.array (Jvm.ClassFile.FieldType.object "java/lang/Object")))).before args0 about1 = true := code_word (m := ⟨17, 2⟩) (meth := k17m2) (c := k17c2) (by decide +kernel) rfl rfl rfl (by decide +kernel)
set_option maxRecDepth 65536 in
theorem w_c15 : (Jvm.Cond.code ({ cls := "java/util/ArrayList", name := "grow", desc := "(I)[Ljava/lang/Object;" } : Jvm.MethodName) jdk_38_method_6_code (4 : Nat) (Option.some (Jvm.ClassFile.FieldType.array (Jvm.ClassFile.FieldType.object "java/lang/Object")))).before args0 about1 = true := code_word (m := ⟨17, 1⟩) (meth := k17m1) (c := k17c1) (by decide +kernel) rfl rfl rfl (by decide +kernel)
set_option maxRecDepth 65536 in
theorem w_c16 : (Jvm.Cond.code ({ cls := "java/lang/Math", name := "max", desc := "(II)I" } : Jvm.MethodName) jdk_29_method_65_code (2 : Nat) (Option.some Jvm.ClassFile.FieldType.int)).before args0 about1 = true := code_word (m := ⟨23, 1⟩) (meth := k23m1) (c := k23c1) (by decide +kernel) rfl rfl rfl (by decide +kernel)
set_option maxRecDepth 65536 in
theorem w_c17 : (Jvm.Cond.code ({ cls := "com/example/barrault/barrault/model/PathPattern", name := "<init>", desc := "(Ljava/lang/String;Ljava/util/List;)V" } : Jvm.MethodName) prog_37_method_1_code (3 : Nat) (Option.none : Option Jvm.ClassFile.FieldType)).before args0 about1 = true := code_word (m := ⟨24, 0⟩) (meth := k24m0) (c := k24c0) (by decide +kernel) rfl rfl rfl (by decide +kernel)
set_option maxRecDepth 65536 in
theorem w_c18 : (Jvm.Cond.code ({ cls := "java/util/ArrayList", name := "toArray", desc := "()[Ljava/lang/Object;" } : Jvm.MethodName) jdk_38_method_16_code (1 : Nat) (Option.some (Jvm.ClassFile.FieldType.array (Jvm.ClassFile.FieldType.object "java/lang/Object")))).before args0 about1 = true := code_word (m := ⟨17, 4⟩) (meth := k17m4) (c := k17c4) (by decide +kernel) rfl rfl rfl (by decide +kernel)
set_option maxRecDepth 65536 in
theorem w_c19 : (Jvm.Cond.code ({ cls := "java/util/Arrays", name := "copyOf", desc := "([Ljava/lang/Object;I)[Ljava/lang/Object;" } : Jvm.MethodName) jdk_65_method_119_code (2 : Nat) (Option.some (Jvm.ClassFile.FieldType.array (Jvm.ClassFile.FieldType.object "java/lang/Object")))).before args0 about1 = true := code_word (m := ⟨28, 1⟩) (meth := k28m1) (c := k28c1) (by decide +kernel) rfl rfl rfl (by decide +kernel)
set_option maxRecDepth 65536 in
theorem w_c20 : (Jvm.Cond.code ({ cls := "java/util/Arrays", name := "copyOf", desc := "([Ljava/lang/Object;ILjava/lang/Class;)[Ljava/lang/Object;" } : Jvm.MethodName) jdk_65_method_120_code (4 : Nat) (Option.some (Jvm.ClassFile.FieldType.array (Jvm.ClassFile.FieldType.object "java/lang/Object")))).before args0 about1 = true := code_word (m := ⟨28, 2⟩) (meth := k28m2) (c := k28c2) (by decide +kernel) rfl rfl rfl (by decide +kernel)
set_option maxRecDepth 65536 in
theorem w_c21 : (Jvm.Cond.code ({ cls := "java/lang/Math", name := "min", desc := "(II)I" } : Jvm.MethodName) jdk_29_method_69_code (2 : Nat) (Option.some Jvm.ClassFile.FieldType.int)).before args0 about1 = true := code_word (m := ⟨23, 2⟩) (meth := k23m2) (c := k23c2) (by decide +kernel) rfl rfl rfl (by decide +kernel)
set_option maxRecDepth 65536 in
theorem w_c22 : (Jvm.Cond.code ({ cls := "java/util/List", name := "of", desc := "([Ljava/lang/Object;)Ljava/util/List;" } : Jvm.MethodName) jdk_40_method_47_code (2 : Nat) (Option.some (Jvm.ClassFile.FieldType.object "java/util/List"))).before args0 about1 = true := code_word (m := ⟨13, 4⟩) (meth := k13m4) (c := k13c4) (by decide +kernel) rfl rfl rfl (by decide +kernel)
set_option maxRecDepth 65536 in
theorem w_c23 : (Jvm.Cond.code ({ cls := "java/util/ImmutableCollections$List12", name := "<init>", desc := "(Ljava/lang/Object;)V" } : Jvm.MethodName) jdk_44_method_1_code (2 : Nat) (Option.none : Option Jvm.ClassFile.FieldType)).before args0 about1 = true := code_word (m := ⟨21, 0⟩) (meth := k21m0) (c := k21c0) (by decide +kernel) rfl rfl rfl (by decide +kernel)
set_option maxRecDepth 65536 in
theorem w_c24 : (Jvm.Cond.code ({ cls := "java/util/ImmutableCollections$AbstractImmutableList", name := "<init>", desc := "()V" } : Jvm.MethodName) jdk_46_method_1_code (1 : Nat) (Option.none : Option Jvm.ClassFile.FieldType)).before args0 about1 = true := code_word (m := ⟨20, 0⟩) (meth := k20m0) (c := k20c0) (by decide +kernel) rfl rfl rfl (by decide +kernel)
set_option maxRecDepth 65536 in
theorem w_c25 : (Jvm.Cond.code ({ cls := "java/util/ImmutableCollections$AbstractImmutableCollection", name := "<init>", desc := "()V" } : Jvm.MethodName) jdk_47_method_1_code (1 : Nat) (Option.none : Option Jvm.ClassFile.FieldType)).before args0 about1 = true := code_word (m := ⟨19, 0⟩) (meth := k19m0) (c := k19c0) (by decide +kernel) rfl rfl rfl (by decide +kernel)
set_option maxRecDepth 65536 in
theorem w_c26 : (Jvm.Cond.code ({ cls := "java/util/Objects", name := "requireNonNull", desc := "(Ljava/lang/Object;)Ljava/lang/Object;" } : Jvm.MethodName) jdk_31_method_10_code (1 : Nat) (Option.some (Jvm.ClassFile.FieldType.object "java/lang/Object"))).before args0 about1 = true := code_word (m := ⟨30, 1⟩) (meth := k30m1) (c := k30c1) (by decide +kernel) rfl rfl rfl (by decide +kernel)
set_option maxRecDepth 65536 in
theorem w_c27 : (Jvm.Cond.code ({ cls := "com/example/barrault/barrault/model/PathPattern", name := "selectsElements", desc := "()Z" } : Jvm.MethodName) prog_37_method_4_code (1 : Nat) (Option.some Jvm.ClassFile.FieldType.boolean)).before args0 about1 = true := code_word (m := ⟨24, 1⟩) (meth := k24m1) (c := k24c1) (by decide +kernel) rfl rfl rfl (by decide +kernel)
set_option maxRecDepth 65536 in
theorem w_c28 : (Jvm.Cond.code ({ cls := "java/util/ImmutableCollections$List12", name := "size", desc := "()I" } : Jvm.MethodName) jdk_44_method_3_code (1 : Nat) (Option.some Jvm.ClassFile.FieldType.int)).before args0 about1 = true := code_word (m := ⟨21, 2⟩) (meth := k21m2) (c := k21c2) (by decide +kernel) rfl rfl rfl (by decide +kernel)
set_option maxRecDepth 65536 in
theorem w_c29 : (Jvm.Cond.code ({ cls := "java/util/ImmutableCollections$List12", name := "get", desc := "(I)Ljava/lang/Object;" } : Jvm.MethodName) jdk_44_method_5_code (2 : Nat) (Option.some (Jvm.ClassFile.FieldType.object "java/lang/Object"))).before args0 about1 = true := code_word (m := ⟨21, 3⟩) (meth := k21m3) (c := k21c3) (by decide +kernel) rfl rfl rfl (by decide +kernel)
set_option maxRecDepth 65536 in
theorem w_c30 : (Jvm.Cond.code ({ cls := "com/example/barrault/barrault/model/PathPattern$Step", name := "kind", desc := "()Lcom/example/barrault/barrault/model/PathPattern$Kind;" } : Jvm.MethodName) prog_47_method_6_code (1 : Nat) (Option.some (Jvm.ClassFile.FieldType.object "com/example/barrault/barrault/model/PathPattern$Kind"))).before args0 about1 = true := code_word (m := ⟨8, 1⟩) (meth := k8m1) (c := k8c1) (by decide +kernel) rfl rfl rfl (by decide +kernel)
set_option maxRecDepth 65536 in
theorem w_c31 : (Jvm.Cond.code ({ cls := "java/util/ImmutableCollections$List12", name := "<init>", desc := "(Ljava/lang/Object;Ljava/lang/Object;)V" } : Jvm.MethodName) jdk_44_method_2_code (3 : Nat) (Option.none : Option Jvm.ClassFile.FieldType)).before args0 about1 = true := code_word (m := ⟨21, 1⟩) (meth := k21m1) (c := k21c1) (by decide +kernel) rfl rfl rfl (by decide +kernel)
set_option maxRecDepth 65536 in
theorem w_c32 : (Jvm.Cond.code ({ cls := "java/util/ImmutableCollections", name := "listFromArray", desc := "([Ljava/lang/Object;)Ljava/util/List;" } : Jvm.MethodName) jdk_56_method_4_code (3 : Nat) (Option.some (Jvm.ClassFile.FieldType.object "java/util/List"))).before args0 about1 = true := code_word (m := ⟨18, 2⟩) (meth := k18m2) (c := k18c2) (by decide +kernel) rfl rfl rfl (by decide +kernel)
set_option maxRecDepth 65536 in
theorem w_c33 : (Jvm.Cond.code ({ cls := "java/util/ImmutableCollections$ListN", name := "<init>", desc := "([Ljava/lang/Object;Z)V" } : Jvm.MethodName) jdk_45_method_1_code (3 : Nat) (Option.none : Option Jvm.ClassFile.FieldType)).before args0 about1 = true := code_word (m := ⟨22, 0⟩) (meth := k22m0) (c := k22c0) (by decide +kernel) rfl rfl rfl (by decide +kernel)
set_option maxRecDepth 65536 in
theorem w_c34 : (Jvm.Cond.code ({ cls := "java/util/ImmutableCollections$ListN", name := "size", desc := "()I" } : Jvm.MethodName) jdk_45_method_3_code (1 : Nat) (Option.some Jvm.ClassFile.FieldType.int)).before args0 about1 = true := code_word (m := ⟨22, 1⟩) (meth := k22m1) (c := k22c1) (by decide +kernel) rfl rfl rfl (by decide +kernel)
set_option maxRecDepth 65536 in
theorem w_c35 : (Jvm.Cond.code ({ cls := "java/util/ImmutableCollections$ListN", name := "get", desc := "(I)Ljava/lang/Object;" } : Jvm.MethodName) jdk_45_method_4_code (2 : Nat) (Option.some (Jvm.ClassFile.FieldType.object "java/lang/Object"))).before args0 about1 = true := code_word (m := ⟨22, 2⟩) (meth := k22m2) (c := k22c2) (by decide +kernel) rfl rfl rfl (by decide +kernel)
def codes1 : List Jvm.Cond := [Jvm.Cond.code x code maxLocals ret, Jvm.Cond.code ({ cls := "com/example/barrault/barrault/model/PathPatternSelectsElementsPinLaw", name := "kind", desc := "(I)Lcom/example/barrault/barrault/model/PathPattern$Kind;" } : Jvm.MethodName) method_2_code (2 : Nat) (Option.some (Jvm.ClassFile.FieldType.object "com/example/barrault/barrault/model/PathPattern$Kind")), Jvm.Cond.code ({ cls := "java/util/ArrayList", name := "<init>", desc := "()V" } : Jvm.MethodName) jdk_38_method_2_code (1 : Nat) (Option.none : Option Jvm.ClassFile.FieldType), Jvm.Cond.code ({ cls := "java/util/AbstractList", name := "<init>", desc := "()V" } : Jvm.MethodName) jdk_39_method_1_code (1 : Nat) (Option.none : Option Jvm.ClassFile.FieldType), Jvm.Cond.code ({ cls := "java/util/AbstractCollection", name := "<init>", desc := "()V" } : Jvm.MethodName) jdk_22_method_1_code (1 : Nat) (Option.none : Option Jvm.ClassFile.FieldType), Jvm.Cond.code ({ cls := "java/lang/Object", name := "<init>", desc := "()V" } : Jvm.MethodName) object_method_1_code (1 : Nat) (Option.none : Option Jvm.ClassFile.FieldType), Jvm.Cond.code ({ cls := "com/example/barrault/barrault/model/PathPattern$Step", name := "<init>", desc := "(Lcom/example/barrault/barrault/model/PathPattern$Axis;Lcom/example/barrault/barrault/model/PathPattern$Kind;Ljava/lang/String;Ljava/util/List;)V" } : Jvm.MethodName) prog_47_method_1_code (5 : Nat) (Option.none : Option Jvm.ClassFile.FieldType), Jvm.Cond.code ({ cls := "java/lang/Record", name := "<init>", desc := "()V" } : Jvm.MethodName) jdk_30_method_1_code (1 : Nat) (Option.none : Option Jvm.ClassFile.FieldType), Jvm.Cond.code ({ cls := "java/util/List", name := "copyOf", desc := "(Ljava/util/Collection;)Ljava/util/List;" } : Jvm.MethodName) jdk_40_method_48_code (1 : Nat) (Option.some (Jvm.ClassFile.FieldType.object "java/util/List")), Jvm.Cond.code ({ cls := "java/util/ImmutableCollections", name := "listCopy", desc := "(Ljava/util/Collection;)Ljava/util/List;" } : Jvm.MethodName) jdk_56_method_3_code (2 : Nat) (Option.some (Jvm.ClassFile.FieldType.object "java/util/List")), Jvm.Cond.code ({ cls := "java/util/ArrayList", name := "isEmpty", desc := "()Z" } : Jvm.MethodName) jdk_38_method_9_code (1 : Nat) (Option.some Jvm.ClassFile.FieldType.boolean), Jvm.Cond.code ({ cls := "java/util/List", name := "of", desc := "()Ljava/util/List;" } : Jvm.MethodName) jdk_40_method_36_code (0 : Nat) (Option.some (Jvm.ClassFile.FieldType.object "java/util/List")), Jvm.Cond.code ({ cls := "java/util/ArrayList", name := "add", desc := "(Ljava/lang/Object;)Z" } : Jvm.MethodName) jdk_38_method_25_code (2 : Nat) (Option.some Jvm.ClassFile.FieldType.boolean), Jvm.Cond.code ({ cls := "java/util/ArrayList", name := "add", desc := "(Ljava/lang/Object;[Ljava/lang/Object;I)V" } : Jvm.MethodName) jdk_38_method_24_code (4 : Nat) (Option.none : Option Jvm.ClassFile.FieldType), Jvm.Cond.code ({ cls := "java/util/ArrayList", name := "grow", desc := "()[Ljava/lang/Object;" } : Jvm.MethodName) jdk_38_method_7_code (1 : Nat) (Option.some (Jvm.ClassFile.FieldType.array (Jvm.ClassFile.FieldType.object "java/lang/Object"))), Jvm.Cond.code ({ cls := "java/util/ArrayList", name := "grow", desc := "(I)[Ljava/lang/Object;" } : Jvm.MethodName) jdk_38_method_6_code (4 : Nat) (Option.some (Jvm.ClassFile.FieldType.array (Jvm.ClassFile.FieldType.object "java/lang/Object"))), Jvm.Cond.code ({ cls := "java/lang/Math", name := "max", desc := "(II)I" } : Jvm.MethodName) jdk_29_method_65_code (2 : Nat) (Option.some Jvm.ClassFile.FieldType.int), Jvm.Cond.code ({ cls := "com/example/barrault/barrault/model/PathPattern", name := "<init>", desc := "(Ljava/lang/String;Ljava/util/List;)V" } : Jvm.MethodName) prog_37_method_1_code (3 : Nat) (Option.none : Option Jvm.ClassFile.FieldType), Jvm.Cond.code ({ cls := "java/util/ArrayList", name := "toArray", desc := "()[Ljava/lang/Object;" } : Jvm.MethodName) jdk_38_method_16_code (1 : Nat) (Option.some (Jvm.ClassFile.FieldType.array (Jvm.ClassFile.FieldType.object "java/lang/Object"))), Jvm.Cond.code ({ cls := "java/util/Arrays", name := "copyOf", desc := "([Ljava/lang/Object;I)[Ljava/lang/Object;" } : Jvm.MethodName) jdk_65_method_119_code (2 : Nat) (Option.some (Jvm.ClassFile.FieldType.array (Jvm.ClassFile.FieldType.object "java/lang/Object"))), Jvm.Cond.code ({ cls := "java/util/Arrays", name := "copyOf", desc := "([Ljava/lang/Object;ILjava/lang/Class;)[Ljava/lang/Object;" } : Jvm.MethodName) jdk_65_method_120_code (4 : Nat) (Option.some (Jvm.ClassFile.FieldType.array (Jvm.ClassFile.FieldType.object "java/lang/Object"))), Jvm.Cond.code ({ cls := "java/lang/Math", name := "min", desc := "(II)I" } : Jvm.MethodName) jdk_29_method_69_code (2 : Nat) (Option.some Jvm.ClassFile.FieldType.int), Jvm.Cond.code ({ cls := "java/util/List", name := "of", desc := "([Ljava/lang/Object;)Ljava/util/List;" } : Jvm.MethodName) jdk_40_method_47_code (2 : Nat) (Option.some (Jvm.ClassFile.FieldType.object "java/util/List")), Jvm.Cond.code ({ cls := "java/util/ImmutableCollections$List12", name := "<init>", desc := "(Ljava/lang/Object;)V" } : Jvm.MethodName) jdk_44_method_1_code (2 : Nat) (Option.none : Option Jvm.ClassFile.FieldType), Jvm.Cond.code ({ cls := "java/util/ImmutableCollections$AbstractImmutableList", name := "<init>", desc := "()V" } : Jvm.MethodName) jdk_46_method_1_code (1 : Nat) (Option.none : Option Jvm.ClassFile.FieldType), Jvm.Cond.code ({ cls := "java/util/ImmutableCollections$AbstractImmutableCollection", name := "<init>", desc := "()V" } : Jvm.MethodName) jdk_47_method_1_code (1 : Nat) (Option.none : Option Jvm.ClassFile.FieldType), Jvm.Cond.code ({ cls := "java/util/Objects", name := "requireNonNull", desc := "(Ljava/lang/Object;)Ljava/lang/Object;" } : Jvm.MethodName) jdk_31_method_10_code (1 : Nat) (Option.some (Jvm.ClassFile.FieldType.object "java/lang/Object")), Jvm.Cond.code ({ cls := "com/example/barrault/barrault/model/PathPattern", name := "selectsElements", desc := "()Z" } : Jvm.MethodName) prog_37_method_4_code (1 : Nat) (Option.some Jvm.ClassFile.FieldType.boolean), Jvm.Cond.code ({ cls := "java/util/ImmutableCollections$List12", name := "size", desc := "()I" } : Jvm.MethodName) jdk_44_method_3_code (1 : Nat) (Option.some Jvm.ClassFile.FieldType.int), Jvm.Cond.code ({ cls := "java/util/ImmutableCollections$List12", name := "get", desc := "(I)Ljava/lang/Object;" } : Jvm.MethodName) jdk_44_method_5_code (2 : Nat) (Option.some (Jvm.ClassFile.FieldType.object "java/lang/Object")), Jvm.Cond.code ({ cls := "com/example/barrault/barrault/model/PathPattern$Step", name := "kind", desc := "()Lcom/example/barrault/barrault/model/PathPattern$Kind;" } : Jvm.MethodName) prog_47_method_6_code (1 : Nat) (Option.some (Jvm.ClassFile.FieldType.object "com/example/barrault/barrault/model/PathPattern$Kind")), Jvm.Cond.code ({ cls := "java/util/ImmutableCollections$List12", name := "<init>", desc := "(Ljava/lang/Object;Ljava/lang/Object;)V" } : Jvm.MethodName) jdk_44_method_2_code (3 : Nat) (Option.none : Option Jvm.ClassFile.FieldType), Jvm.Cond.code ({ cls := "java/util/ImmutableCollections", name := "listFromArray", desc := "([Ljava/lang/Object;)Ljava/util/List;" } : Jvm.MethodName) jdk_56_method_4_code (3 : Nat) (Option.some (Jvm.ClassFile.FieldType.object "java/util/List")), Jvm.Cond.code ({ cls := "java/util/ImmutableCollections$ListN", name := "<init>", desc := "([Ljava/lang/Object;Z)V" } : Jvm.MethodName) jdk_45_method_1_code (3 : Nat) (Option.none : Option Jvm.ClassFile.FieldType), Jvm.Cond.code ({ cls := "java/util/ImmutableCollections$ListN", name := "size", desc := "()I" } : Jvm.MethodName) jdk_45_method_3_code (1 : Nat) (Option.some Jvm.ClassFile.FieldType.int), Jvm.Cond.code ({ cls := "java/util/ImmutableCollections$ListN", name := "get", desc := "(I)Ljava/lang/Object;" } : Jvm.MethodName) jdk_45_method_4_code (2 : Nat) (Option.some (Jvm.ClassFile.FieldType.object "java/lang/Object"))]
set_option maxRecDepth 65536 in
theorem codes_eq : words1.filter isCode = codes1 := rfl
theorem w_codes : ∀ c ∈ words1.filter isCode, c.before args0 about1 = true := by
  rw [codes_eq]
  intro c hc
  simp only [codes1, List.mem_cons, List.not_mem_nil, or_false] at hc
  rcases hc with rfl | rfl | rfl | rfl | rfl | rfl | rfl | rfl | rfl | rfl | rfl | rfl | rfl | rfl | rfl | rfl | rfl | rfl | rfl | rfl | rfl | rfl | rfl | rfl | rfl | rfl | rfl | rfl | rfl | rfl | rfl | rfl | rfl | rfl | rfl | rfl
  · exact w_c0
  · exact w_c1
  · exact w_c2
  · exact w_c3
  · exact w_c4
  · exact w_c5
  · exact w_c6
  · exact w_c7
  · exact w_c8
  · exact w_c9
  · exact w_c10
  · exact w_c11
  · exact w_c12
  · exact w_c13
  · exact w_c14
  · exact w_c15
  · exact w_c16
  · exact w_c17
  · exact w_c18
  · exact w_c19
  · exact w_c20
  · exact w_c21
  · exact w_c22
  · exact w_c23
  · exact w_c24
  · exact w_c25
  · exact w_c26
  · exact w_c27
  · exact w_c28
  · exact w_c29
  · exact w_c30
  · exact w_c31
  · exact w_c32
  · exact w_c33
  · exact w_c34
  · exact w_c35
set_option maxRecDepth 65536 in
theorem w_t1 : (words1.take 24).all (fun c => isCode c || c.before args0 about1) = true := by decide +kernel
set_option maxRecDepth 65536 in
theorem w_t2 : ((words1.drop 24).take 24).all (fun c => isCode c || c.before args0 about1) = true := by decide +kernel
set_option maxRecDepth 65536 in
theorem w_t3 : (((words1.drop 24).drop 24).take 24).all (fun c => isCode c || c.before args0 about1) = true := by decide +kernel
set_option maxRecDepth 65536 in
theorem w_t4 : ((((words1.drop 24).drop 24).drop 24).take 24).all (fun c => isCode c || c.before args0 about1) = true := by decide +kernel
set_option maxRecDepth 65536 in
theorem w_t5 : (((((words1.drop 24).drop 24).drop 24).drop 24).take 24).all (fun c => isCode c || c.before args0 about1) = true := by decide +kernel
set_option maxRecDepth 65536 in
theorem w_t6 : ((((((words1.drop 24).drop 24).drop 24).drop 24).drop 24).take 24).all (fun c => isCode c || c.before args0 about1) = true := by decide +kernel
set_option maxRecDepth 65536 in
theorem w_t7 : (((((((words1.drop 24).drop 24).drop 24).drop 24).drop 24).drop 24).take 24).all (fun c => isCode c || c.before args0 about1) = true := by decide +kernel
set_option maxRecDepth 65536 in
theorem w_t8 : ((((((((words1.drop 24).drop 24).drop 24).drop 24).drop 24).drop 24).drop 24).take 24).all (fun c => isCode c || c.before args0 about1) = true := by decide +kernel
set_option maxRecDepth 65536 in
theorem w_t9 : (((((((((words1.drop 24).drop 24).drop 24).drop 24).drop 24).drop 24).drop 24).drop 24).take 24).all (fun c => isCode c || c.before args0 about1) = true := by decide +kernel
set_option maxRecDepth 65536 in
theorem w_t10 : ((((((((((words1.drop 24).drop 24).drop 24).drop 24).drop 24).drop 24).drop 24).drop 24).drop 24).take 24).all (fun c => isCode c || c.before args0 about1) = true := by decide +kernel
set_option maxRecDepth 65536 in
theorem w_t11 : (((((((((((words1.drop 24).drop 24).drop 24).drop 24).drop 24).drop 24).drop 24).drop 24).drop 24).drop 24).take 24).all (fun c => isCode c || c.before args0 about1) = true := by decide +kernel
set_option maxRecDepth 65536 in
theorem w_t12 : (((((((((((words1.drop 24).drop 24).drop 24).drop 24).drop 24).drop 24).drop 24).drop 24).drop 24).drop 24).drop 24).all (fun c => isCode c || c.before args0 about1) = true := by decide +kernel
theorem w_tables : (allAtoms (Jvm.Cond.code x code maxLocals ret :: tables_1)).before args0 about1 = true := by
  rw [allAtoms_all]
  show words1.all (fun c => c.before args0 about1) = true
  refine all_split ?_ w_codes
  rw [← List.take_append_drop 24 words1, List.all_append, w_t1, ← List.take_append_drop 24 (words1.drop 24), List.all_append, w_t2, ← List.take_append_drop 24 ((words1.drop 24).drop 24), List.all_append, w_t3, ← List.take_append_drop 24 (((words1.drop 24).drop 24).drop 24), List.all_append, w_t4, ← List.take_append_drop 24 ((((words1.drop 24).drop 24).drop 24).drop 24), List.all_append, w_t5, ← List.take_append_drop 24 (((((words1.drop 24).drop 24).drop 24).drop 24).drop 24), List.all_append, w_t6, ← List.take_append_drop 24 ((((((words1.drop 24).drop 24).drop 24).drop 24).drop 24).drop 24), List.all_append, w_t7, ← List.take_append_drop 24 (((((((words1.drop 24).drop 24).drop 24).drop 24).drop 24).drop 24).drop 24), List.all_append, w_t8, ← List.take_append_drop 24 ((((((((words1.drop 24).drop 24).drop 24).drop 24).drop 24).drop 24).drop 24).drop 24), List.all_append, w_t9, ← List.take_append_drop 24 (((((((((words1.drop 24).drop 24).drop 24).drop 24).drop 24).drop 24).drop 24).drop 24).drop 24), List.all_append, w_t10, ← List.take_append_drop 24 ((((((((((words1.drop 24).drop 24).drop 24).drop 24).drop 24).drop 24).drop 24).drop 24).drop 24).drop 24), List.all_append, w_t11, w_t12]
  rfl
set_option maxRecDepth 65536 in
theorem w_rest : rest_1_c.before args0 about1 = true := by decide +kernel
set_option maxRecDepth 65536 in
theorem w_case : (Jvm.Cond.and given_1 narrow_1).before args0 about1 = true := by decide +kernel
theorem w_applies : (headSpec (Jvm.Cond.code x code maxLocals ret :: tables_1) room_1).applies x e0.platform about1 = true :=
  (Spec.applies_iff w_frames).mpr ⟨w_running, w_runnable, w_alone, w_named, w_hears, w_ripe, w_room, w_tables⟩
theorem atStart : AtStart classFile x code maxLocals ret World_1 tables_1 room_1 Calls_1 rest_1 Pre_1 launch0 p0 e0 about1 theMethod args0 below0 :=
  ⟨lists_1, trivial, launch0.admits_env _ _ _, launch0.least_env, fairChoices_fair.cas, fairChoices_fair.clock, w_frames, w_args, w_heap, w_applies, ⟨⟨36, k36, 3, by decide +kernel, rfl, rfl, _, rfl, rfl⟩, trivial⟩, w_rest, w_case⟩
end start1
theorem witness_1 : WitnessClaimed_1 := ⟨start1.p0, start1.e0, start1.about1, start1.theMethod, start1.args0, start1.below0, start1.atStart⟩
end Jvm.Pilot.@@N@@
