import JvmDerived
import JvmDerived.Pilot.@@N@@Statement
import JvmDerived.Pilot.@@N@@Code
set_option linter.unusedVariables false
set_option linter.unusedSimpArgs false

namespace Jvm.OwnKit
open Sem ClassFile Op Lib Jvm.Stand Jvm.Free Jvm.LawKit Jvm.RoadKit
section Kit
variable {p : Program} {l : Launch} {e : Env} {R : Room} {s : State} {m : MethodId} {args : Array Value} {below : List Frame} {meth : Method} {c : Code} {T : State} {locs : List Loc} {cells slots : Nat} {Z : State} {a0 : Array Value} {h : Heap} {own nm : String} {bytes : ByteArray} {maxL : Nat} {ret : Option FieldType} {P : Outcome → State → Prop} {pc pc' : Nat} {Ls Ls' : Array Slot} {rest : List Value}
/-- from here the run ends, and P holds of its end -/
def Go (p : Program) (e : Env) (below : List Frame) (P : Outcome → State → Prop) (T0 : State) : Prop := ∃ t o, Steps p.tables e below T0 t ∧ t.status = .running ∧ Ended t below o ∧ P o t
theorem Go.on {T1 T2 : State} (st : ∀ t, Steps p.tables e below T2 t → Steps p.tables e below T1 t) (k : Go p e below P T2) : Go p e below P T1 := by
  obtain ⟨t, o, h1, h2⟩ := k; exact ⟨t, o, st t h1, h2⟩
/-- what a walk knows of the method that it walks -/
def Ctx (p : Program) (s : State) (m : MethodId) (meth : Method) (c : Code) (Z : State) (own nm : String) (bytes : ByteArray) (maxL : Nat) (ret : Option FieldType) : Prop :=
  p.tables.exec = Jvm.exec ∧ c.code = bytes ∧ c.maxLocals = maxL ∧ s.vm.findClass own = some m.cls ∧ meth.name = nm ∧ meth.sig.returnType = ret ∧ meth.locks = false ∧ Z.Warmed39 s.vm
/-- what a body's end says -/
def Ends (s : State) (Q : Option Value → Heap → List Loc → Prop) (k n : Nat) (o : Outcome) (t : State) : Prop := ∃ v L, o = .returned v ∧ Q v t.heap L ∧ FrameEnd s o t L k n
/-- a contract: called with the arguments 'as' at the heap h0 it returns as Q says -/
abbrev OMeets (l : Launch) (Z : State) (y : MethodName) (bytes : ByteArray) (maxL : Nat) (ret : Option FieldType) (ws : List Jvm.Cond) (rm : Room) (as : Array Value) (h0 : Heap) (Q : Option Value → Heap → List Loc → Prop) : Prop :=
  MetFree l y (head1 (Jvm.Cond.code y bytes maxL ret :: ws) rm) (fun a U => a = as ∧ Z.Warmed39 U.vm ∧ U.heap = h0) (fun _ _ _ _ _ => True) (fun _ U o U' => ∃ v L, o = .returned v ∧ Q v U'.heap L ∧ FrameEnd U o U' L rm.cells rm.slots)
/-- it returns r, writes nothing and makes nothing -/
def PureQ (r : Option Value) (h0 : Heap) (v : Option Value) (h : Heap) (L : List Loc) : Prop := v = r ∧ L = [] ∧ h = h0
theorem OMeets.of {y : MethodName} {ws : List Jvm.Cond} {rm : Room} {as : Array Value} {h0 : Heap} {Q : Option Value → Heap → List Loc → Prop} (hpn : plainName y.cls = true) (ls : Array Slot) (hent : ∀ m, entryFrame m as maxL = mkF m 0 ls [])
    (body : ∀ p e s m below meth c s₁, Ctx p s m meth c Z y.cls y.name bytes maxL ret → Stand p l e rm s m as below meth c s₁ [] 0 0 → s₁.heap = h0 → Go p e below (Ends s Q rm.cells rm.slots) (s₁.setTop (mkF m 0 ls []))) : OMeets l Z y bytes maxL ret ws rm as h0 Q := by
  refine MetFree.of_bodySF (plainFor_of_name hpn) hisR ?_
  intro p e s m args below meth c s₁ Bd hml0 hP hK
  obtain ⟨rfl, hZ, hh⟩ := hP
  have e0 : s₁.heap = h0 := by rw [← hh, Bd.state]; rfl
  have X0 := Stand.of_body Bd
  have B : Ctx p s m meth c Z y.cls y.name bytes maxL ret := ⟨Bd.exec, Bd.bytes, hml0, findClass_of_methodNamed Bd.named, (name_of_methodNamed Bd.named Bd.method).1, Bd.returns, Bd.notSynchronized, hZ⟩
  obtain ⟨t, o, h1, h2, h3, h4⟩ := body p e s m below meth c s₁ B X0 e0
  exact ⟨t, o, castTop (hent m) h1, h2, h3, h4⟩
/-! the single steps -/

theorem s_iloadN (B : Ctx p s m meth c Z own nm bytes maxL ret) (X : Stand p l e R s m args below meth c T locs cells slots) {k0 : Fin 4} {v : Int32} (hd : decode bytes pc = .ok (.iload_n k0, 1)) (hl : Ls[k0.val]? = some (.val (.int v))) (hp : pc + 1 = pc') (k : Go p e below P (T.setTop (mkF m pc' Ls (.int v :: rest)))) : Go p e below P (T.setTop (mkF m pc Ls (rest))) := by
  subst hp; exact Go.on (fun t => XS.iloadN X.here B.1 rfl (hb B.2.1 hd) hl) k
theorem s_iload (B : Ctx p s m meth c Z own nm bytes maxL ret) (X : Stand p l e R s m args below meth c T locs cells slots) {k0 : Nat} {v : Int32} (hd : decode bytes pc = .ok (.iload k0, 2)) (hl : Ls[k0]? = some (.val (.int v))) (hp : pc + 2 = pc') (k : Go p e below P (T.setTop (mkF m pc' Ls (.int v :: rest)))) : Go p e below P (T.setTop (mkF m pc Ls (rest))) := by
  subst hp; exact Go.on (fun t => XS.iload X.here B.1 rfl (hb B.2.1 hd) hl) k
theorem s_istoreN (B : Ctx p s m meth c Z own nm bytes maxL ret) (X : Stand p l e R s m args below meth c T locs cells slots) {k0 : Fin 4} {v : Int32} (hd : decode bytes pc = .ok (.istore_n k0, 1)) (hl : storeLocals Ls k0.val (.int v) = some Ls') (hp : pc + 1 = pc') (k : Go p e below P (T.setTop (mkF m pc' Ls' (rest)))) : Go p e below P (T.setTop (mkF m pc Ls (.int v :: rest))) := by
  subst hp; exact Go.on (fun t => XS.istoreN X.here B.1 rfl (hb B.2.1 hd) rfl hl) k
theorem s_istore (B : Ctx p s m meth c Z own nm bytes maxL ret) (X : Stand p l e R s m args below meth c T locs cells slots) {k0 : Nat} {v : Int32} (hd : decode bytes pc = .ok (.istore k0, 2)) (hl : storeLocals Ls k0 (.int v) = some Ls') (hp : pc + 2 = pc') (k : Go p e below P (T.setTop (mkF m pc' Ls' (rest)))) : Go p e below P (T.setTop (mkF m pc Ls (.int v :: rest))) := by
  subst hp; exact Go.on (fun t => XS.istore X.here B.1 rfl (hb B.2.1 hd) rfl hl) k
theorem s_lloadN (B : Ctx p s m meth c Z own nm bytes maxL ret) (X : Stand p l e R s m args below meth c T locs cells slots) {k0 : Fin 4} {v : Int64} (hd : decode bytes pc = .ok (.lload_n k0, 1)) (hl : Ls[k0.val]? = some (.val (.long v))) (hp : pc + 1 = pc') (k : Go p e below P (T.setTop (mkF m pc' Ls (.long v :: rest)))) : Go p e below P (T.setTop (mkF m pc Ls (rest))) := by
  subst hp; exact Go.on (fun t => XS.lloadN X.here B.1 rfl (hb B.2.1 hd) hl) k
theorem s_lload (B : Ctx p s m meth c Z own nm bytes maxL ret) (X : Stand p l e R s m args below meth c T locs cells slots) {k0 : Nat} {v : Int64} (hd : decode bytes pc = .ok (.lload k0, 2)) (hl : Ls[k0]? = some (.val (.long v))) (hp : pc + 2 = pc') (k : Go p e below P (T.setTop (mkF m pc' Ls (.long v :: rest)))) : Go p e below P (T.setTop (mkF m pc Ls (rest))) := by
  subst hp; exact Go.on (fun t => XS.lload X.here B.1 rfl (hb B.2.1 hd) hl) k
theorem s_lstoreN (B : Ctx p s m meth c Z own nm bytes maxL ret) (X : Stand p l e R s m args below meth c T locs cells slots) {k0 : Fin 4} {v : Int64} (hd : decode bytes pc = .ok (.lstore_n k0, 1)) (hl : storeLocals Ls k0.val (.long v) = some Ls') (hp : pc + 1 = pc') (k : Go p e below P (T.setTop (mkF m pc' Ls' (rest)))) : Go p e below P (T.setTop (mkF m pc Ls (.long v :: rest))) := by
  subst hp; exact Go.on (fun t => XS.lstoreN X.here B.1 rfl (hb B.2.1 hd) rfl hl) k
theorem s_lstore (B : Ctx p s m meth c Z own nm bytes maxL ret) (X : Stand p l e R s m args below meth c T locs cells slots) {k0 : Nat} {v : Int64} (hd : decode bytes pc = .ok (.lstore k0, 2)) (hl : storeLocals Ls k0 (.long v) = some Ls') (hp : pc + 2 = pc') (k : Go p e below P (T.setTop (mkF m pc' Ls' (rest)))) : Go p e below P (T.setTop (mkF m pc Ls (.long v :: rest))) := by
  subst hp; exact Go.on (fun t => XS.lstore X.here B.1 rfl (hb B.2.1 hd) rfl hl) k
theorem s_aloadN (B : Ctx p s m meth c Z own nm bytes maxL ret) (X : Stand p l e R s m args below meth c T locs cells slots) {k0 : Fin 4} {v : Value} (hd : decode bytes pc = .ok (.aload_n k0, 1)) (hl : Ls[k0.val]? = some (.val v)) (hv : v.isRef = true) (hp : pc + 1 = pc') (k : Go p e below P (T.setTop (mkF m pc' Ls (v :: rest)))) : Go p e below P (T.setTop (mkF m pc Ls (rest))) := by
  subst hp; exact Go.on (fun t => XS.aloadN X.here B.1 rfl (hb B.2.1 hd) hl hv) k
theorem s_aload (B : Ctx p s m meth c Z own nm bytes maxL ret) (X : Stand p l e R s m args below meth c T locs cells slots) {k0 : Nat} {v : Value} (hd : decode bytes pc = .ok (.aload k0, 2)) (hl : Ls[k0]? = some (.val v)) (hv : v.isRef = true) (hp : pc + 2 = pc') (k : Go p e below P (T.setTop (mkF m pc' Ls (v :: rest)))) : Go p e below P (T.setTop (mkF m pc Ls (rest))) := by
  subst hp; exact Go.on (fun t => XS.aload X.here B.1 rfl (hb B.2.1 hd) hl hv) k
theorem s_astoreN (B : Ctx p s m meth c Z own nm bytes maxL ret) (X : Stand p l e R s m args below meth c T locs cells slots) {k0 : Fin 4} {v : Value} (hd : decode bytes pc = .ok (.astore_n k0, 1)) (hv : v.isRef = true) (hl : storeLocals Ls k0.val v = some Ls') (hp : pc + 1 = pc') (k : Go p e below P (T.setTop (mkF m pc' Ls' (rest)))) : Go p e below P (T.setTop (mkF m pc Ls (v :: rest))) := by
  subst hp; exact Go.on (fun t => XS.astoreN X.here B.1 rfl (hb B.2.1 hd) rfl hv hl) k
theorem s_astore (B : Ctx p s m meth c Z own nm bytes maxL ret) (X : Stand p l e R s m args below meth c T locs cells slots) {k0 : Nat} {v : Value} (hd : decode bytes pc = .ok (.astore k0, 2)) (hv : v.isRef = true) (hl : storeLocals Ls k0 v = some Ls') (hp : pc + 2 = pc') (k : Go p e below P (T.setTop (mkF m pc' Ls' (rest)))) : Go p e below P (T.setTop (mkF m pc Ls (v :: rest))) := by
  subst hp; exact Go.on (fun t => XS.astore X.here B.1 rfl (hb B.2.1 hd) rfl hv hl) k
theorem s_iconst (B : Ctx p s m meth c Z own nm bytes maxL ret) (X : Stand p l e R s m args below meth c T locs cells slots) {i : Int} {v : Int32} (hd : decode bytes pc = .ok (.iconst i, 1)) (hv : Int32.ofInt i = v) (hp : pc + 1 = pc') (k : Go p e below P (T.setTop (mkF m pc' Ls (.int v :: rest)))) : Go p e below P (T.setTop (mkF m pc Ls (rest))) := by
  subst hp; subst hv; exact Go.on (fun t => XS.iconst X.here B.1 rfl (hb B.2.1 hd)) k
theorem s_bipush (B : Ctx p s m meth c Z own nm bytes maxL ret) (X : Stand p l e R s m args below meth c T locs cells slots) {i : Int} {v : Int32} (hd : decode bytes pc = .ok (.bipush i, 2)) (hv : (Int8.ofInt i).toInt32 = v) (hp : pc + 2 = pc') (k : Go p e below P (T.setTop (mkF m pc' Ls (.int v :: rest)))) : Go p e below P (T.setTop (mkF m pc Ls (rest))) := by
  subst hp; subst hv; exact Go.on (fun t => XS.bipush X.here B.1 rfl (hb B.2.1 hd)) k
theorem s_sipush (B : Ctx p s m meth c Z own nm bytes maxL ret) (X : Stand p l e R s m args below meth c T locs cells slots) {i : Int} {v : Int32} (hd : decode bytes pc = .ok (.sipush i, 3)) (hv : (Int16.ofInt i).toInt32 = v) (hp : pc + 3 = pc') (k : Go p e below P (T.setTop (mkF m pc' Ls (.int v :: rest)))) : Go p e below P (T.setTop (mkF m pc Ls (rest))) := by
  subst hp; subst hv; exact Go.on (fun t => XS.sipush X.here B.1 rfl (hb B.2.1 hd)) k
theorem s_lconst (B : Ctx p s m meth c Z own nm bytes maxL ret) (X : Stand p l e R s m args below meth c T locs cells slots) {i : Fin 2} {v : Int64} (hd : decode bytes pc = .ok (.lconst i, 1)) (hv : Int64.ofNat i = v) (hp : pc + 1 = pc') (k : Go p e below P (T.setTop (mkF m pc' Ls (.long v :: rest)))) : Go p e below P (T.setTop (mkF m pc Ls (rest))) := by
  subst hp; subst hv; exact Go.on (fun t => XS.lconst X.here B.1 rfl (hb B.2.1 hd)) k
theorem s_aconst_null (B : Ctx p s m meth c Z own nm bytes maxL ret) (X : Stand p l e R s m args below meth c T locs cells slots)  (hd : decode bytes pc = .ok (.aconst_null, 1))  (hp : pc + 1 = pc') (k : Go p e below P (T.setTop (mkF m pc' Ls (.null :: rest)))) : Go p e below P (T.setTop (mkF m pc Ls (rest))) := by
  subst hp; exact Go.on (fun t => XS.aconstNull X.here B.1 rfl (hb B.2.1 hd)) k
theorem s_iadd (B : Ctx p s m meth c Z own nm bytes maxL ret) (X : Stand p l e R s m args below meth c T locs cells slots) {x : Int32} {y : Int32} {v : Int32} (hd : decode bytes pc = .ok (.iadd, 1)) (hv : x + y = v)  (hp : pc + 1 = pc') (k : Go p e below P (T.setTop (mkF m pc' Ls (.int v :: rest)))) : Go p e below P (T.setTop (mkF m pc Ls (.int y :: .int x :: rest))) := by
  subst hp; subst hv; exact Go.on (fun t => XS.iadd X.here B.1 rfl (hb B.2.1 hd) rfl ) k
theorem s_isub (B : Ctx p s m meth c Z own nm bytes maxL ret) (X : Stand p l e R s m args below meth c T locs cells slots) {x : Int32} {y : Int32} {v : Int32} (hd : decode bytes pc = .ok (.isub, 1)) (hv : x - y = v)  (hp : pc + 1 = pc') (k : Go p e below P (T.setTop (mkF m pc' Ls (.int v :: rest)))) : Go p e below P (T.setTop (mkF m pc Ls (.int y :: .int x :: rest))) := by
  subst hp; subst hv; exact Go.on (fun t => XS.isub X.here B.1 rfl (hb B.2.1 hd) rfl ) k
theorem s_imul (B : Ctx p s m meth c Z own nm bytes maxL ret) (X : Stand p l e R s m args below meth c T locs cells slots) {x : Int32} {y : Int32} {v : Int32} (hd : decode bytes pc = .ok (.imul, 1)) (hv : x * y = v)  (hp : pc + 1 = pc') (k : Go p e below P (T.setTop (mkF m pc' Ls (.int v :: rest)))) : Go p e below P (T.setTop (mkF m pc Ls (.int y :: .int x :: rest))) := by
  subst hp; subst hv; exact Go.on (fun t => XS.imul X.here B.1 rfl (hb B.2.1 hd) rfl ) k
theorem s_iand (B : Ctx p s m meth c Z own nm bytes maxL ret) (X : Stand p l e R s m args below meth c T locs cells slots) {x : Int32} {y : Int32} {v : Int32} (hd : decode bytes pc = .ok (.iand, 1)) (hv : x &&& y = v)  (hp : pc + 1 = pc') (k : Go p e below P (T.setTop (mkF m pc' Ls (.int v :: rest)))) : Go p e below P (T.setTop (mkF m pc Ls (.int y :: .int x :: rest))) := by
  subst hp; subst hv; exact Go.on (fun t => XS.iand X.here B.1 rfl (hb B.2.1 hd) rfl ) k
theorem s_ior (B : Ctx p s m meth c Z own nm bytes maxL ret) (X : Stand p l e R s m args below meth c T locs cells slots) {x : Int32} {y : Int32} {v : Int32} (hd : decode bytes pc = .ok (.ior, 1)) (hv : x ||| y = v)  (hp : pc + 1 = pc') (k : Go p e below P (T.setTop (mkF m pc' Ls (.int v :: rest)))) : Go p e below P (T.setTop (mkF m pc Ls (.int y :: .int x :: rest))) := by
  subst hp; subst hv; exact Go.on (fun t => XS.ior X.here B.1 rfl (hb B.2.1 hd) rfl ) k
theorem s_ixor (B : Ctx p s m meth c Z own nm bytes maxL ret) (X : Stand p l e R s m args below meth c T locs cells slots) {x : Int32} {y : Int32} {v : Int32} (hd : decode bytes pc = .ok (.ixor, 1)) (hv : x ^^^ y = v)  (hp : pc + 1 = pc') (k : Go p e below P (T.setTop (mkF m pc' Ls (.int v :: rest)))) : Go p e below P (T.setTop (mkF m pc Ls (.int y :: .int x :: rest))) := by
  subst hp; subst hv; exact Go.on (fun t => XS.ixor X.here B.1 rfl (hb B.2.1 hd) rfl ) k
theorem s_ladd (B : Ctx p s m meth c Z own nm bytes maxL ret) (X : Stand p l e R s m args below meth c T locs cells slots) {x : Int64} {y : Int64} {v : Int64} (hd : decode bytes pc = .ok (.ladd, 1)) (hv : x + y = v)  (hp : pc + 1 = pc') (k : Go p e below P (T.setTop (mkF m pc' Ls (.long v :: rest)))) : Go p e below P (T.setTop (mkF m pc Ls (.long y :: .long x :: rest))) := by
  subst hp; subst hv; exact Go.on (fun t => XS.ladd X.here B.1 rfl (hb B.2.1 hd) rfl ) k
theorem s_lsub (B : Ctx p s m meth c Z own nm bytes maxL ret) (X : Stand p l e R s m args below meth c T locs cells slots) {x : Int64} {y : Int64} {v : Int64} (hd : decode bytes pc = .ok (.lsub, 1)) (hv : x - y = v)  (hp : pc + 1 = pc') (k : Go p e below P (T.setTop (mkF m pc' Ls (.long v :: rest)))) : Go p e below P (T.setTop (mkF m pc Ls (.long y :: .long x :: rest))) := by
  subst hp; subst hv; exact Go.on (fun t => XS.lsub X.here B.1 rfl (hb B.2.1 hd) rfl ) k
theorem s_lmul (B : Ctx p s m meth c Z own nm bytes maxL ret) (X : Stand p l e R s m args below meth c T locs cells slots) {x : Int64} {y : Int64} {v : Int64} (hd : decode bytes pc = .ok (.lmul, 1)) (hv : x * y = v)  (hp : pc + 1 = pc') (k : Go p e below P (T.setTop (mkF m pc' Ls (.long v :: rest)))) : Go p e below P (T.setTop (mkF m pc Ls (.long y :: .long x :: rest))) := by
  subst hp; subst hv; exact Go.on (fun t => XS.lmul X.here B.1 rfl (hb B.2.1 hd) rfl ) k
theorem s_land (B : Ctx p s m meth c Z own nm bytes maxL ret) (X : Stand p l e R s m args below meth c T locs cells slots) {x : Int64} {y : Int64} {v : Int64} (hd : decode bytes pc = .ok (.land, 1)) (hv : x &&& y = v)  (hp : pc + 1 = pc') (k : Go p e below P (T.setTop (mkF m pc' Ls (.long v :: rest)))) : Go p e below P (T.setTop (mkF m pc Ls (.long y :: .long x :: rest))) := by
  subst hp; subst hv; exact Go.on (fun t => XS.land X.here B.1 rfl (hb B.2.1 hd) rfl ) k
theorem s_lor (B : Ctx p s m meth c Z own nm bytes maxL ret) (X : Stand p l e R s m args below meth c T locs cells slots) {x : Int64} {y : Int64} {v : Int64} (hd : decode bytes pc = .ok (.lor, 1)) (hv : x ||| y = v)  (hp : pc + 1 = pc') (k : Go p e below P (T.setTop (mkF m pc' Ls (.long v :: rest)))) : Go p e below P (T.setTop (mkF m pc Ls (.long y :: .long x :: rest))) := by
  subst hp; subst hv; exact Go.on (fun t => XS.lor X.here B.1 rfl (hb B.2.1 hd) rfl ) k
theorem s_lxor (B : Ctx p s m meth c Z own nm bytes maxL ret) (X : Stand p l e R s m args below meth c T locs cells slots) {x : Int64} {y : Int64} {v : Int64} (hd : decode bytes pc = .ok (.lxor, 1)) (hv : x ^^^ y = v)  (hp : pc + 1 = pc') (k : Go p e below P (T.setTop (mkF m pc' Ls (.long v :: rest)))) : Go p e below P (T.setTop (mkF m pc Ls (.long y :: .long x :: rest))) := by
  subst hp; subst hv; exact Go.on (fun t => XS.lxor X.here B.1 rfl (hb B.2.1 hd) rfl ) k
theorem s_idiv (B : Ctx p s m meth c Z own nm bytes maxL ret) (X : Stand p l e R s m args below meth c T locs cells slots) {x : Int32} {y : Int32} {v : Int32} (hd : decode bytes pc = .ok (.idiv, 1)) (hv : x / y = v) (hy : y ≠ 0) (hp : pc + 1 = pc') (k : Go p e below P (T.setTop (mkF m pc' Ls (.int v :: rest)))) : Go p e below P (T.setTop (mkF m pc Ls (.int y :: .int x :: rest))) := by
  subst hp; subst hv; exact Go.on (fun t => XS.idiv X.here B.1 rfl (hb B.2.1 hd) rfl hy) k
theorem s_ldiv (B : Ctx p s m meth c Z own nm bytes maxL ret) (X : Stand p l e R s m args below meth c T locs cells slots) {x : Int64} {y : Int64} {v : Int64} (hd : decode bytes pc = .ok (.ldiv, 1)) (hv : x / y = v) (hy : y ≠ 0) (hp : pc + 1 = pc') (k : Go p e below P (T.setTop (mkF m pc' Ls (.long v :: rest)))) : Go p e below P (T.setTop (mkF m pc Ls (.long y :: .long x :: rest))) := by
  subst hp; subst hv; exact Go.on (fun t => XS.ldiv X.here B.1 rfl (hb B.2.1 hd) rfl hy) k
theorem s_irem (B : Ctx p s m meth c Z own nm bytes maxL ret) (X : Stand p l e R s m args below meth c T locs cells slots) {x y v : Int32} (hd : decode bytes pc = .ok (.irem, 1)) (hv : x % y = v) (hy : y ≠ 0) (hp : pc + 1 = pc') (k : Go p e below P (T.setTop (mkF m pc' Ls (.int v :: rest)))) : Go p e below P (T.setTop (mkF m pc Ls (.int y :: .int x :: rest))) := by
  subst hp; subst hv; exact Go.on (fun t => iremM X B.1 rfl (hb B.2.1 hd) rfl hy) k
theorem s_ishl (B : Ctx p s m meth c Z own nm bytes maxL ret) (X : Stand p l e R s m args below meth c T locs cells slots) {x : Int32} {y : Int32} {v : Int32} (hd : decode bytes pc = .ok (.ishl, 1)) (hv : x <<< (y &&& 31) = v)  (hp : pc + 1 = pc') (k : Go p e below P (T.setTop (mkF m pc' Ls (.int v :: rest)))) : Go p e below P (T.setTop (mkF m pc Ls (.int y :: .int x :: rest))) := by
  subst hp; subst hv; exact Go.on (fun t => XS.ishl X.here B.1 rfl (hb B.2.1 hd) rfl ) k
theorem s_ishr (B : Ctx p s m meth c Z own nm bytes maxL ret) (X : Stand p l e R s m args below meth c T locs cells slots) {x : Int32} {y : Int32} {v : Int32} (hd : decode bytes pc = .ok (.ishr, 1)) (hv : x >>> (y &&& 31) = v)  (hp : pc + 1 = pc') (k : Go p e below P (T.setTop (mkF m pc' Ls (.int v :: rest)))) : Go p e below P (T.setTop (mkF m pc Ls (.int y :: .int x :: rest))) := by
  subst hp; subst hv; exact Go.on (fun t => XS.ishr X.here B.1 rfl (hb B.2.1 hd) rfl ) k
theorem s_iushr (B : Ctx p s m meth c Z own nm bytes maxL ret) (X : Stand p l e R s m args below meth c T locs cells slots) {x : Int32} {y : Int32} {v : Int32} (hd : decode bytes pc = .ok (.iushr, 1)) (hv : (x.toUInt32 >>> (y &&& 31).toUInt32).toInt32 = v)  (hp : pc + 1 = pc') (k : Go p e below P (T.setTop (mkF m pc' Ls (.int v :: rest)))) : Go p e below P (T.setTop (mkF m pc Ls (.int y :: .int x :: rest))) := by
  subst hp; subst hv; exact Go.on (fun t => XS.iushr X.here B.1 rfl (hb B.2.1 hd) rfl ) k
theorem s_lshl (B : Ctx p s m meth c Z own nm bytes maxL ret) (X : Stand p l e R s m args below meth c T locs cells slots) {x : Int64} {y : Int32} {v : Int64} (hd : decode bytes pc = .ok (.lshl, 1)) (hv : x <<< (y &&& 0x3f).toInt64 = v)  (hp : pc + 1 = pc') (k : Go p e below P (T.setTop (mkF m pc' Ls (.long v :: rest)))) : Go p e below P (T.setTop (mkF m pc Ls (.int y :: .long x :: rest))) := by
  subst hp; subst hv; exact Go.on (fun t => XS.lshl X.here B.1 rfl (hb B.2.1 hd) rfl ) k
theorem s_lshr (B : Ctx p s m meth c Z own nm bytes maxL ret) (X : Stand p l e R s m args below meth c T locs cells slots) {x : Int64} {y : Int32} {v : Int64} (hd : decode bytes pc = .ok (.lshr, 1)) (hv : x >>> (y &&& 0x3f).toInt64 = v)  (hp : pc + 1 = pc') (k : Go p e below P (T.setTop (mkF m pc' Ls (.long v :: rest)))) : Go p e below P (T.setTop (mkF m pc Ls (.int y :: .long x :: rest))) := by
  subst hp; subst hv; exact Go.on (fun t => XS.lshr X.here B.1 rfl (hb B.2.1 hd) rfl ) k
theorem s_lushr (B : Ctx p s m meth c Z own nm bytes maxL ret) (X : Stand p l e R s m args below meth c T locs cells slots) {x : Int64} {y : Int32} {v : Int64} (hd : decode bytes pc = .ok (.lushr, 1)) (hv : (x.toUInt64 >>> (y &&& 0x3f).toInt64.toUInt64).toInt64 = v)  (hp : pc + 1 = pc') (k : Go p e below P (T.setTop (mkF m pc' Ls (.long v :: rest)))) : Go p e below P (T.setTop (mkF m pc Ls (.int y :: .long x :: rest))) := by
  subst hp; subst hv; exact Go.on (fun t => XS.lushr X.here B.1 rfl (hb B.2.1 hd) rfl ) k
theorem s_i2b (B : Ctx p s m meth c Z own nm bytes maxL ret) (X : Stand p l e R s m args below meth c T locs cells slots) {x : Int32} {v : Int32} (hd : decode bytes pc = .ok (.i2b, 1)) (hv : x.toInt8.toInt32 = v) (hp : pc + 1 = pc') (k : Go p e below P (T.setTop (mkF m pc' Ls (.int v :: rest)))) : Go p e below P (T.setTop (mkF m pc Ls (.int x :: rest))) := by
  subst hp; subst hv; exact Go.on (fun t => XS.i2b X.here B.1 rfl (hb B.2.1 hd) rfl) k
theorem s_i2c (B : Ctx p s m meth c Z own nm bytes maxL ret) (X : Stand p l e R s m args below meth c T locs cells slots) {x : Int32} {v : Int32} (hd : decode bytes pc = .ok (.i2c, 1)) (hv : x.toUInt32.toUInt16.toUInt32.toInt32 = v) (hp : pc + 1 = pc') (k : Go p e below P (T.setTop (mkF m pc' Ls (.int v :: rest)))) : Go p e below P (T.setTop (mkF m pc Ls (.int x :: rest))) := by
  subst hp; subst hv; exact Go.on (fun t => XS.i2c X.here B.1 rfl (hb B.2.1 hd) rfl) k
theorem s_i2s (B : Ctx p s m meth c Z own nm bytes maxL ret) (X : Stand p l e R s m args below meth c T locs cells slots) {x : Int32} {v : Int32} (hd : decode bytes pc = .ok (.i2s, 1)) (hv : x.toInt16.toInt32 = v) (hp : pc + 1 = pc') (k : Go p e below P (T.setTop (mkF m pc' Ls (.int v :: rest)))) : Go p e below P (T.setTop (mkF m pc Ls (.int x :: rest))) := by
  subst hp; subst hv; exact Go.on (fun t => XS.i2s X.here B.1 rfl (hb B.2.1 hd) rfl) k
theorem s_i2l (B : Ctx p s m meth c Z own nm bytes maxL ret) (X : Stand p l e R s m args below meth c T locs cells slots) {x : Int32} {v : Int64} (hd : decode bytes pc = .ok (.i2l, 1)) (hv : x.toInt64 = v) (hp : pc + 1 = pc') (k : Go p e below P (T.setTop (mkF m pc' Ls (.long v :: rest)))) : Go p e below P (T.setTop (mkF m pc Ls (.int x :: rest))) := by
  subst hp; subst hv; exact Go.on (fun t => XS.i2l X.here B.1 rfl (hb B.2.1 hd) rfl) k
theorem s_l2i (B : Ctx p s m meth c Z own nm bytes maxL ret) (X : Stand p l e R s m args below meth c T locs cells slots) {x : Int64} {v : Int32} (hd : decode bytes pc = .ok (.l2i, 1)) (hv : x.toInt32 = v) (hp : pc + 1 = pc') (k : Go p e below P (T.setTop (mkF m pc' Ls (.int v :: rest)))) : Go p e below P (T.setTop (mkF m pc Ls (.long x :: rest))) := by
  subst hp; subst hv; exact Go.on (fun t => XS.l2i X.here B.1 rfl (hb B.2.1 hd) rfl) k
theorem s_ineg (B : Ctx p s m meth c Z own nm bytes maxL ret) (X : Stand p l e R s m args below meth c T locs cells slots) {x : Int32} {v : Int32} (hd : decode bytes pc = .ok (.ineg, 1)) (hv : -x = v) (hp : pc + 1 = pc') (k : Go p e below P (T.setTop (mkF m pc' Ls (.int v :: rest)))) : Go p e below P (T.setTop (mkF m pc Ls (.int x :: rest))) := by
  subst hp; subst hv; exact Go.on (fun t => XS.ineg X.here B.1 rfl (hb B.2.1 hd) rfl) k
theorem s_lneg (B : Ctx p s m meth c Z own nm bytes maxL ret) (X : Stand p l e R s m args below meth c T locs cells slots) {x : Int64} {v : Int64} (hd : decode bytes pc = .ok (.lneg, 1)) (hv : -x = v) (hp : pc + 1 = pc') (k : Go p e below P (T.setTop (mkF m pc' Ls (.long v :: rest)))) : Go p e below P (T.setTop (mkF m pc Ls (.long x :: rest))) := by
  subst hp; subst hv; exact Go.on (fun t => XS.lneg X.here B.1 rfl (hb B.2.1 hd) rfl) k
theorem s_lcmp (B : Ctx p s m meth c Z own nm bytes maxL ret) (X : Stand p l e R s m args below meth c T locs cells slots) {x y : Int64} (hd : decode bytes pc = .ok (.lcmp, 1))  (hp : pc + 1 = pc') (k : Go p e below P (T.setTop (mkF m pc' Ls (.int (lcmpW x y) :: rest)))) : Go p e below P (T.setTop (mkF m pc Ls (.long y :: .long x :: rest))) := by
  subst hp; exact Go.on (fun t => XS.lcmp X.here B.1 rfl (hb B.2.1 hd) rfl) k
theorem s_dup (B : Ctx p s m meth c Z own nm bytes maxL ret) (X : Stand p l e R s m args below meth c T locs cells slots) {v : Value} (hd : decode bytes pc = .ok (.dup, 1)) (hc : v.category = 1) (hp : pc + 1 = pc') (k : Go p e below P (T.setTop (mkF m pc' Ls (v :: v :: rest)))) : Go p e below P (T.setTop (mkF m pc Ls (v :: rest))) := by
  subst hp; exact Go.on (fun t => XS.dup X.here B.1 rfl (hb B.2.1 hd) rfl hc) k
theorem s_pop (B : Ctx p s m meth c Z own nm bytes maxL ret) (X : Stand p l e R s m args below meth c T locs cells slots) {v : Value} (hd : decode bytes pc = .ok (.pop, 1)) (hc : v.category = 1) (hp : pc + 1 = pc') (k : Go p e below P (T.setTop (mkF m pc' Ls (rest)))) : Go p e below P (T.setTop (mkF m pc Ls (v :: rest))) := by
  subst hp; exact Go.on (fun t => XS.pop X.here B.1 rfl (hb B.2.1 hd) rfl hc) k
theorem s_swap (B : Ctx p s m meth c Z own nm bytes maxL ret) (X : Stand p l e R s m args below meth c T locs cells slots) {v w : Value} (hd : decode bytes pc = .ok (.swap, 1)) (hc : v.category = 1) (hc2 : w.category = 1) (hp : pc + 1 = pc') (k : Go p e below P (T.setTop (mkF m pc' Ls (w :: v :: rest)))) : Go p e below P (T.setTop (mkF m pc Ls (v :: w :: rest))) := by
  subst hp; exact Go.on (fun t => XS.swap X.here B.1 rfl (hb B.2.1 hd) rfl hc hc2) k
theorem s_dup_x1 (B : Ctx p s m meth c Z own nm bytes maxL ret) (X : Stand p l e R s m args below meth c T locs cells slots) {v w : Value} (hd : decode bytes pc = .ok (.dup_x1, 1)) (hc : v.category = 1) (hc2 : w.category = 1) (hp : pc + 1 = pc') (k : Go p e below P (T.setTop (mkF m pc' Ls (v :: w :: v :: rest)))) : Go p e below P (T.setTop (mkF m pc Ls (v :: w :: rest))) := by
  subst hp; exact Go.on (fun t => XS.dupX1 X.here B.1 rfl (hb B.2.1 hd) rfl hc hc2) k
theorem s_dup2 (B : Ctx p s m meth c Z own nm bytes maxL ret) (X : Stand p l e R s m args below meth c T locs cells slots) {v w : Value} (hd : decode bytes pc = .ok (.dup2, 1)) (hc : v.category = 1) (hc2 : w.category = 1) (hp : pc + 1 = pc') (k : Go p e below P (T.setTop (mkF m pc' Ls (v :: w :: v :: w :: rest)))) : Go p e below P (T.setTop (mkF m pc Ls (v :: w :: rest))) := by
  subst hp; exact Go.on (fun t => XT.dup2 X.here B.1 rfl (hb B.2.1 hd) rfl hc hc2) k
theorem s_iinc (B : Ctx p s m meth c Z own nm bytes maxL ret) (X : Stand p l e R s m args below meth c T locs cells slots) {k0 : Nat} {i : Int} {x v : Int32} (hd : decode bytes pc = .ok (.iinc k0 i, 3)) (hl : Ls[k0]? = some (.val (.int x))) (hv : x + Int32.ofInt i = v) (hl' : storeLocals Ls k0 (.int v) = some Ls') (hp : pc + 3 = pc') (k : Go p e below P (T.setTop (mkF m pc' Ls' (rest)))) : Go p e below P (T.setTop (mkF m pc Ls (rest))) := by
  subst hp; subst hv; exact Go.on (fun t => XS.iinc X.here B.1 rfl (hb B.2.1 hd) hl hl') k
theorem s_goto (B : Ctx p s m meth c Z own nm bytes maxL ret) (X : Stand p l e R s m args below meth c T locs cells slots)  {o : Int} (hd : decode bytes pc = .ok (.goto o, 3))  (ho : 0 ≤ (pc : Int) + o) (hp : ((pc : Int) + o).toNat = pc') (k : Go p e below P (T.setTop (mkF m pc' Ls (rest)))) : Go p e below P (T.setTop (mkF m pc Ls (rest))) := Go.on (fun t => XS.goto X.here B.1 rfl rfl (hb B.2.1 hd) ho hp) k
theorem s_ifY (B : Ctx p s m meth c Z own nm bytes maxL ret) (X : Stand p l e R s m args below meth c T locs cells slots) {cd : ClassFile.Cond} {x : Int32} {o : Int} (hd : decode bytes pc = .ok (.ifCond cd o, 3)) (hc : ifCond.holds cd x = true) (ho : 0 ≤ (pc : Int) + o) (hp : ((pc : Int) + o).toNat = pc') (k : Go p e below P (T.setTop (mkF m pc' Ls (rest)))) : Go p e below P (T.setTop (mkF m pc Ls (.int x :: rest))) := Go.on (fun t => XS.ifYes X.here B.1 rfl rfl (hb B.2.1 hd) rfl hc ho hp) k
theorem s_ifN (B : Ctx p s m meth c Z own nm bytes maxL ret) (X : Stand p l e R s m args below meth c T locs cells slots) {cd : ClassFile.Cond} {x : Int32} {o : Int} (hd : decode bytes pc = .ok (.ifCond cd o, 3)) (hc : ifCond.holds cd x = false) (hp : pc + 3 = pc') (k : Go p e below P (T.setTop (mkF m pc' Ls (rest)))) : Go p e below P (T.setTop (mkF m pc Ls (.int x :: rest))) := by
  subst hp; exact Go.on (fun t => XS.ifNo X.here B.1 rfl (hb B.2.1 hd) rfl hc) k
theorem s_icmpY (B : Ctx p s m meth c Z own nm bytes maxL ret) (X : Stand p l e R s m args below meth c T locs cells slots) {cd : ClassFile.Cond} {x y : Int32} {o : Int} (hd : decode bytes pc = .ok (.if_icmp cd o, 3)) (hc : if_icmp.holds cd x y = true) (ho : 0 ≤ (pc : Int) + o) (hp : ((pc : Int) + o).toNat = pc') (k : Go p e below P (T.setTop (mkF m pc' Ls (rest)))) : Go p e below P (T.setTop (mkF m pc Ls (.int y :: .int x :: rest))) := Go.on (fun t => XS.icmpYes X.here B.1 rfl rfl (hb B.2.1 hd) rfl hc ho hp) k
theorem s_icmpN (B : Ctx p s m meth c Z own nm bytes maxL ret) (X : Stand p l e R s m args below meth c T locs cells slots) {cd : ClassFile.Cond} {x y : Int32} {o : Int} (hd : decode bytes pc = .ok (.if_icmp cd o, 3)) (hc : if_icmp.holds cd x y = false) (hp : pc + 3 = pc') (k : Go p e below P (T.setTop (mkF m pc' Ls (rest)))) : Go p e below P (T.setTop (mkF m pc Ls (.int y :: .int x :: rest))) := by
  subst hp; exact Go.on (fun t => XS.icmpNo X.here B.1 rfl (hb B.2.1 hd) rfl hc) k
theorem s_ifnullY (B : Ctx p s m meth c Z own nm bytes maxL ret) (X : Stand p l e R s m args below meth c T locs cells slots)  {o : Int} (hd : decode bytes pc = .ok (.ifnull o, 3))  (ho : 0 ≤ (pc : Int) + o) (hp : ((pc : Int) + o).toNat = pc') (k : Go p e below P (T.setTop (mkF m pc' Ls (rest)))) : Go p e below P (T.setTop (mkF m pc Ls (.null :: rest))) := Go.on (fun t => XS.ifnullYes X.here B.1 rfl rfl (hb B.2.1 hd) rfl ho hp) k
theorem s_ifnullN (B : Ctx p s m meth c Z own nm bytes maxL ret) (X : Stand p l e R s m args below meth c T locs cells slots) {b : Addr} {o : Int} (hd : decode bytes pc = .ok (.ifnull o, 3))  (hp : pc + 3 = pc') (k : Go p e below P (T.setTop (mkF m pc' Ls (rest)))) : Go p e below P (T.setTop (mkF m pc Ls (.ref b :: rest))) := by
  subst hp; exact Go.on (fun t => XS.ifnullNo X.here B.1 rfl (hb B.2.1 hd) rfl) k
theorem s_ifnonnullY (B : Ctx p s m meth c Z own nm bytes maxL ret) (X : Stand p l e R s m args below meth c T locs cells slots) {b : Addr} {o : Int} (hd : decode bytes pc = .ok (.ifnonnull o, 3))  (ho : 0 ≤ (pc : Int) + o) (hp : ((pc : Int) + o).toNat = pc') (k : Go p e below P (T.setTop (mkF m pc' Ls (rest)))) : Go p e below P (T.setTop (mkF m pc Ls (.ref b :: rest))) := Go.on (fun t => XS.ifnonnullYes X.here B.1 rfl rfl (hb B.2.1 hd) rfl ho hp) k
theorem s_ifnonnullN (B : Ctx p s m meth c Z own nm bytes maxL ret) (X : Stand p l e R s m args below meth c T locs cells slots)  {o : Int} (hd : decode bytes pc = .ok (.ifnonnull o, 3))  (hp : pc + 3 = pc') (k : Go p e below P (T.setTop (mkF m pc' Ls (rest)))) : Go p e below P (T.setTop (mkF m pc Ls (.null :: rest))) := by
  subst hp; exact Go.on (fun t => XS.ifnonnullNo X.here B.1 rfl (hb B.2.1 hd) rfl) k
theorem b_icmp_eq (B : Ctx p s m meth c Z own nm bytes maxL ret) (X : Stand p l e R s m args below meth c T locs cells slots) {x y : Int32} {o : Int} {py pn : Nat} (hd : decode bytes pc = .ok (.if_icmp .eq o, 3)) (ho : 0 ≤ (pc : Int) + o) (hy : ((pc : Int) + o).toNat = py) (hn : pc + 3 = pn) (k1 : x = y → Go p e below P (T.setTop (mkF m py Ls (rest)))) (k2 : ¬ x = y → Go p e below P (T.setTop (mkF m pn Ls (rest)))) : Go p e below P (T.setTop (mkF m pc Ls (.int y :: .int x :: rest))) := by
  by_cases q : x = y
  · exact s_icmpY B X hd (teq q).1 ho hy (k1 q)
  · exact s_icmpN B X hd (feq q).1 hn (k2 q)
theorem b_if_eq (B : Ctx p s m meth c Z own nm bytes maxL ret) (X : Stand p l e R s m args below meth c T locs cells slots) {x : Int32} {o : Int} {py pn : Nat} (hd : decode bytes pc = .ok (.ifCond .eq o, 3)) (ho : 0 ≤ (pc : Int) + o) (hy : ((pc : Int) + o).toNat = py) (hn : pc + 3 = pn) (k1 : x = 0 → Go p e below P (T.setTop (mkF m py Ls (rest)))) (k2 : ¬ x = 0 → Go p e below P (T.setTop (mkF m pn Ls (rest)))) : Go p e below P (T.setTop (mkF m pc Ls (.int x :: rest))) := by
  by_cases q : x = 0
  · exact s_ifY B X hd ((if0 _ _).trans (teq q).1) ho hy (k1 q)
  · exact s_ifN B X hd ((if0 _ _).trans (feq q).1) hn (k2 q)
theorem b_icmp_ne (B : Ctx p s m meth c Z own nm bytes maxL ret) (X : Stand p l e R s m args below meth c T locs cells slots) {x y : Int32} {o : Int} {py pn : Nat} (hd : decode bytes pc = .ok (.if_icmp .ne o, 3)) (ho : 0 ≤ (pc : Int) + o) (hy : ((pc : Int) + o).toNat = py) (hn : pc + 3 = pn) (k1 : ¬ x = y → Go p e below P (T.setTop (mkF m py Ls (rest)))) (k2 : x = y → Go p e below P (T.setTop (mkF m pn Ls (rest)))) : Go p e below P (T.setTop (mkF m pc Ls (.int y :: .int x :: rest))) := by
  by_cases q : x = y
  · exact s_icmpN B X hd (teq q).2 hn (k2 q)
  · exact s_icmpY B X hd (feq q).2 ho hy (k1 q)
theorem b_if_ne (B : Ctx p s m meth c Z own nm bytes maxL ret) (X : Stand p l e R s m args below meth c T locs cells slots) {x : Int32} {o : Int} {py pn : Nat} (hd : decode bytes pc = .ok (.ifCond .ne o, 3)) (ho : 0 ≤ (pc : Int) + o) (hy : ((pc : Int) + o).toNat = py) (hn : pc + 3 = pn) (k1 : ¬ x = 0 → Go p e below P (T.setTop (mkF m py Ls (rest)))) (k2 : x = 0 → Go p e below P (T.setTop (mkF m pn Ls (rest)))) : Go p e below P (T.setTop (mkF m pc Ls (.int x :: rest))) := by
  by_cases q : x = 0
  · exact s_ifN B X hd ((if0 _ _).trans (teq q).2) hn (k2 q)
  · exact s_ifY B X hd ((if0 _ _).trans (feq q).2) ho hy (k1 q)
theorem b_icmp_lt (B : Ctx p s m meth c Z own nm bytes maxL ret) (X : Stand p l e R s m args below meth c T locs cells slots) {x y : Int32} {o : Int} {py pn : Nat} (hd : decode bytes pc = .ok (.if_icmp .lt o, 3)) (ho : 0 ≤ (pc : Int) + o) (hy : ((pc : Int) + o).toNat = py) (hn : pc + 3 = pn) (k1 : x < y → Go p e below P (T.setTop (mkF m py Ls (rest)))) (k2 : ¬ x < y → Go p e below P (T.setTop (mkF m pn Ls (rest)))) : Go p e below P (T.setTop (mkF m pc Ls (.int y :: .int x :: rest))) := by
  by_cases q : x < y
  · exact s_icmpY B X hd (tlt q).1 ho hy (k1 q)
  · exact s_icmpN B X hd (flt q).1 hn (k2 q)
theorem b_if_lt (B : Ctx p s m meth c Z own nm bytes maxL ret) (X : Stand p l e R s m args below meth c T locs cells slots) {x : Int32} {o : Int} {py pn : Nat} (hd : decode bytes pc = .ok (.ifCond .lt o, 3)) (ho : 0 ≤ (pc : Int) + o) (hy : ((pc : Int) + o).toNat = py) (hn : pc + 3 = pn) (k1 : x < 0 → Go p e below P (T.setTop (mkF m py Ls (rest)))) (k2 : ¬ x < 0 → Go p e below P (T.setTop (mkF m pn Ls (rest)))) : Go p e below P (T.setTop (mkF m pc Ls (.int x :: rest))) := by
  by_cases q : x < 0
  · exact s_ifY B X hd ((if0 _ _).trans (tlt q).1) ho hy (k1 q)
  · exact s_ifN B X hd ((if0 _ _).trans (flt q).1) hn (k2 q)
theorem b_icmp_ge (B : Ctx p s m meth c Z own nm bytes maxL ret) (X : Stand p l e R s m args below meth c T locs cells slots) {x y : Int32} {o : Int} {py pn : Nat} (hd : decode bytes pc = .ok (.if_icmp .ge o, 3)) (ho : 0 ≤ (pc : Int) + o) (hy : ((pc : Int) + o).toNat = py) (hn : pc + 3 = pn) (k1 : ¬ x < y → Go p e below P (T.setTop (mkF m py Ls (rest)))) (k2 : x < y → Go p e below P (T.setTop (mkF m pn Ls (rest)))) : Go p e below P (T.setTop (mkF m pc Ls (.int y :: .int x :: rest))) := by
  by_cases q : x < y
  · exact s_icmpN B X hd (tlt q).2.1 hn (k2 q)
  · exact s_icmpY B X hd (flt q).2.1 ho hy (k1 q)
theorem b_if_ge (B : Ctx p s m meth c Z own nm bytes maxL ret) (X : Stand p l e R s m args below meth c T locs cells slots) {x : Int32} {o : Int} {py pn : Nat} (hd : decode bytes pc = .ok (.ifCond .ge o, 3)) (ho : 0 ≤ (pc : Int) + o) (hy : ((pc : Int) + o).toNat = py) (hn : pc + 3 = pn) (k1 : ¬ x < 0 → Go p e below P (T.setTop (mkF m py Ls (rest)))) (k2 : x < 0 → Go p e below P (T.setTop (mkF m pn Ls (rest)))) : Go p e below P (T.setTop (mkF m pc Ls (.int x :: rest))) := by
  by_cases q : x < 0
  · exact s_ifN B X hd ((if0 _ _).trans (tlt q).2.1) hn (k2 q)
  · exact s_ifY B X hd ((if0 _ _).trans (flt q).2.1) ho hy (k1 q)
theorem b_icmp_gt (B : Ctx p s m meth c Z own nm bytes maxL ret) (X : Stand p l e R s m args below meth c T locs cells slots) {x y : Int32} {o : Int} {py pn : Nat} (hd : decode bytes pc = .ok (.if_icmp .gt o, 3)) (ho : 0 ≤ (pc : Int) + o) (hy : ((pc : Int) + o).toNat = py) (hn : pc + 3 = pn) (k1 : y < x → Go p e below P (T.setTop (mkF m py Ls (rest)))) (k2 : ¬ y < x → Go p e below P (T.setTop (mkF m pn Ls (rest)))) : Go p e below P (T.setTop (mkF m pc Ls (.int y :: .int x :: rest))) := by
  by_cases q : y < x
  · exact s_icmpY B X hd (tlt q).2.2.1 ho hy (k1 q)
  · exact s_icmpN B X hd (flt q).2.2.1 hn (k2 q)
theorem b_if_gt (B : Ctx p s m meth c Z own nm bytes maxL ret) (X : Stand p l e R s m args below meth c T locs cells slots) {x : Int32} {o : Int} {py pn : Nat} (hd : decode bytes pc = .ok (.ifCond .gt o, 3)) (ho : 0 ≤ (pc : Int) + o) (hy : ((pc : Int) + o).toNat = py) (hn : pc + 3 = pn) (k1 : 0 < x → Go p e below P (T.setTop (mkF m py Ls (rest)))) (k2 : ¬ 0 < x → Go p e below P (T.setTop (mkF m pn Ls (rest)))) : Go p e below P (T.setTop (mkF m pc Ls (.int x :: rest))) := by
  by_cases q : 0 < x
  · exact s_ifY B X hd ((if0 _ _).trans (tlt q).2.2.1) ho hy (k1 q)
  · exact s_ifN B X hd ((if0 _ _).trans (flt q).2.2.1) hn (k2 q)
theorem b_icmp_le (B : Ctx p s m meth c Z own nm bytes maxL ret) (X : Stand p l e R s m args below meth c T locs cells slots) {x y : Int32} {o : Int} {py pn : Nat} (hd : decode bytes pc = .ok (.if_icmp .le o, 3)) (ho : 0 ≤ (pc : Int) + o) (hy : ((pc : Int) + o).toNat = py) (hn : pc + 3 = pn) (k1 : ¬ y < x → Go p e below P (T.setTop (mkF m py Ls (rest)))) (k2 : y < x → Go p e below P (T.setTop (mkF m pn Ls (rest)))) : Go p e below P (T.setTop (mkF m pc Ls (.int y :: .int x :: rest))) := by
  by_cases q : y < x
  · exact s_icmpN B X hd (tlt q).2.2.2 hn (k2 q)
  · exact s_icmpY B X hd (flt q).2.2.2 ho hy (k1 q)
theorem b_if_le (B : Ctx p s m meth c Z own nm bytes maxL ret) (X : Stand p l e R s m args below meth c T locs cells slots) {x : Int32} {o : Int} {py pn : Nat} (hd : decode bytes pc = .ok (.ifCond .le o, 3)) (ho : 0 ≤ (pc : Int) + o) (hy : ((pc : Int) + o).toNat = py) (hn : pc + 3 = pn) (k1 : ¬ 0 < x → Go p e below P (T.setTop (mkF m py Ls (rest)))) (k2 : 0 < x → Go p e below P (T.setTop (mkF m pn Ls (rest)))) : Go p e below P (T.setTop (mkF m pc Ls (.int x :: rest))) := by
  by_cases q : 0 < x
  · exact s_ifN B X hd ((if0 _ _).trans (tlt q).2.2.2) hn (k2 q)
  · exact s_ifY B X hd ((if0 _ _).trans (flt q).2.2.2) ho hy (k1 q)
theorem b_lcmp_eq (B : Ctx p s m meth c Z own nm bytes maxL ret) (X : Stand p l e R s m args below meth c T locs cells slots) {x y : Int64} {pc0 : Nat} {o : Int} {py pn : Nat} (hd0 : decode bytes pc0 = .ok (.lcmp, 1)) (hp0 : pc0 + 1 = pc) (hd : decode bytes pc = .ok (.ifCond .eq o, 3)) (ho : 0 ≤ (pc : Int) + o) (hy : ((pc : Int) + o).toNat = py) (hn : pc + 3 = pn) (k1 : x = y → Go p e below P (T.setTop (mkF m py Ls (rest)))) (k2 : ¬ x = y → Go p e below P (T.setTop (mkF m pn Ls (rest)))) : Go p e below P (T.setTop (mkF m pc0 Ls (.long y :: .long x :: rest))) := by
  by_cases q : x = y
  · exact s_lcmp B X hd0 hp0 (s_ifY B X hd ((if0 _ _).trans (teq ((lw_eq x y).mpr q)).1) ho hy (k1 q))
  · exact s_lcmp B X hd0 hp0 (s_ifN B X hd ((if0 _ _).trans (feq (fun z => q ((lw_eq x y).mp z))).1) hn (k2 q))
theorem b_lcmp_ne (B : Ctx p s m meth c Z own nm bytes maxL ret) (X : Stand p l e R s m args below meth c T locs cells slots) {x y : Int64} {pc0 : Nat} {o : Int} {py pn : Nat} (hd0 : decode bytes pc0 = .ok (.lcmp, 1)) (hp0 : pc0 + 1 = pc) (hd : decode bytes pc = .ok (.ifCond .ne o, 3)) (ho : 0 ≤ (pc : Int) + o) (hy : ((pc : Int) + o).toNat = py) (hn : pc + 3 = pn) (k1 : ¬ x = y → Go p e below P (T.setTop (mkF m py Ls (rest)))) (k2 : x = y → Go p e below P (T.setTop (mkF m pn Ls (rest)))) : Go p e below P (T.setTop (mkF m pc0 Ls (.long y :: .long x :: rest))) := by
  by_cases q : x = y
  · exact s_lcmp B X hd0 hp0 (s_ifN B X hd ((if0 _ _).trans (teq ((lw_eq x y).mpr q)).2) hn (k2 q))
  · exact s_lcmp B X hd0 hp0 (s_ifY B X hd ((if0 _ _).trans (feq (fun z => q ((lw_eq x y).mp z))).2) ho hy (k1 q))
theorem b_lcmp_lt (B : Ctx p s m meth c Z own nm bytes maxL ret) (X : Stand p l e R s m args below meth c T locs cells slots) {x y : Int64} {pc0 : Nat} {o : Int} {py pn : Nat} (hd0 : decode bytes pc0 = .ok (.lcmp, 1)) (hp0 : pc0 + 1 = pc) (hd : decode bytes pc = .ok (.ifCond .lt o, 3)) (ho : 0 ≤ (pc : Int) + o) (hy : ((pc : Int) + o).toNat = py) (hn : pc + 3 = pn) (k1 : x < y → Go p e below P (T.setTop (mkF m py Ls (rest)))) (k2 : ¬ x < y → Go p e below P (T.setTop (mkF m pn Ls (rest)))) : Go p e below P (T.setTop (mkF m pc0 Ls (.long y :: .long x :: rest))) := by
  by_cases q : x < y
  · exact s_lcmp B X hd0 hp0 (s_ifY B X hd ((if0 _ _).trans (tlt ((lw_lt x y).mpr q)).1) ho hy (k1 q))
  · exact s_lcmp B X hd0 hp0 (s_ifN B X hd ((if0 _ _).trans (flt (fun z => q ((lw_lt x y).mp z))).1) hn (k2 q))
theorem b_lcmp_ge (B : Ctx p s m meth c Z own nm bytes maxL ret) (X : Stand p l e R s m args below meth c T locs cells slots) {x y : Int64} {pc0 : Nat} {o : Int} {py pn : Nat} (hd0 : decode bytes pc0 = .ok (.lcmp, 1)) (hp0 : pc0 + 1 = pc) (hd : decode bytes pc = .ok (.ifCond .ge o, 3)) (ho : 0 ≤ (pc : Int) + o) (hy : ((pc : Int) + o).toNat = py) (hn : pc + 3 = pn) (k1 : ¬ x < y → Go p e below P (T.setTop (mkF m py Ls (rest)))) (k2 : x < y → Go p e below P (T.setTop (mkF m pn Ls (rest)))) : Go p e below P (T.setTop (mkF m pc0 Ls (.long y :: .long x :: rest))) := by
  by_cases q : x < y
  · exact s_lcmp B X hd0 hp0 (s_ifN B X hd ((if0 _ _).trans (tlt ((lw_lt x y).mpr q)).2.1) hn (k2 q))
  · exact s_lcmp B X hd0 hp0 (s_ifY B X hd ((if0 _ _).trans (flt (fun z => q ((lw_lt x y).mp z))).2.1) ho hy (k1 q))
theorem b_lcmp_gt (B : Ctx p s m meth c Z own nm bytes maxL ret) (X : Stand p l e R s m args below meth c T locs cells slots) {x y : Int64} {pc0 : Nat} {o : Int} {py pn : Nat} (hd0 : decode bytes pc0 = .ok (.lcmp, 1)) (hp0 : pc0 + 1 = pc) (hd : decode bytes pc = .ok (.ifCond .gt o, 3)) (ho : 0 ≤ (pc : Int) + o) (hy : ((pc : Int) + o).toNat = py) (hn : pc + 3 = pn) (k1 : y < x → Go p e below P (T.setTop (mkF m py Ls (rest)))) (k2 : ¬ y < x → Go p e below P (T.setTop (mkF m pn Ls (rest)))) : Go p e below P (T.setTop (mkF m pc0 Ls (.long y :: .long x :: rest))) := by
  by_cases q : y < x
  · exact s_lcmp B X hd0 hp0 (s_ifY B X hd ((if0 _ _).trans (tlt ((lw_gt x y).mpr q)).2.2.1) ho hy (k1 q))
  · exact s_lcmp B X hd0 hp0 (s_ifN B X hd ((if0 _ _).trans (flt (fun z => q ((lw_gt x y).mp z))).2.2.1) hn (k2 q))
theorem b_lcmp_le (B : Ctx p s m meth c Z own nm bytes maxL ret) (X : Stand p l e R s m args below meth c T locs cells slots) {x y : Int64} {pc0 : Nat} {o : Int} {py pn : Nat} (hd0 : decode bytes pc0 = .ok (.lcmp, 1)) (hp0 : pc0 + 1 = pc) (hd : decode bytes pc = .ok (.ifCond .le o, 3)) (ho : 0 ≤ (pc : Int) + o) (hy : ((pc : Int) + o).toNat = py) (hn : pc + 3 = pn) (k1 : ¬ y < x → Go p e below P (T.setTop (mkF m py Ls (rest)))) (k2 : y < x → Go p e below P (T.setTop (mkF m pn Ls (rest)))) : Go p e below P (T.setTop (mkF m pc0 Ls (.long y :: .long x :: rest))) := by
  by_cases q : y < x
  · exact s_lcmp B X hd0 hp0 (s_ifN B X hd ((if0 _ _).trans (tlt ((lw_gt x y).mpr q)).2.2.2) hn (k2 q))
  · exact s_lcmp B X hd0 hp0 (s_ifY B X hd ((if0 _ _).trans (flt (fun z => q ((lw_gt x y).mp z))).2.2.2) ho hy (k1 q))
theorem b_acmp_eq (B : Ctx p s m meth c Z own nm bytes maxL ret) (X : Stand p l e R s m args below meth c T locs cells slots) {a b : Addr} {o : Int} {py pn : Nat} (hd : decode bytes pc = .ok (.if_acmp .eq o, 3)) (ho : 0 ≤ (pc : Int) + o) (hy : ((pc : Int) + o).toNat = py) (hn : pc + 3 = pn) (k1 : a = b → Go p e below P (T.setTop (mkF m py Ls (rest)))) (k2 : ¬ a = b → Go p e below P (T.setTop (mkF m pn Ls (rest)))) : Go p e below P (T.setTop (mkF m pc Ls (.ref b :: .ref a :: rest))) := by
  by_cases q : a = b
  · exact Go.on (fun t => Jvm.RoadKit.acmp X B.1 rfl rfl rfl (same := true) rfl (hb B.2.1 hd) rfl (decide_eq_true (congrArg Value.ref q)) ho (by simp [acV, hy])) (k1 q)
  · exact Go.on (fun t => Jvm.RoadKit.acmp X B.1 rfl rfl rfl (same := false) rfl (hb B.2.1 hd) rfl (decide_eq_false fun z => q (Value.ref.inj z)) ho (by simp [acV, hn])) (k2 q)
theorem b_acmp_ne (B : Ctx p s m meth c Z own nm bytes maxL ret) (X : Stand p l e R s m args below meth c T locs cells slots) {a b : Addr} {o : Int} {py pn : Nat} (hd : decode bytes pc = .ok (.if_acmp .ne o, 3)) (ho : 0 ≤ (pc : Int) + o) (hy : ((pc : Int) + o).toNat = py) (hn : pc + 3 = pn) (k1 : ¬ a = b → Go p e below P (T.setTop (mkF m py Ls (rest)))) (k2 : a = b → Go p e below P (T.setTop (mkF m pn Ls (rest)))) : Go p e below P (T.setTop (mkF m pc Ls (.ref b :: .ref a :: rest))) := by
  by_cases q : a = b
  · exact Go.on (fun t => Jvm.RoadKit.acmp X B.1 rfl rfl rfl (same := true) rfl (hb B.2.1 hd) rfl (decide_eq_true (congrArg Value.ref q)) ho (by simp [acV, hn])) (k2 q)
  · exact Go.on (fun t => Jvm.RoadKit.acmp X B.1 rfl rfl rfl (same := false) rfl (hb B.2.1 hd) rfl (decide_eq_false fun z => q (Value.ref.inj z)) ho (by simp [acV, hy])) (k1 q)
theorem b_ifnull (B : Ctx p s m meth c Z own nm bytes maxL ret) (X : Stand p l e R s m args below meth c T locs cells slots) {v : Value} {o : Int} {py pn : Nat} (hv : v.isRef = true) (hd : decode bytes pc = .ok (.ifnull o, 3)) (ho : 0 ≤ (pc : Int) + o) (hy : ((pc : Int) + o).toNat = py) (hn : pc + 3 = pn) (k1 : v = .null → Go p e below P (T.setTop (mkF m py Ls (rest)))) (k2 : ¬ v = .null → Go p e below P (T.setTop (mkF m pn Ls (rest)))) : Go p e below P (T.setTop (mkF m pc Ls (v :: rest))) := by
  rcases ref_cases hv with rfl | ⟨a, rfl⟩
  · exact s_ifnullY B X hd ho hy (k1 rfl)
  · exact s_ifnullN B X hd hn (k2 nofun)
theorem b_ifnonnull (B : Ctx p s m meth c Z own nm bytes maxL ret) (X : Stand p l e R s m args below meth c T locs cells slots) {v : Value} {o : Int} {py pn : Nat} (hv : v.isRef = true) (hd : decode bytes pc = .ok (.ifnonnull o, 3)) (ho : 0 ≤ (pc : Int) + o) (hy : ((pc : Int) + o).toNat = py) (hn : pc + 3 = pn) (k1 : ¬ v = .null → Go p e below P (T.setTop (mkF m py Ls (rest)))) (k2 : v = .null → Go p e below P (T.setTop (mkF m pn Ls (rest)))) : Go p e below P (T.setTop (mkF m pc Ls (v :: rest))) := by
  rcases ref_cases hv with rfl | ⟨a, rfl⟩
  · exact s_ifnonnullN B X hd hn (k2 rfl)
  · exact s_ifnonnullY B X hd ho hy (k1 nofun)
theorem s_ldc (B : Ctx p s m meth c Z own nm bytes maxL ret) (X : Stand p l e R s m args below meth c T locs cells slots) {i : Nat} {v : Int32} (w : (Jvm.Cond.constant own i v).before a0 Z = true) (hd : decode bytes pc = .ok (.ldc i, 2)) (hp : pc + 2 = pc') (k : Go p e below P (T.setTop (mkF m pc' Ls (.int v :: rest)))) : Go p e below P (T.setTop (mkF m pc Ls (rest))) := by
  subst hp; exact Go.on (fun t => X.ldcI B.1 B.2.2.2.1 (mv B.2.2.2.2.2.2.2 w) rfl (hb B.2.1 hd)) k
theorem s_ldc2 (B : Ctx p s m meth c Z own nm bytes maxL ret) (X : Stand p l e R s m args below meth c T locs cells slots) {i : Nat} {v : Int64} (w : (Jvm.Cond.constantLong own i v).before a0 Z = true) (hd : decode bytes pc = .ok (.ldc2_w i, 3)) (hp : pc + 3 = pc') (k : Go p e below P (T.setTop (mkF m pc' Ls (.long v :: rest)))) : Go p e below P (T.setTop (mkF m pc Ls (rest))) := by
  subst hp; exact Go.on (fun t => X.ldc2J B.1 B.2.2.2.1 (mv B.2.2.2.2.2.2.2 w) rfl (hb B.2.1 hd)) k
theorem s_getS (B : Ctx p s m meth c Z own nm bytes maxL ret) (X : Stand p l e R s m args below meth c T locs cells slots) {i : Nat} {R0 O n d : String} {v : Value} (eT : T.heap = h) (w : (Jvm.Cond.fieldLink own i R0 n d).before a0 Z = true) (via : Via Z R0 O n d) (F : Sta Z h O n d v) (hd : decode bytes pc = .ok (.getstatic i, 3)) (hp : pc + 3 = pc') (k : ∀ T', Stand p l e R s m args below meth c T' locs cells slots → T'.heap = h → Go p e below P (T'.setTop (mkF m pc' Ls (v :: rest)))) : Go p e below P (T.setTop (mkF m pc Ls (rest))) := by
  subst hp
  obtain ⟨T', X', e', st⟩ := getS X B.1 B.2.2.2.2.2.2.2 (host := "") B.2.2.2.1 w via eT F (g := mkF m pc Ls rest) rfl (hb B.2.1 hd)
  exact Go.on st (k T' X' e')
theorem s_getF (B : Ctx p s m meth c Z own nm bytes maxL ret) (X : Stand p l e R s m args below meth c T locs cells slots) {i : Nat} {R0 O n d host : String} {a : Addr} {v : Value} (eT : T.heap = h) (w : (Jvm.Cond.fieldLink own i R0 n d).before a0 Z = true ∨ (Jvm.Cond.fieldLinkNest own i R0 n d host).before a0 Z = true) (via : Via Z R0 O n d) (F : Fld Z h a O n d v) (hd : decode bytes pc = .ok (.getfield i, 3)) (hp : pc + 3 = pc') (k : ∀ T', Stand p l e R s m args below meth c T' locs cells slots → T'.heap = h → Go p e below P (T'.setTop (mkF m pc' Ls (v :: rest)))) : Go p e below P (T.setTop (mkF m pc Ls (.ref a :: rest))) := by
  subst hp
  obtain ⟨T', X', e', st⟩ := getF X B.1 B.2.2.2.2.2.2.2 B.2.2.2.1 w via eT F (g := mkF m pc Ls (.ref a :: rest)) rfl rfl (hb B.2.1 hd)
  exact Go.on st (k T' X' e')
theorem r_nar (B : Ctx p s m meth c Z own nm bytes maxL ret) (X : Stand p l e R s m args below meth c T locs cells slots) {Q : Option Value → Heap → List Loc → Prop} {kc kn : Nat} {z : Int32} {t : FieldType} (ht : t = .boolean ∨ t = .byte ∨ t = .char ∨ t = .short) (hr : ret = some t) (hd : decode bytes pc = .ok (.ireturn, 1)) (hq : Q (some (.int (nar t z))) T.heap locs) (hc : cells ≤ kc) (hs : slots ≤ kn) : Go p e below (Ends s Q kc kn) (T.setTop (mkF m pc Ls (.int z :: rest))) := by
  obtain ⟨fs, hl, hrun, hended, hW, hsame⟩ := X.leave (v := (some (.int (nar t z)))) (fun h => by rw [B.2.2.2.2.2.1, hr] at h; first | rfl | cases h) B.2.2.2.2.2.2.1
  exact ⟨_, _, retN X B.1 (by rw [B.2.2.2.2.2.1, hr]) ht (hb B.2.1 hd) hl, hrun, hended, _, _, rfl, hq, ⟨_, rfl⟩, hW, hsame.mono hc hs⟩
theorem r_int (B : Ctx p s m meth c Z own nm bytes maxL ret) (X : Stand p l e R s m args below meth c T locs cells slots) {Q : Option Value → Heap → List Loc → Prop} {kc kn : Nat} {z : Int32} (hr : ret = some .int) (hd : decode bytes pc = .ok (.ireturn, 1)) (hq : Q (some (.int z)) T.heap locs) (hc : cells ≤ kc) (hs : slots ≤ kn) : Go p e below (Ends s Q kc kn) (T.setTop (mkF m pc Ls (.int z :: rest))) := by
  obtain ⟨fs, hl, hrun, hended, hW, hsame⟩ := X.leave (v := (some (.int z))) (fun h => by rw [B.2.2.2.2.2.1, hr] at h; first | rfl | cases h) B.2.2.2.2.2.2.1
  exact ⟨_, _, retOut X B.1 (t := .int) (by rw [B.2.2.2.2.2.1, hr]) rfl (Or.inl ⟨rfl, Or.inl rfl, _, rfl⟩) (hb B.2.1 hd) hl, hrun, hended, _, _, rfl, hq, ⟨_, rfl⟩, hW, hsame.mono hc hs⟩
theorem r_long (B : Ctx p s m meth c Z own nm bytes maxL ret) (X : Stand p l e R s m args below meth c T locs cells slots) {Q : Option Value → Heap → List Loc → Prop} {kc kn : Nat} {z : Int64} (hr : ret = some .long) (hd : decode bytes pc = .ok (.lreturn, 1)) (hq : Q (some (.long z)) T.heap locs) (hc : cells ≤ kc) (hs : slots ≤ kn) : Go p e below (Ends s Q kc kn) (T.setTop (mkF m pc Ls (.long z :: rest))) := by
  obtain ⟨fs, hl, hrun, hended, hW, hsame⟩ := X.leave (v := (some (.long z))) (fun h => by rw [B.2.2.2.2.2.1, hr] at h; first | rfl | cases h) B.2.2.2.2.2.2.1
  exact ⟨_, _, retOut X B.1 (t := .long) (by rw [B.2.2.2.2.2.1, hr]) rfl (Or.inr (Or.inl ⟨rfl, rfl, _, rfl⟩)) (hb B.2.1 hd) hl, hrun, hended, _, _, rfl, hq, ⟨_, rfl⟩, hW, hsame.mono hc hs⟩
theorem r_ref (B : Ctx p s m meth c Z own nm bytes maxL ret) (X : Stand p l e R s m args below meth c T locs cells slots) {Q : Option Value → Heap → List Loc → Prop} {kc kn : Nat} {v : Value} {t : FieldType} (ht : t.isReference = true) (hn : narrow t v = v) (hv : v.isRef = true) (hr : ret = some t) (hd : decode bytes pc = .ok (.areturn, 1)) (hq : Q (some v) T.heap locs) (hc : cells ≤ kc) (hs : slots ≤ kn) : Go p e below (Ends s Q kc kn) (T.setTop (mkF m pc Ls (v :: rest))) := by
  obtain ⟨fs, hl, hrun, hended, hW, hsame⟩ := X.leave (v := (some v)) (fun h => by rw [B.2.2.2.2.2.1, hr] at h; first | rfl | cases h) B.2.2.2.2.2.2.1
  exact ⟨_, _, retOut X B.1 (t := t) (by rw [B.2.2.2.2.2.1, hr]) hn (Or.inr (Or.inr (Or.inr (Or.inr ⟨rfl, ht, hv⟩)))) (hb B.2.1 hd) hl, hrun, hended, _, _, rfl, hq, ⟨_, rfl⟩, hW, hsame.mono hc hs⟩
theorem r_void (B : Ctx p s m meth c Z own nm bytes maxL ret) (X : Stand p l e R s m args below meth c T locs cells slots) {Q : Option Value → Heap → List Loc → Prop} {kc kn : Nat} (hr : ret = none) (hd : decode bytes pc = .ok (.return_, 1)) (hq : Q none T.heap locs) (hc : cells ≤ kc) (hs : slots ≤ kn) : Go p e below (Ends s Q kc kn) (T.setTop (mkF m pc Ls [])) := by
  obtain ⟨fs, hl, hrun, hended, hW, hsame⟩ := X.leave (v := none) (fun _ => rfl) B.2.2.2.2.2.2.1
  exact ⟨_, _, X.returnOut B.1 (by rw [B.2.2.2.2.2.1, hr]) (hb B.2.1 hd) hl, hrun, hended, _, _, rfl, hq, ⟨_, rfl⟩, hW, hsame.mono hc hs⟩
theorem c_virtual (B : Ctx p s m meth c Z own nm bytes maxL ret) (X : Stand p l e R s m args below meth c T locs cells slots) {y : MethodName} {bs : ByteArray} {mx : Nat} {rt : Option FieldType} {rm : Room} {i W : Nat} {argsL under : List Value} {Q : Option Value → Heap → List Loc → Prop} {st : List Value} {C : String} {b : Addr} (eT : T.heap = h) (w1 : (Jvm.Cond.methodLink own i y).before a0 Z = true) (w2 : (Jvm.Cond.declares y).before a0 Z = true) (w3 : (Jvm.Cond.selects C y y).before a0 Z = true) (w4 : (Jvm.Cond.instanceMethod y).before a0 Z = true) (wc : (Jvm.Cond.code y bs mx rt).before a0 Z = true) (wz : (Jvm.Cond.initialized y.cls).before a0 Z = true) (hy : y.cls ≠ "java/lang/invoke/MethodHandle" ∧ y.cls ≠ "java/lang/invoke/VarHandle") (hM : OMeets l Z y bs mx rt [] rm (.ref b :: argsL).toArray h Q) (E : Exa Z h b C) (hlen : ∀ sig, parseMethodDescriptor y.desc = some sig → argsL.length = sig.parameters.length) (hst : st = argsL.reverse ++ .ref b :: under) (hW : (under.map fun v => v.category).sum = W) (hf : rm.frames + 1 ≤ R.frames) (hlo : W + (mx + 11) + rm.locals ≤ R.locals) (hce : cells + rm.cells ≤ R.cells) (hsl : slots + rm.slots ≤ R.slots) (hsz : Ls.size = maxL) (hd : decode bytes pc = .ok (.invokevirtual i, 3)) (hp : pc + 3 = pc') (k : ∀ v T' L, Stand p l e R s m args below meth c T' (locs ++ L) (cells + rm.cells) (slots + rm.slots) → Q v T'.heap L → Go p e below P (T'.setTop (mkF m pc' Ls (v.toList ++ under)))) : Go p e below P (T.setTop (mkF m pc Ls st)) := by
  subst hp hst
  obtain ⟨cq, kq, qa, qb, qc⟩ := isOf B.2.2.2.2.2.2.2 eT E
  obtain ⟨v, _, ⟨T', L', k', n'⟩, -, X', ⟨Lc, hQ, l', y', z'⟩, st'⟩ := X.virtualBack B.1 (y := y) B.2.2.2.1 (mvT B.2.2.2.2.2.2.2 w1) (mvT B.2.2.2.2.2.2.2 w2) (notFace_of_selects (args := #[]) (mvT B.2.2.2.2.2.2.2 w3)) (mvT B.2.2.2.2.2.2.2 w3) (mvT B.2.2.2.2.2.2.2 w4) hy (z := y) (backOf (W := W) hM B.2.2.2.2.2.2.2 wc wz hf hlo) qa qc (g := mkF m pc Ls (argsL.reverse ++ .ref b :: under)) rfl (by rw [B.2.2.1]; exact hsz) (Steps.refl _) (argsL := argsL) (rest := under) hlen rfl (by show 2 * 0 + _ ≤ _; rw [Nat.mul_zero, Nat.zero_add]; exact Nat.le_of_eq hW) (hb B.2.1 hd) (fun _ _ => ⟨rfl, eT, hce, hsl⟩)
  dsimp only [Pt.U, Pt.locs, Pt.cells, Pt.slots] at X' l' y' z' st' hQ
  subst l' y' z'
  exact Go.on (fun t q => st'.trans q) (k v T' Lc X' hQ)
theorem c_static (B : Ctx p s m meth c Z own nm bytes maxL ret) (X : Stand p l e R s m args below meth c T locs cells slots) {y : MethodName} {bs : ByteArray} {mx : Nat} {rt : Option FieldType} {rm : Room} {i W : Nat} {argsL under : List Value} {Q : Option Value → Heap → List Loc → Prop} {st : List Value} (eT : T.heap = h) (w1 : (Jvm.Cond.methodLink own i y).before a0 Z = true) (w2 : (Jvm.Cond.static y).before a0 Z = true) (wc : (Jvm.Cond.code y bs mx rt).before a0 Z = true) (wz : (Jvm.Cond.initialized y.cls).before a0 Z = true) (hy : y.cls ≠ "java/lang/invoke/MethodHandle" ∧ y.cls ≠ "java/lang/invoke/VarHandle") (hM : OMeets l Z y bs mx rt [] rm argsL.toArray h Q) (hlen : ∀ sig, parseMethodDescriptor y.desc = some sig → argsL.length = sig.parameters.length) (hst : st = argsL.reverse ++ under) (hW : (under.map fun v => v.category).sum = W) (hf : rm.frames + 1 ≤ R.frames) (hlo : W + (mx + 11) + rm.locals ≤ R.locals) (hce : cells + rm.cells ≤ R.cells) (hsl : slots + rm.slots ≤ R.slots) (hsz : Ls.size = maxL) (hd : decode bytes pc = .ok (.invokestatic i, 3)) (hp : pc + 3 = pc') (k : ∀ v T' L, Stand p l e R s m args below meth c T' (locs ++ L) (cells + rm.cells) (slots + rm.slots) → Q v T'.heap L → Go p e below P (T'.setTop (mkF m pc' Ls (v.toList ++ under)))) : Go p e below P (T.setTop (mkF m pc Ls st)) := by
  subst hp hst
  obtain ⟨v, _, ⟨T', L', k', n'⟩, -, X', ⟨Lc, hQ, l', y', z'⟩, st'⟩ := Jvm.LawKit.callS X B.1 (y := y) B.2.2.2.1 (mvT B.2.2.2.2.2.2.2 w1) (mvT B.2.2.2.2.2.2.2 w2) (mvT B.2.2.2.2.2.2.2 wz) (mvT B.2.2.2.2.2.2.2 wc) hy (backOf (W := W) hM B.2.2.2.2.2.2.2 wc wz hf hlo) (g := mkF m pc Ls (argsL.reverse ++ under)) rfl (by rw [B.2.2.1]; exact hsz) (argsL := argsL) (rest := under) hlen rfl (by show 2 * 0 + _ ≤ _; rw [Nat.mul_zero, Nat.zero_add]; exact Nat.le_of_eq hW) (hb B.2.1 hd) (fun _ _ => ⟨rfl, eT, hce, hsl⟩)
  dsimp only [Pt.U, Pt.locs, Pt.cells, Pt.slots] at X' l' y' z' st' hQ
  subst l' y' z'
  exact Go.on st' (k v T' Lc X' hQ)
theorem c_init (B : Ctx p s m meth c Z own nm bytes maxL ret) (X : Stand p l e R s m args below meth c T locs cells slots) {y : MethodName} {bs : ByteArray} {mx : Nat} {rm : Room} {i W : Nat} {argsL under : List Value} {Q : Option Value → Heap → List Loc → Prop} {st : List Value} {b : Addr} (eT : T.heap = h) (hy1 : y.name = "<init>") (w1 : (Jvm.Cond.methodLink own i y).before a0 Z = true) (w2 : (Jvm.Cond.instanceMethod y).before a0 Z = true) (wc : (Jvm.Cond.code y bs mx none).before a0 Z = true) (wz : (Jvm.Cond.initialized y.cls).before a0 Z = true) (hy : y.cls ≠ "java/lang/invoke/MethodHandle" ∧ y.cls ≠ "java/lang/invoke/VarHandle") (hM : OMeets l Z y bs mx none [] rm (.ref b :: argsL).toArray h Q) (hlen : ∀ sig, parseMethodDescriptor y.desc = some sig → argsL.length = sig.parameters.length) (hst : st = argsL.reverse ++ .ref b :: under) (hW : (under.map fun v => v.category).sum = W) (hf : rm.frames + 1 ≤ R.frames) (hlo : W + (mx + 11) + rm.locals ≤ R.locals) (hce : cells + rm.cells ≤ R.cells) (hsl : slots + rm.slots ≤ R.slots) (hsz : Ls.size = maxL) (hd : decode bytes pc = .ok (.invokespecial i, 3)) (hp : pc + 3 = pc') (k : ∀ v T' L, Stand p l e R s m args below meth c T' (locs ++ L) (cells + rm.cells) (slots + rm.slots) → Q v T'.heap L → Go p e below P (T'.setTop (mkF m pc' Ls (v.toList ++ under)))) : Go p e below P (T.setTop (mkF m pc Ls st)) := by
  subst hp hst
  obtain ⟨v, _, ⟨T', L', k', n'⟩, -, X', ⟨Lc, hQ, l', y', z'⟩, st'⟩ := X.specialBack B.1 (y := y) hy1 B.2.2.2.1 (mvT B.2.2.2.2.2.2.2 w1) (mvT B.2.2.2.2.2.2.2 w2) (mvT B.2.2.2.2.2.2.2 wc) hy (backOf (W := W) hM B.2.2.2.2.2.2.2 wc wz hf hlo) (g := mkF m pc Ls (argsL.reverse ++ .ref b :: under)) rfl (by rw [B.2.2.1]; exact hsz) (Steps.refl _) (a := b) (argsL := argsL) (rest := under) hlen rfl (by show 2 * 0 + _ ≤ _; rw [Nat.mul_zero, Nat.zero_add]; exact Nat.le_of_eq hW) (hb B.2.1 hd) (fun _ _ => ⟨rfl, eT, hce, hsl⟩)
  dsimp only [Pt.U, Pt.locs, Pt.cells, Pt.slots] at X' l' y' z' st' hQ
  subst l' y' z'
  exact Go.on (fun t q => st'.trans q) (k v T' Lc X' hQ)
theorem p_virtual (B : Ctx p s m meth c Z own nm bytes maxL ret) (X : Stand p l e R s m args below meth c T locs cells slots) {y : MethodName} {bs : ByteArray} {mx : Nat} {rt : Option FieldType} {rm : Room} {i W : Nat} {argsL under : List Value} {st : List Value} {C : String} {b : Addr} {r : Option Value} (eT : T.heap = h) (w1 : (Jvm.Cond.methodLink own i y).before a0 Z = true) (w2 : (Jvm.Cond.declares y).before a0 Z = true) (w3 : (Jvm.Cond.selects C y y).before a0 Z = true) (w4 : (Jvm.Cond.instanceMethod y).before a0 Z = true) (wc : (Jvm.Cond.code y bs mx rt).before a0 Z = true) (wz : (Jvm.Cond.initialized y.cls).before a0 Z = true) (hy : y.cls ≠ "java/lang/invoke/MethodHandle" ∧ y.cls ≠ "java/lang/invoke/VarHandle") (hM : OMeets l Z y bs mx rt [] rm (.ref b :: argsL).toArray h (PureQ r h)) (E : Exa Z h b C) (hlen : ∀ sig, parseMethodDescriptor y.desc = some sig → argsL.length = sig.parameters.length) (hst : st = argsL.reverse ++ .ref b :: under) (hW : (under.map fun v => v.category).sum = W) (hf : rm.frames + 1 ≤ R.frames) (hlo : W + (mx + 11) + rm.locals ≤ R.locals) (hce : rm.cells = 0) (hsl : rm.slots = 0) (hc0 : cells ≤ R.cells) (hs0 : slots ≤ R.slots) (hsz : Ls.size = maxL) (hd : decode bytes pc = .ok (.invokevirtual i, 3)) (hp : pc + 3 = pc') (k : ∀ T', Stand p l e R s m args below meth c T' locs cells slots → T'.heap = h → Go p e below P (T'.setTop (mkF m pc' Ls (r.toList ++ under)))) : Go p e below P (T.setTop (mkF m pc Ls st)) := by
  refine c_virtual B X eT w1 w2 w3 w4 wc wz hy hM E hlen hst hW hf hlo (by omega) (by omega) hsz hd hp ?_
  intro v T' L X' hQ
  obtain ⟨rfl, rfl, e'⟩ := hQ
  rw [hce, hsl, List.append_nil] at X'
  exact k T' X' e'
theorem p_static (B : Ctx p s m meth c Z own nm bytes maxL ret) (X : Stand p l e R s m args below meth c T locs cells slots) {y : MethodName} {bs : ByteArray} {mx : Nat} {rt : Option FieldType} {rm : Room} {i W : Nat} {argsL under : List Value} {st : List Value}  {r : Option Value} (eT : T.heap = h) (w1 : (Jvm.Cond.methodLink own i y).before a0 Z = true) (w2 : (Jvm.Cond.static y).before a0 Z = true) (wc : (Jvm.Cond.code y bs mx rt).before a0 Z = true) (wz : (Jvm.Cond.initialized y.cls).before a0 Z = true) (hy : y.cls ≠ "java/lang/invoke/MethodHandle" ∧ y.cls ≠ "java/lang/invoke/VarHandle") (hM : OMeets l Z y bs mx rt [] rm argsL.toArray h (PureQ r h))  (hlen : ∀ sig, parseMethodDescriptor y.desc = some sig → argsL.length = sig.parameters.length) (hst : st = argsL.reverse ++ under) (hW : (under.map fun v => v.category).sum = W) (hf : rm.frames + 1 ≤ R.frames) (hlo : W + (mx + 11) + rm.locals ≤ R.locals) (hce : rm.cells = 0) (hsl : rm.slots = 0) (hc0 : cells ≤ R.cells) (hs0 : slots ≤ R.slots) (hsz : Ls.size = maxL) (hd : decode bytes pc = .ok (.invokestatic i, 3)) (hp : pc + 3 = pc') (k : ∀ T', Stand p l e R s m args below meth c T' locs cells slots → T'.heap = h → Go p e below P (T'.setTop (mkF m pc' Ls (r.toList ++ under)))) : Go p e below P (T.setTop (mkF m pc Ls st)) := by
  refine c_static B X eT w1 w2 wc wz hy hM hlen hst hW hf hlo (by omega) (by omega) hsz hd hp ?_
  intro v T' L X' hQ
  obtain ⟨rfl, rfl, e'⟩ := hQ
  rw [hce, hsl, List.append_nil] at X'
  exact k T' X' e'
theorem p_init (B : Ctx p s m meth c Z own nm bytes maxL ret) (X : Stand p l e R s m args below meth c T locs cells slots) {y : MethodName} {bs : ByteArray} {mx : Nat} {rm : Room} {i W : Nat} {argsL under : List Value} {st : List Value} {b : Addr} (eT : T.heap = h) (hy1 : y.name = "<init>") (w1 : (Jvm.Cond.methodLink own i y).before a0 Z = true) (w2 : (Jvm.Cond.instanceMethod y).before a0 Z = true) (wc : (Jvm.Cond.code y bs mx none).before a0 Z = true) (wz : (Jvm.Cond.initialized y.cls).before a0 Z = true) (hy : y.cls ≠ "java/lang/invoke/MethodHandle" ∧ y.cls ≠ "java/lang/invoke/VarHandle") (hM : OMeets l Z y bs mx none [] rm (.ref b :: argsL).toArray h (PureQ none h)) (hlen : ∀ sig, parseMethodDescriptor y.desc = some sig → argsL.length = sig.parameters.length) (hst : st = argsL.reverse ++ .ref b :: under) (hW : (under.map fun v => v.category).sum = W) (hf : rm.frames + 1 ≤ R.frames) (hlo : W + (mx + 11) + rm.locals ≤ R.locals) (hce : rm.cells = 0) (hsl : rm.slots = 0) (hc0 : cells ≤ R.cells) (hs0 : slots ≤ R.slots) (hsz : Ls.size = maxL) (hd : decode bytes pc = .ok (.invokespecial i, 3)) (hp : pc + 3 = pc') (k : ∀ T', Stand p l e R s m args below meth c T' locs cells slots → T'.heap = h → Go p e below P (T'.setTop (mkF m pc' Ls under))) : Go p e below P (T.setTop (mkF m pc Ls st)) := by
  refine c_init B X eT hy1 w1 w2 wc wz hy hM hlen hst hW hf hlo (by omega) (by omega) hsz hd hp ?_
  intro v T' L X' hQ
  obtain ⟨rfl, rfl, e'⟩ := hQ
  rw [hce, hsl, List.append_nil] at X'
  exact k T' X' e'
theorem c_virtualUp (B : Ctx p s m meth c Z own nm bytes maxL ret) (X : Stand p l e R s m args below meth c T locs cells slots) {y z : MethodName} {bs : ByteArray} {mx : Nat} {rt : Option FieldType} {rm : Room} {i W : Nat} {argsL under : List Value} {Q : Option Value → Heap → List Loc → Prop} {st : List Value} {C owner : String} {b : Addr} (eT : T.heap = h) (w1 : (Jvm.Cond.methodLink own i y).before a0 Z = true) (ws : (Jvm.Cond.sameMethod y.cls owner y.name y.desc).before a0 Z = true) (w2 : (Jvm.Cond.declares ⟨owner, y.name, y.desc⟩).before a0 Z = true) (w3 : (Jvm.Cond.selects C y z).before a0 Z = true) (w4 : (Jvm.Cond.instanceMethod z).before a0 Z = true) (wc : (Jvm.Cond.code z bs mx rt).before a0 Z = true) (wz : (Jvm.Cond.initialized z.cls).before a0 Z = true) (hy : owner ≠ "java/lang/invoke/MethodHandle" ∧ owner ≠ "java/lang/invoke/VarHandle") (hM : OMeets l Z z bs mx rt [] rm (.ref b :: argsL).toArray h Q) (E : Exa Z h b C) (hlen : ∀ sig, parseMethodDescriptor y.desc = some sig → argsL.length = sig.parameters.length) (hst : st = argsL.reverse ++ .ref b :: under) (hW : (under.map fun v => v.category).sum = W) (hf : rm.frames + 1 ≤ R.frames) (hlo : W + (mx + 11) + rm.locals ≤ R.locals) (hce : cells + rm.cells ≤ R.cells) (hsl : slots + rm.slots ≤ R.slots) (hsz : Ls.size = maxL) (hd : decode bytes pc = .ok (.invokevirtual i, 3)) (hp : pc + 3 = pc') (k : ∀ v T' L, Stand p l e R s m args below meth c T' (locs ++ L) (cells + rm.cells) (slots + rm.slots) → Q v T'.heap L → Go p e below P (T'.setTop (mkF m pc' Ls (v.toList ++ under)))) : Go p e below P (T.setTop (mkF m pc Ls st)) := by
  subst hp hst
  obtain ⟨cq, kq, qa, qb, qc⟩ := isOf B.2.2.2.2.2.2.2 eT E
  obtain ⟨v, _, ⟨T', L', k', n'⟩, -, X', ⟨Lc, hQ, l', y', z'⟩, st'⟩ := X.virtualBackUp B.1 (x := y) (y := z) B.2.2.2.1 (mvT B.2.2.2.2.2.2.2 w1) (mvT B.2.2.2.2.2.2.2 ws) (mvT B.2.2.2.2.2.2.2 w2) hy (mvT B.2.2.2.2.2.2.2 w3) (mvT B.2.2.2.2.2.2.2 w4) (backOf (W := W) hM B.2.2.2.2.2.2.2 wc wz hf hlo) qa qc (g := mkF m pc Ls (argsL.reverse ++ .ref b :: under)) rfl (by rw [B.2.2.1]; exact hsz) (Steps.refl _) (argsL := argsL) (rest := under) hlen rfl (by show 2 * 0 + _ ≤ _; rw [Nat.mul_zero, Nat.zero_add]; exact Nat.le_of_eq hW) (hb B.2.1 hd) (fun _ _ => ⟨rfl, eT, hce, hsl⟩)
  dsimp only [Pt.U, Pt.locs, Pt.cells, Pt.slots] at X' l' y' z' st' hQ
  subst l' y' z'
  exact Go.on (fun t q => st'.trans q) (k v T' Lc X' hQ)
theorem p_virtualUp (B : Ctx p s m meth c Z own nm bytes maxL ret) (X : Stand p l e R s m args below meth c T locs cells slots) {y z : MethodName} {bs : ByteArray} {mx : Nat} {rt : Option FieldType} {rm : Room} {i W : Nat} {argsL under : List Value} {st : List Value} {C owner : String} {b : Addr} {r : Option Value} (eT : T.heap = h) (w1 : (Jvm.Cond.methodLink own i y).before a0 Z = true) (ws : (Jvm.Cond.sameMethod y.cls owner y.name y.desc).before a0 Z = true) (w2 : (Jvm.Cond.declares ⟨owner, y.name, y.desc⟩).before a0 Z = true) (w3 : (Jvm.Cond.selects C y z).before a0 Z = true) (w4 : (Jvm.Cond.instanceMethod z).before a0 Z = true) (wc : (Jvm.Cond.code z bs mx rt).before a0 Z = true) (wz : (Jvm.Cond.initialized z.cls).before a0 Z = true) (hy : owner ≠ "java/lang/invoke/MethodHandle" ∧ owner ≠ "java/lang/invoke/VarHandle") (hM : OMeets l Z z bs mx rt [] rm (.ref b :: argsL).toArray h (PureQ r h)) (E : Exa Z h b C) (hlen : ∀ sig, parseMethodDescriptor y.desc = some sig → argsL.length = sig.parameters.length) (hst : st = argsL.reverse ++ .ref b :: under) (hW : (under.map fun v => v.category).sum = W) (hf : rm.frames + 1 ≤ R.frames) (hlo : W + (mx + 11) + rm.locals ≤ R.locals) (hce : rm.cells = 0) (hsl : rm.slots = 0) (hc0 : cells ≤ R.cells) (hs0 : slots ≤ R.slots) (hsz : Ls.size = maxL) (hd : decode bytes pc = .ok (.invokevirtual i, 3)) (hp : pc + 3 = pc') (k : ∀ T', Stand p l e R s m args below meth c T' locs cells slots → T'.heap = h → Go p e below P (T'.setTop (mkF m pc' Ls (r.toList ++ under)))) : Go p e below P (T.setTop (mkF m pc Ls st)) := by
  refine c_virtualUp B X eT w1 ws w2 w3 w4 wc wz hy hM E hlen hst hW hf hlo (by omega) (by omega) hsz hd hp ?_
  intro v T' L X' hQ
  obtain ⟨rfl, rfl, e'⟩ := hQ
  rw [hce, hsl, List.append_nil] at X'
  exact k T' X' e'
end Kit
end Jvm.OwnKit

namespace Jvm.OwnKit
open Sem ClassFile Op Lib Jvm.Stand Jvm.Free Jvm.LawKit Jvm.RoadKit
section Heap
variable {p : Program} {l : Launch} {e : Env} {R : Room} {s : State} {m : MethodId} {args : Array Value} {below : List Frame} {meth : Method} {c : Code} {T : State} {locs : List Loc} {cells slots : Nat} {Z : State} {a0 : Array Value} {h h' : Heap} {own nm : String} {bytes : ByteArray} {maxL : Nat} {ret : Option FieldType} {P : Outcome → State → Prop} {pc pc' : Nat} {Ls Ls' : Array Slot} {rest : List Value} {a b : Addr} {k : ClassId} {ty : FieldType} {n i : Nat} {f g : Nat → Value} {v w : Value} {sl : Nat} {ws : List Addr}
/-- an array at a: n places, place i holds f i -/
def Ary (Z : State) (h : Heap) (a : Addr) (k : ClassId) (ty : FieldType) (n : Nat) (f : Nat → Value) : Prop := ∃ c : Cell, Arr Z h a c ty ∧ c.cls = k ∧ c.slots.size = n ∧ n < 2 ^ 31 ∧ ∀ i, i < n → c.slots[i]? = some (f i)
def upd (f : Nat → Value) (j : Nat) (v : Value) : Nat → Value := fun i => if i = j then v else f i
def lst (L : List Value) (d : Value) : Nat → Value := fun i => L.getD i d
theorem Ary.lt (F : Ary Z h a k ty n f) : a < h.size := by obtain ⟨c, A, -⟩ := F; exact A.lt
theorem Ary.ext (E : Ext h h') (F : Ary Z h a k ty n f) : Ary Z h' a k ty n f := by obtain ⟨c, A, r⟩ := F; exact ⟨c, A.ext E, r⟩
theorem Ary.other (W : Wr h h' b sl v) (F : Ary Z h a k ty n f) (q : a ≠ b) : Ary Z h' a k ty n f := by obtain ⟨c, A, r⟩ := F; exact ⟨c, A.other W q, r⟩
theorem Ary.keep (F : Ary Z h a k ty n f) (K : Keep h h' ws) (q : a ∉ ws) : Ary Z h' a k ty n f := by obtain ⟨c, A, r⟩ := F; exact ⟨c, ⟨K.2.1 a c A.1 q, A.2⟩, r⟩
theorem Ary.congr (F : Ary Z h a k ty n f) (q : ∀ i, i < n → f i = g i) : Ary Z h a k ty n g := by obtain ⟨c, A, r1, r2, r3, r4⟩ := F; exact ⟨c, A, r1, r2, r3, fun i hi => by rw [r4 i hi, q i hi]⟩
theorem upd_lst {L : List Value} {d v : Value} {j : Nat} (hj : j < L.length) {L' : List Value} (e : L.set j v = L') : upd (lst L d) j v = lst L' d := by
  subst e; funext i
  simp only [upd, lst, List.getD_eq_getElem?_getD, List.getElem?_set]
  by_cases q : i = j
  · subst q; simp [hj]
  · simp [q, Ne.symm q]
theorem Ary.same {j : Nat} (W : Wr h h' a j v) (F : Ary Z h a k ty n f) : Ary Z h' a k ty n (upd f j v) := by
  obtain ⟨c, A, r1, r2, r3, r4⟩ := F
  obtain ⟨cell, w1, w2, w3, -⟩ := id W
  cases w1.symm.trans A.1
  refine ⟨_, A.same W, r1, by rw [sz_set]; exact r2, r3, fun i hi => ?_⟩
  by_cases q : i = j
  · subst q; simp [Cell.setSlot, upd, w3]
  · simp only [Cell.setSlot, upd, if_neg q]; rw [Array.getElem?_setIfInBounds_ne (Ne.symm q)]; exact r4 i hi
theorem Ary.of_new {x : Int32} {N : Nat} (A : Arr Z h a (newA k ty x) ty) (hx : ¬ x < 0) (hN : x.toNatClampNeg = N) : Ary Z h a k ty N (fun _ => defaultValue ty) := by
  subst hN
  refine ⟨_, A, rfl, sz_new _ _ _, (back32 hx).2, fun i hi => ?_⟩
  simp [newA, hi]
theorem Ary.of_rep (F : Ary Z h a k ty n (fun _ => v)) {L : List Value} (q : ∀ i, i < n → L.getD i v = v) : Ary Z h a k ty n (lst L v) := F.congr fun i hi => (q i hi).symm

theorem Ary.sto {C : String} {y : Addr} (F : Ary Z h a k ty n f) (O : Ovr Z k C) (I : Ins Z h y C true) : Sto Z h a (.ref y) := by obtain ⟨c, A, r, -⟩ := F; exact Sto.of A (r ▸ O) I
theorem Ary.full {L : List Value} {j : Nat} {L' : List Value} (F : Ary Z h a k ty n (upd (lst L w) j v)) (hj : j < L.length) (e : L.set j v = L') : Ary Z h a k ty n (lst L' w) := by rw [← upd_lst (d := w) hj e]; exact F
theorem Ary.stoA {C : String} {y : Addr} {t0 : FieldType} (F : Ary Z h a k ty n f) (O : OvrA Z k t0 C) (I : Ins Z h y C true) : Sto Z h a (.ref y) := by obtain ⟨c, A, r, -⟩ := F; exact Sto.ofVA A r O I
theorem old_le {n0 : Nat} (O : Old Z n0 h) : n0 ≤ h.size := O.1 ▸ O.2.1
theorem s_new (B : Ctx p s m meth c Z own nm bytes maxL ret) (X : Stand p l e R s m args below meth c T locs cells slots) {C : String} {i0 n0 : Nat} (eT : T.heap = h) (w : (Jvm.Cond.classLink own i0 C).before a0 Z = true) (wi : (Jvm.Cond.instantiable C n0).before a0 Z = true) (wz : (Jvm.Cond.initialized C).before a0 Z = true) (hc : cells + 1 ≤ R.cells) (hl : slots + n0 ≤ R.slots) (hd : decode bytes pc = .ok (.new i0, 3)) (hp : pc + 3 = pc') (k : ∀ T' h' a, a = h.size → Stand p l e R s m args below meth c T' locs (cells + 1) (slots + n0) → T'.heap = h' → Ext h h' → Exa Z h' a C → (∀ {O nm d : String} {ty : FieldType}, Laid Z a0 C O nm d → parseFieldDescriptor d = some ty → Fld Z h' a O nm d (defaultValue ty)) → Go p e below P (T'.setTop (mkF m pc' Ls (.ref a :: rest)))) : Go p e below P (T.setTop (mkF m pc Ls (rest))) := by
  subst hp
  obtain ⟨T', h', X', e', E, A, D, -, st⟩ := newO X B.1 B.2.2.2.2.2.2.2 B.2.2.2.1 w wi wz eT (g := mkF m pc Ls rest) rfl (hb B.2.1 hd) hc hl
  exact Go.on st (k T' h' _ rfl X' e' E A D)
theorem s_initO (B : Ctx p s m meth c Z own nm bytes maxL ret) (X : Stand p l e R s m args below meth c T locs cells slots) {i0 W : Nat} {a : Addr} (eT : T.heap = h) (w1 : (Jvm.Cond.methodLink own i0 Lib.objectInit).before a0 Z = true) (w2 : (Jvm.Cond.instanceMethod Lib.objectInit).before a0 Z = true) (w3 : (Jvm.Cond.code Lib.objectInit ⟨#[0xb1]⟩ 1 none).before a0 Z = true) (hW : (rest.map fun v => v.category).sum = W) (hf : 1 ≤ R.frames) (hl : W + 12 ≤ R.locals) (hsz : Ls.size = maxL) (hd : decode bytes pc = .ok (.invokespecial i0, 3)) (hp : pc + 3 = pc') (k : ∀ T', Stand p l e R s m args below meth c T' locs cells slots → T'.heap = h → Go p e below P (T'.setTop (mkF m pc' Ls (rest)))) : Go p e below P (T.setTop (mkF m pc Ls (.ref a :: rest))) := by
  subst hp
  obtain ⟨T', X', e', st⟩ := initO X B.1 B.2.2.2.2.2.2.2 B.2.2.2.1 w1 w2 w3 eT (g := mkF m pc Ls (.ref a :: rest)) rfl (by rw [B.2.2.1]; exact hsz) rfl (hb B.2.1 hd) hf (W := W) (by show 2 * 0 + _ ≤ _; rw [Nat.mul_zero, Nat.zero_add]; exact Nat.le_of_eq hW) hl
  exact Go.on st (k T' X' e')
theorem s_putF (B : Ctx p s m meth c Z own nm bytes maxL ret) (X : Stand p l e R s m args below meth c T locs cells slots) {i0 kk : Nat} {R0 O n d host C : String} {ty : FieldType} {a : Addr} {v old : Value} (eT : T.heap = h) (w : (Jvm.Cond.fieldLink own i0 R0 n d).before a0 Z = true ∨ (Jvm.Cond.fieldLinkNest own i0 R0 n d host).before a0 Z = true) (via : Via Z R0 O n d) (F : Fld Z h a O n d old) (E : Exa Z h a C) (L : (Jvm.Cond.lays C O n d).before a0 Z = true ∨ ((Jvm.Cond.laysFinal C O n d).before a0 Z = true ∧ own = O ∧ nm = "<init>")) (wi : (Jvm.Cond.instantiable C kk).before a0 Z = true) (hty : parseFieldDescriptor d = some ty) (hn : narrow ty v = v) (hf : fits ty v = true) (hd : decode bytes pc = .ok (.putfield i0, 3)) (hp : pc + 3 = pc') (k : ∀ T' h', Stand p l e R s m args below meth c T' (locs ++ [⟨a, Jvm.RoadKit.slotOf Z O n d⟩]) cells slots → T'.heap = h' → Wr h h' a (Jvm.RoadKit.slotOf Z O n d) v → Go p e below P (T'.setTop (mkF m pc' Ls (rest)))) : Go p e below P (T.setTop (mkF m pc Ls (v :: .ref a :: rest))) := by
  subst hp
  obtain ⟨T', h', X', e', W, st⟩ := putF X B.1 B.2.2.2.2.2.2.2 B.2.2.2.1 w via eT F E (L.imp id fun q => ⟨q.1, q.2.1, by rw [B.2.2.2.2.1]; exact q.2.2⟩) wi hty hn hf (g := mkF m pc Ls (v :: .ref a :: rest)) rfl rfl (hb B.2.1 hd)
  exact Go.on st (k T' h' X' e' W)
theorem s_putFN (B : Ctx p s m meth c Z own nm bytes maxL ret) (X : Stand p l e R s m args below meth c T locs cells slots) {i0 kk : Nat} {R0 O n d C : String} {ty : FieldType} {a : Addr} {v v' old : Value} (eT : T.heap = h) (w : (Jvm.Cond.fieldLink own i0 R0 n d).before a0 Z = true) (via : Via Z R0 O n d) (F : Fld Z h a O n d old) (E : Exa Z h a C) (L : (Jvm.Cond.lays C O n d).before a0 Z = true ∨ ((Jvm.Cond.laysFinal C O n d).before a0 Z = true ∧ own = O ∧ nm = "<init>")) (wi : (Jvm.Cond.instantiable C kk).before a0 Z = true) (hty : parseFieldDescriptor d = some ty) (hn : narrow ty v = v') (hf : fits ty v' = true) (hd : decode bytes pc = .ok (.putfield i0, 3)) (hp : pc + 3 = pc') (k : ∀ T' h', Stand p l e R s m args below meth c T' (locs ++ [⟨a, Jvm.RoadKit.slotOf Z O n d⟩]) cells slots → T'.heap = h' → Wr h h' a (Jvm.RoadKit.slotOf Z O n d) v' → Go p e below P (T'.setTop (mkF m pc' Ls (rest)))) : Go p e below P (T.setTop (mkF m pc Ls (v :: .ref a :: rest))) := by
  subst hp
  obtain ⟨T', h', X', e', W, st⟩ := putFN X B.1 B.2.2.2.2.2.2.2 B.2.2.2.1 w via eT F E (L.imp id fun q => ⟨q.1, q.2.1, by rw [B.2.2.2.2.1]; exact q.2.2⟩) wi hty hn hf (g := mkF m pc Ls (v :: .ref a :: rest)) rfl rfl (hb B.2.1 hd)
  exact Go.on st (k T' h' X' e' W)
theorem s_newP (B : Ctx p s m meth c Z own nm bytes maxL ret) (X : Stand p l e R s m args below meth c T locs cells slots) {aty : ArrayType} {x : Int32} {N : Nat} (eT : T.heap = h) (w : (Jvm.Cond.arrayClass (newarray.typeOf aty)).before a0 Z = true) (hn : ¬ x < 0) (hN : x.toNatClampNeg = N) {cap : Nat} (hcap : N ≤ cap) (hb8 : cap * 8 ≤ 536870912) (hc : cells + 1 ≤ R.cells) (hl : slots + cap ≤ R.slots) (hd : decode bytes pc = .ok (.newarray aty, 2)) (hp : pc + 2 = pc') (k : ∀ T' h' a kA, a = h.size → Stand p l e R s m args below meth c T' locs (cells + 1) (slots + cap) → T'.heap = h' → Ext h h' → Ary Z h' a kA (newarray.typeOf aty) N (fun _ => defaultValue (newarray.typeOf aty)) → Go p e below P (T'.setTop (mkF m pc' Ls (.ref a :: rest)))) : Go p e below P (T.setTop (mkF m pc Ls (.int x :: rest))) := by
  subst hp
  obtain ⟨T', h', cA, X', e', E, A, st⟩ := newP X B.1 B.2.2.2.2.2.2.2 w eT (g := mkF m pc Ls (.int x :: rest)) rfl (hb B.2.1 hd) rfl hn (cap := cap) (hN ▸ hcap) hb8 hc hl
  exact Go.on st (k T' h' _ cA rfl X' e' E (Ary.of_new A hn hN))
theorem s_newR (B : Ctx p s m meth c Z own nm bytes maxL ret) (X : Stand p l e R s m args below meth c T locs cells slots) {i0 : Nat} {C : String} {x : Int32} {N : Nat} (eT : T.heap = h) (w1 : (Jvm.Cond.classLink own i0 C).before a0 Z = true) (w2 : (Jvm.Cond.arrayOver (.object C)).before a0 Z = true) (hn : ¬ x < 0) (hN : x.toNatClampNeg = N) {cap : Nat} (hcap : N ≤ cap) (hb8 : cap * 8 ≤ 536870912) (hc : cells + 1 ≤ R.cells) (hl : slots + cap ≤ R.slots) (hd : decode bytes pc = .ok (.anewarray i0, 3)) (hp : pc + 3 = pc') (k : ∀ T' h' a kA, a = h.size → Stand p l e R s m args below meth c T' locs (cells + 1) (slots + cap) → T'.heap = h' → Ext h h' → Ary Z h' a kA (.object C) N (fun _ => .null) → Ovr Z kA C → Go p e below P (T'.setTop (mkF m pc' Ls (.ref a :: rest)))) : Go p e below P (T.setTop (mkF m pc Ls (.int x :: rest))) := by
  subst hp
  obtain ⟨T', h', cA, X', e', E, A, O, st⟩ := newR X B.1 B.2.2.2.2.2.2.2 B.2.2.2.1 w1 w2 eT (g := mkF m pc Ls (.int x :: rest)) rfl (hb B.2.1 hd) rfl hn (cap := cap) (hN ▸ hcap) hb8 hc hl
  exact Go.on st (k T' h' _ cA rfl X' e' E (Ary.of_new A hn hN) O)
theorem s_newRA (B : Ctx p s m meth c Z own nm bytes maxL ret) (X : Stand p l e R s m args below meth c T locs cells slots) {i0 : Nat} {C : String} {ty : FieldType} {x : Int32} {N : Nat} (eT : T.heap = h) (hC : (FieldType.array ty).toString = C) (w1 : (Jvm.Cond.classLink own i0 C).before a0 Z = true) (w2 : (Jvm.Cond.arrayOver (.array ty)).before a0 Z = true) (hn : ¬ x < 0) (hN : x.toNatClampNeg = N) {cap : Nat} (hcap : N ≤ cap) (hb8 : cap * 8 ≤ 536870912) (hc : cells + 1 ≤ R.cells) (hl : slots + cap ≤ R.slots) (hd : decode bytes pc = .ok (.anewarray i0, 3)) (hp : pc + 3 = pc') (k : ∀ T' h' a kA, a = h.size → Stand p l e R s m args below meth c T' locs (cells + 1) (slots + cap) → T'.heap = h' → Ext h h' → Ary Z h' a kA (.array ty) N (fun _ => .null) → OvrA Z kA ty C → Go p e below P (T'.setTop (mkF m pc' Ls (.ref a :: rest)))) : Go p e below P (T.setTop (mkF m pc Ls (.int x :: rest))) := by
  subst hp
  obtain ⟨T', h', cA, X', e', E, A, -, O, st⟩ := newRA X B.1 B.2.2.2.2.2.2.2 B.2.2.2.1 hC w1 w2 eT (g := mkF m pc Ls (.int x :: rest)) rfl (hb B.2.1 hd) rfl hn (cap := cap) (hN ▸ hcap) hb8 hc hl rfl
  exact Go.on st (k T' h' _ cA rfl X' e' E (Ary.of_new A hn hN) O)
theorem s_stI (B : Ctx p s m meth c Z own nm bytes maxL ret) (X : Stand p l e R s m args below meth c T locs cells slots) {a : Addr} {x : Int32} {j : Int32} {jn N : Nat} {f : Nat → Value} {kA : ClassId} (eT : T.heap = h) (A : Ary Z h a kA .int N f) (hj : ¬ j < 0) (hjn : j.toNatClampNeg = jn) (hlt : jn < N) (hd : decode bytes pc = .ok (.iastore, 1)) (hp : pc + 1 = pc') (k : ∀ T' h', Stand p l e R s m args below meth c T' (locs ++ [⟨a, jn⟩]) cells slots → T'.heap = h' → Wr h h' a jn (.int x) → Ary Z h' a kA .int N (upd f jn (.int x)) → Go p e below P (T'.setTop (mkF m pc' Ls (rest)))) : Go p e below P (T.setTop (mkF m pc Ls (.int x :: .int j :: .ref a :: rest))) := by
  subst hp
  subst hjn
  obtain ⟨cl, A1, q1, q2, q3, q4⟩ := id A
  obtain ⟨T', h', X', e', W, st⟩ := stI X B.1 B.2.2.2.2.2.2.2 eT A1 (j := j) (by rw [q2]; intro z; rcases z with z | z; exact hj z; omega) (g := mkF m pc Ls (.int x :: .int j :: .ref a :: rest)) rfl rfl (hb B.2.1 hd)
  exact Go.on st (k T' h' X' e' W (A.same W))
theorem s_stJ (B : Ctx p s m meth c Z own nm bytes maxL ret) (X : Stand p l e R s m args below meth c T locs cells slots) {a : Addr} {x : Int64} {j : Int32} {jn N : Nat} {f : Nat → Value} {kA : ClassId} (eT : T.heap = h) (A : Ary Z h a kA .long N f) (hj : ¬ j < 0) (hjn : j.toNatClampNeg = jn) (hlt : jn < N) (hd : decode bytes pc = .ok (.lastore, 1)) (hp : pc + 1 = pc') (k : ∀ T' h', Stand p l e R s m args below meth c T' (locs ++ [⟨a, jn⟩]) cells slots → T'.heap = h' → Wr h h' a jn (.long x) → Ary Z h' a kA .long N (upd f jn (.long x)) → Go p e below P (T'.setTop (mkF m pc' Ls (rest)))) : Go p e below P (T.setTop (mkF m pc Ls (.long x :: .int j :: .ref a :: rest))) := by
  subst hp
  subst hjn
  obtain ⟨cl, A1, q1, q2, q3, q4⟩ := id A
  obtain ⟨T', h', X', e', W, st⟩ := stJ X B.1 B.2.2.2.2.2.2.2 eT A1 (j := j) (by rw [q2]; intro z; rcases z with z | z; exact hj z; omega) (g := mkF m pc Ls (.long x :: .int j :: .ref a :: rest)) rfl rfl (hb B.2.1 hd)
  exact Go.on st (k T' h' X' e' W (A.same W))
theorem s_stB (B : Ctx p s m meth c Z own nm bytes maxL ret) (X : Stand p l e R s m args below meth c T locs cells slots) {a : Addr} {x : Int32} {j : Int32} {jn N : Nat} {f : Nat → Value} {kA : ClassId} (eT : T.heap = h) (A : Ary Z h a kA .byte N f) (hj : ¬ j < 0) (hjn : j.toNatClampNeg = jn) (hlt : jn < N) (hd : decode bytes pc = .ok (.bastore, 1)) (hp : pc + 1 = pc') (k : ∀ T' h', Stand p l e R s m args below meth c T' (locs ++ [⟨a, jn⟩]) cells slots → T'.heap = h' → Wr h h' a jn (.int (nar .byte x)) → Ary Z h' a kA .byte N (upd f jn (.int (nar .byte x))) → Go p e below P (T'.setTop (mkF m pc' Ls (rest)))) : Go p e below P (T.setTop (mkF m pc Ls (.int x :: .int j :: .ref a :: rest))) := by
  subst hp
  subst hjn
  obtain ⟨cl, A1, q1, q2, q3, q4⟩ := id A
  obtain ⟨T', h', X', e', W, st⟩ := stB X B.1 B.2.2.2.2.2.2.2 eT A1 (j := j) (by rw [q2]; intro z; rcases z with z | z; exact hj z; omega) (g := mkF m pc Ls (.int x :: .int j :: .ref a :: rest)) rfl rfl (hb B.2.1 hd)
  exact Go.on st (k T' h' X' e' W (A.same W))
theorem s_stZ (B : Ctx p s m meth c Z own nm bytes maxL ret) (X : Stand p l e R s m args below meth c T locs cells slots) {a : Addr} {x : Int32} {j : Int32} {jn N : Nat} {f : Nat → Value} {kA : ClassId} (eT : T.heap = h) (A : Ary Z h a kA .boolean N f) (hj : ¬ j < 0) (hjn : j.toNatClampNeg = jn) (hlt : jn < N) (hd : decode bytes pc = .ok (.bastore, 1)) (hp : pc + 1 = pc') (k : ∀ T' h', Stand p l e R s m args below meth c T' (locs ++ [⟨a, jn⟩]) cells slots → T'.heap = h' → Wr h h' a jn (.int (nar .boolean x)) → Ary Z h' a kA .boolean N (upd f jn (.int (nar .boolean x))) → Go p e below P (T'.setTop (mkF m pc' Ls (rest)))) : Go p e below P (T.setTop (mkF m pc Ls (.int x :: .int j :: .ref a :: rest))) := by
  subst hp
  subst hjn
  obtain ⟨cl, A1, q1, q2, q3, q4⟩ := id A
  obtain ⟨T', h', X', e', W, st⟩ := stZ X B.1 B.2.2.2.2.2.2.2 eT A1 (j := j) (by rw [q2]; intro z; rcases z with z | z; exact hj z; omega) (g := mkF m pc Ls (.int x :: .int j :: .ref a :: rest)) rfl rfl (hb B.2.1 hd)
  exact Go.on st (k T' h' X' e' W (A.same W))
theorem s_stC (B : Ctx p s m meth c Z own nm bytes maxL ret) (X : Stand p l e R s m args below meth c T locs cells slots) {a : Addr} {x : Int32} {j : Int32} {jn N : Nat} {f : Nat → Value} {kA : ClassId} (eT : T.heap = h) (A : Ary Z h a kA .char N f) (hj : ¬ j < 0) (hjn : j.toNatClampNeg = jn) (hlt : jn < N) (hd : decode bytes pc = .ok (.castore, 1)) (hp : pc + 1 = pc') (k : ∀ T' h', Stand p l e R s m args below meth c T' (locs ++ [⟨a, jn⟩]) cells slots → T'.heap = h' → Wr h h' a jn (.int (nar .char x)) → Ary Z h' a kA .char N (upd f jn (.int (nar .char x))) → Go p e below P (T'.setTop (mkF m pc' Ls (rest)))) : Go p e below P (T.setTop (mkF m pc Ls (.int x :: .int j :: .ref a :: rest))) := by
  subst hp
  subst hjn
  obtain ⟨cl, A1, q1, q2, q3, q4⟩ := id A
  obtain ⟨T', h', X', e', W, st⟩ := stC X B.1 B.2.2.2.2.2.2.2 eT A1 (j := j) (by rw [q2]; intro z; rcases z with z | z; exact hj z; omega) (g := mkF m pc Ls (.int x :: .int j :: .ref a :: rest)) rfl rfl (hb B.2.1 hd)
  exact Go.on st (k T' h' X' e' W (A.same W))
theorem s_stR (B : Ctx p s m meth c Z own nm bytes maxL ret) (X : Stand p l e R s m args below meth c T locs cells slots) {a : Addr} {v : Value} {ty : FieldType} {j : Int32} {jn N : Nat} {f : Nat → Value} {kA : ClassId} (eT : T.heap = h) (A : Ary Z h a kA ty N f) (hty : ty.isReference = true) (S : Sto Z h a v) (hj : ¬ j < 0) (hjn : j.toNatClampNeg = jn) (hlt : jn < N) (hd : decode bytes pc = .ok (.aastore, 1)) (hp : pc + 1 = pc') (k : ∀ T' h', Stand p l e R s m args below meth c T' (locs ++ [⟨a, jn⟩]) cells slots → T'.heap = h' → Wr h h' a jn v → Ary Z h' a kA ty N (upd f jn v) → Go p e below P (T'.setTop (mkF m pc' Ls (rest)))) : Go p e below P (T.setTop (mkF m pc Ls (v :: .int j :: .ref a :: rest))) := by
  subst hp
  subst hjn
  obtain ⟨cl, A1, q1, q2, q3, q4⟩ := id A
  obtain ⟨T', h', X', e', W, st⟩ := stR X B.1 B.2.2.2.2.2.2.2 eT A1 (j := j) (by rw [q2]; intro z; rcases z with z | z; exact hj z; omega) hty S (g := mkF m pc Ls (v :: .int j :: .ref a :: rest)) rfl rfl (hb B.2.1 hd)
  exact Go.on st (k T' h' X' e' W (A.same W))
theorem s_ldI (B : Ctx p s m meth c Z own nm bytes maxL ret) (X : Stand p l e R s m args below meth c T locs cells slots) {a : Addr} {v : Value} {j : Int32} {jn N : Nat} {f : Nat → Value} {kA : ClassId} (eT : T.heap = h) (A : Ary Z h a kA .int N f) (hj : ¬ j < 0) (hjn : j.toNatClampNeg = jn) (hlt : jn < N) (hv : f jn = v) (hd : decode bytes pc = .ok (.iaload, 1)) (hp : pc + 1 = pc') (k : Go p e below P (T.setTop (mkF m pc' Ls (v :: rest)))) : Go p e below P (T.setTop (mkF m pc Ls (.int j :: .ref a :: rest))) := by
  subst hp hjn hv
  obtain ⟨cl, A1, q1, q2, q3, q4⟩ := A
  exact Go.on (X.iaload B.1 (j := j) (by rw [eT]; exact A1.1) (State.isArrayOf_alike B.2.2.2.2.2.2.2.alike A1.2.1) A1.2.2 (by rw [q2]; intro z; rcases z with z | z; exact hj z; omega) (q4 _ hlt) (g := mkF m pc Ls (.int j :: .ref a :: rest)) rfl rfl (hb B.2.1 hd)) k
theorem s_ldJ (B : Ctx p s m meth c Z own nm bytes maxL ret) (X : Stand p l e R s m args below meth c T locs cells slots) {a : Addr} {v : Value} {j : Int32} {jn N : Nat} {f : Nat → Value} {kA : ClassId} (eT : T.heap = h) (A : Ary Z h a kA .long N f) (hj : ¬ j < 0) (hjn : j.toNatClampNeg = jn) (hlt : jn < N) (hv : f jn = v) (hd : decode bytes pc = .ok (.laload, 1)) (hp : pc + 1 = pc') (k : Go p e below P (T.setTop (mkF m pc' Ls (v :: rest)))) : Go p e below P (T.setTop (mkF m pc Ls (.int j :: .ref a :: rest))) := by
  subst hp hjn hv
  obtain ⟨cl, A1, q1, q2, q3, q4⟩ := A
  exact Go.on (X.laload B.1 (j := j) (by rw [eT]; exact A1.1) (State.isArrayOf_alike B.2.2.2.2.2.2.2.alike A1.2.1) A1.2.2 (by rw [q2]; intro z; rcases z with z | z; exact hj z; omega) (q4 _ hlt) (g := mkF m pc Ls (.int j :: .ref a :: rest)) rfl rfl (hb B.2.1 hd)) k
theorem s_ldB (B : Ctx p s m meth c Z own nm bytes maxL ret) (X : Stand p l e R s m args below meth c T locs cells slots) {a : Addr} {v : Value} {j : Int32} {jn N : Nat} {f : Nat → Value} {kA : ClassId} (eT : T.heap = h) (A : Ary Z h a kA .byte N f) (hj : ¬ j < 0) (hjn : j.toNatClampNeg = jn) (hlt : jn < N) (hv : f jn = v) (hd : decode bytes pc = .ok (.baload, 1)) (hp : pc + 1 = pc') (k : Go p e below P (T.setTop (mkF m pc' Ls (v :: rest)))) : Go p e below P (T.setTop (mkF m pc Ls (.int j :: .ref a :: rest))) := by
  subst hp hjn hv
  obtain ⟨cl, A1, q1, q2, q3, q4⟩ := A
  exact Go.on (X.baloadBytes B.1 (j := j) (by rw [eT]; exact A1.1) (State.isArrayOf_alike B.2.2.2.2.2.2.2.alike A1.2.1) A1.2.2 (by rw [q2]; intro z; rcases z with z | z; exact hj z; omega) (q4 _ hlt) (g := mkF m pc Ls (.int j :: .ref a :: rest)) rfl rfl (hb B.2.1 hd)) k
theorem s_ldZ (B : Ctx p s m meth c Z own nm bytes maxL ret) (X : Stand p l e R s m args below meth c T locs cells slots) {a : Addr} {v : Value} {j : Int32} {jn N : Nat} {f : Nat → Value} {kA : ClassId} (eT : T.heap = h) (A : Ary Z h a kA .boolean N f) (hj : ¬ j < 0) (hjn : j.toNatClampNeg = jn) (hlt : jn < N) (hv : f jn = v) (hd : decode bytes pc = .ok (.baload, 1)) (hp : pc + 1 = pc') (k : Go p e below P (T.setTop (mkF m pc' Ls (v :: rest)))) : Go p e below P (T.setTop (mkF m pc Ls (.int j :: .ref a :: rest))) := by
  subst hp hjn hv
  obtain ⟨cl, A1, q1, q2, q3, q4⟩ := A
  exact Go.on (X.baloadBooleans B.1 (j := j) (by rw [eT]; exact A1.1) (State.isArrayOf_alike B.2.2.2.2.2.2.2.alike A1.2.1) A1.2.2 (by rw [q2]; intro z; rcases z with z | z; exact hj z; omega) (q4 _ hlt) (g := mkF m pc Ls (.int j :: .ref a :: rest)) rfl rfl (hb B.2.1 hd)) k
theorem s_ldC (B : Ctx p s m meth c Z own nm bytes maxL ret) (X : Stand p l e R s m args below meth c T locs cells slots) {a : Addr} {v : Value} {j : Int32} {jn N : Nat} {f : Nat → Value} {kA : ClassId} (eT : T.heap = h) (A : Ary Z h a kA .char N f) (hj : ¬ j < 0) (hjn : j.toNatClampNeg = jn) (hlt : jn < N) (hv : f jn = v) (hd : decode bytes pc = .ok (.caload, 1)) (hp : pc + 1 = pc') (k : Go p e below P (T.setTop (mkF m pc' Ls (v :: rest)))) : Go p e below P (T.setTop (mkF m pc Ls (.int j :: .ref a :: rest))) := by
  subst hp hjn hv
  obtain ⟨cl, A1, q1, q2, q3, q4⟩ := A
  exact Go.on (X.caload B.1 (j := j) (by rw [eT]; exact A1.1) (State.isArrayOf_alike B.2.2.2.2.2.2.2.alike A1.2.1) A1.2.2 (by rw [q2]; intro z; rcases z with z | z; exact hj z; omega) (q4 _ hlt) (g := mkF m pc Ls (.int j :: .ref a :: rest)) rfl rfl (hb B.2.1 hd)) k
theorem s_ldR (B : Ctx p s m meth c Z own nm bytes maxL ret) (X : Stand p l e R s m args below meth c T locs cells slots) {a : Addr} {v : Value} {ty : FieldType} {j : Int32} {jn N : Nat} {f : Nat → Value} {kA : ClassId} (eT : T.heap = h) (A : Ary Z h a kA ty N f) (hty : ty.isReference = true) (hj : ¬ j < 0) (hjn : j.toNatClampNeg = jn) (hlt : jn < N) (hv : f jn = v) (hd : decode bytes pc = .ok (.aaload, 1)) (hp : pc + 1 = pc') (k : Go p e below P (T.setTop (mkF m pc' Ls (v :: rest)))) : Go p e below P (T.setTop (mkF m pc Ls (.int j :: .ref a :: rest))) := by
  subst hp hjn hv
  obtain ⟨cl, A1, q1, q2, q3, q4⟩ := A
  exact Go.on (X.aaload B.1 (j := j) (by rw [eT]; exact A1.1) (State.isArrayOf_alike B.2.2.2.2.2.2.2.alike A1.2.1) hty A1.2.2 (by rw [q2]; intro z; rcases z with z | z; exact hj z; omega) (q4 _ hlt) (g := mkF m pc Ls (.int j :: .ref a :: rest)) rfl rfl (hb B.2.1 hd)) k
theorem s_len (B : Ctx p s m meth c Z own nm bytes maxL ret) (X : Stand p l e R s m args below meth c T locs cells slots) {a : Addr} {v : Int32} {ty : FieldType} {N : Nat} {f : Nat → Value} {kA : ClassId} (eT : T.heap = h) (A : Ary Z h a kA ty N f) (hv : N.toInt32 = v) (hd : decode bytes pc = .ok (.arraylength, 1)) (hp : pc + 1 = pc') (k : Go p e below P (T.setTop (mkF m pc' Ls (.int v :: rest)))) : Go p e below P (T.setTop (mkF m pc Ls (.ref a :: rest))) := by
  subst hp hv
  obtain ⟨cl, A1, q1, q2, q3, q4⟩ := A
  subst q2
  exact Go.on (X.arraylength B.1 (by rw [eT]; exact A1.1) (State.isArrayOf_alike B.2.2.2.2.2.2.2.alike A1.2.1) (g := mkF m pc Ls (.ref a :: rest)) rfl rfl (hb B.2.1 hd)) k
theorem s_castY (B : Ctx p s m meth c Z own nm bytes maxL ret) (X : Stand p l e R s m args below meth c T locs cells slots) {i0 : Nat} {K : String} {a : Addr} (eT : T.heap = h) (w : (Jvm.Cond.classLink own i0 K).before a0 Z = true) (F : Ins Z h a K true) (hd : decode bytes pc = .ok (.checkcast i0, 3)) (hp : pc + 3 = pc') (k : ∀ T', Stand p l e R s m args below meth c T' locs cells slots → T'.heap = h → Go p e below P (T'.setTop (mkF m pc' Ls (.ref a :: rest)))) : Go p e below P (T.setTop (mkF m pc Ls (.ref a :: rest))) := by
  subst hp
  obtain ⟨T', X', e', st⟩ := castY X B.1 B.2.2.2.2.2.2.2 B.2.2.2.1 w eT F (g := mkF m pc Ls (.ref a :: rest)) rfl rfl (hb B.2.1 hd)
  exact Go.on st (k T' X' e')
theorem s_instY (B : Ctx p s m meth c Z own nm bytes maxL ret) (X : Stand p l e R s m args below meth c T locs cells slots) {i0 : Nat} {K : String} {a : Addr} (eT : T.heap = h) (w : (Jvm.Cond.classLink own i0 K).before a0 Z = true) (F : Ins Z h a K true) (hd : decode bytes pc = .ok (.instanceof i0, 3)) (hp : pc + 3 = pc') (k : ∀ T', Stand p l e R s m args below meth c T' locs cells slots → T'.heap = h → Go p e below P (T'.setTop (mkF m pc' Ls (.int 1 :: rest)))) : Go p e below P (T.setTop (mkF m pc Ls (.ref a :: rest))) := by
  subst hp
  obtain ⟨T', X', e', st⟩ := instY X B.1 B.2.2.2.2.2.2.2 B.2.2.2.1 w eT F (g := mkF m pc Ls (.ref a :: rest)) rfl rfl (hb B.2.1 hd)
  exact Go.on st (k T' X' e')
theorem s_tswIn (B : Ctx p s m meth c Z own nm bytes maxL ret) (X : Stand p l e R s m args below meth c T locs cells slots) {df lo hi : Int} {offs : Array Int} {len : Nat} {o : Int} {x : Int32} (hd : decode bytes pc = .ok (.tableswitch df lo hi offs, len)) (hin : ¬ (x.toInt < lo ∨ x.toInt > hi)) (hoff : offs[(x.toInt - lo).toNat]? = some o) (ho : 0 ≤ (pc : Int) + o) (hp : ((pc : Int) + o).toNat = pc') (k : Go p e below P (T.setTop (mkF m pc' Ls (rest)))) : Go p e below P (T.setTop (mkF m pc Ls (.int x :: rest))) := Go.on (fun t => XS.tswIn (g := mkF m pc Ls (.int x :: rest)) X.here B.1 rfl (pc0 := pc) rfl (hb B.2.1 hd) (i := x) (rest := rest) rfl hin hoff ho hp) k
theorem s_tswOut (B : Ctx p s m meth c Z own nm bytes maxL ret) (X : Stand p l e R s m args below meth c T locs cells slots) {df lo hi : Int} {offs : Array Int} {len : Nat} {x : Int32} (hd : decode bytes pc = .ok (.tableswitch df lo hi offs, len)) (hout : x.toInt < lo ∨ x.toInt > hi) (ho : 0 ≤ (pc : Int) + df) (hp : ((pc : Int) + df).toNat = pc') (k : Go p e below P (T.setTop (mkF m pc' Ls (rest)))) : Go p e below P (T.setTop (mkF m pc Ls (.int x :: rest))) := Go.on (fun t => XS.tswOut (g := mkF m pc Ls (.int x :: rest)) X.here B.1 rfl (pc0 := pc) rfl (hb B.2.1 hd) (i := x) (rest := rest) rfl hout ho hp) k
end Heap
end Jvm.OwnKit

namespace Jvm.OwnKit
open Sem ClassFile Op Lib Jvm.Stand Jvm.Free Jvm.LawKit Jvm.RoadKit
section Start
variable {args : Array Value} {s : State} {t u : Term}
theorem eqI_v {k : Int32} (h : (Jvm.Cond.eq t (.int k)).value args s none s [] = some true) : t.eval args s none [] s = some (.int k) := by
  cases ht : t.eval args s none [] s with
  | none => simp [Cond.value, ht] at h
  | some x => cases x <;> simp [Cond.value, ht, Term.eval] at h ⊢; exact h
theorem eqJ_v {k : Int64} (h : (Jvm.Cond.eq t (.long k)).value args s none s [] = some true) : t.eval args s none [] s = some (.long k) := by
  cases ht : t.eval args s none [] s with
  | none => simp [Cond.value, ht] at h
  | some x => cases x <;> simp [Cond.value, ht, Term.eval] at h ⊢; exact h
theorem eqR_v {a : Addr} (hu : u.eval args s none [] s = some (.ref a)) (h : (Jvm.Cond.eq t u).value args s none s [] = some true) : t.eval args s none [] s = some (.ref a) := by
  cases ht : t.eval args s none [] s with
  | none => simp [Cond.value, ht] at h
  | some x => cases x <;> simp [Cond.value, ht, hu] at h ⊢; exact h
end Start
end Jvm.OwnKit

namespace Jvm.Pilot.@@N@@
open Jvm Jvm.ClassFile Sem Op Lib Jvm.Free Jvm.Stand Jvm.LawKit Jvm.RoadKit Jvm.OwnKit Bundle Jvm.Pilot.@@N@@.Jvm.D
theorem tw0 {Z : State} {a0 : Array Value} (hw : ∀ d ∈ tables_1, d.before a0 Z = true) : (Jvm.Cond.arrayClass Jvm.ClassFile.FieldType.int).before a0 Z = true := hw _ (List.mem_of_getElem? (i := 0) rfl)
theorem tw1 {Z : State} {a0 : Array Value} (hw : ∀ d ∈ tables_1, d.before a0 Z = true) : (Jvm.Cond.methodLink "com/example/isolation/isolation/LockModeConflictsWithPinLaw" (22 : Nat) ({ cls := "com/example/isolation/isolation/LockModeConflictsWithPinLaw", name := "mode", desc := "(I)Lcom/example/isolation/isolation/LockMode;" } : Jvm.MethodName)).before a0 Z = true := hw _ (List.mem_of_getElem? (i := 1) rfl)
theorem tw2 {Z : State} {a0 : Array Value} (hw : ∀ d ∈ tables_1, d.before a0 Z = true) : (Jvm.Cond.static ({ cls := "com/example/isolation/isolation/LockModeConflictsWithPinLaw", name := "mode", desc := "(I)Lcom/example/isolation/isolation/LockMode;" } : Jvm.MethodName)).before a0 Z = true := hw _ (List.mem_of_getElem? (i := 2) rfl)
theorem tw3 {Z : State} {a0 : Array Value} (hw : ∀ d ∈ tables_1, d.before a0 Z = true) : (Jvm.Cond.initialized "com/example/isolation/isolation/LockModeConflictsWithPinLaw").before a0 Z = true := hw _ (List.mem_of_getElem? (i := 3) rfl)
theorem tw4 {Z : State} {a0 : Array Value} (hw : ∀ d ∈ tables_1, d.before a0 Z = true) : (Jvm.Cond.code ({ cls := "com/example/isolation/isolation/LockModeConflictsWithPinLaw", name := "mode", desc := "(I)Lcom/example/isolation/isolation/LockMode;" } : Jvm.MethodName) method_2_code (1 : Nat) (Option.some (Jvm.ClassFile.FieldType.object "com/example/isolation/isolation/LockMode"))).before a0 Z = true := hw _ (List.mem_of_getElem? (i := 4) rfl)
theorem tw5 {Z : State} {a0 : Array Value} (hw : ∀ d ∈ tables_1, d.before a0 Z = true) : (Jvm.Cond.fieldLink "com/example/isolation/isolation/LockModeConflictsWithPinLaw" (7 : Nat) "com/example/isolation/isolation/LockMode" "SHARED" "Lcom/example/isolation/isolation/LockMode;").before a0 Z = true := hw _ (List.mem_of_getElem? (i := 5) rfl)
theorem tw6 {Z : State} {a0 : Array Value} (hw : ∀ d ∈ tables_1, d.before a0 Z = true) : (Jvm.Cond.initialized "com/example/isolation/isolation/LockMode").before a0 Z = true := hw _ (List.mem_of_getElem? (i := 6) rfl)
theorem tw7 {Z : State} {a0 : Array Value} (hw : ∀ d ∈ tables_1, d.before a0 Z = true) : (Jvm.Cond.laysStatic "com/example/isolation/isolation/LockMode" "SHARED" "Lcom/example/isolation/isolation/LockMode;").before a0 Z = true := hw _ (List.mem_of_getElem? (i := 7) rfl)
theorem tw8 {Z : State} {a0 : Array Value} (hw : ∀ d ∈ tables_1, d.before a0 Z = true) : (Jvm.Cond.fieldLink "com/example/isolation/isolation/LockModeConflictsWithPinLaw" (19 : Nat) "com/example/isolation/isolation/LockMode" "WRITE" "Lcom/example/isolation/isolation/LockMode;").before a0 Z = true := hw _ (List.mem_of_getElem? (i := 8) rfl)
theorem tw9 {Z : State} {a0 : Array Value} (hw : ∀ d ∈ tables_1, d.before a0 Z = true) : (Jvm.Cond.laysStatic "com/example/isolation/isolation/LockMode" "WRITE" "Lcom/example/isolation/isolation/LockMode;").before a0 Z = true := hw _ (List.mem_of_getElem? (i := 9) rfl)
theorem tw10 {Z : State} {a0 : Array Value} (hw : ∀ d ∈ tables_1, d.before a0 Z = true) : (Jvm.Cond.methodLink "com/example/isolation/isolation/LockModeConflictsWithPinLaw" (28 : Nat) ({ cls := "com/example/isolation/isolation/LockMode", name := "conflictsWith", desc := "(Lcom/example/isolation/isolation/LockMode;)Z" } : Jvm.MethodName)).before a0 Z = true := hw _ (List.mem_of_getElem? (i := 10) rfl)
theorem tw11 {Z : State} {a0 : Array Value} (hw : ∀ d ∈ tables_1, d.before a0 Z = true) : (Jvm.Cond.declares ({ cls := "com/example/isolation/isolation/LockMode", name := "conflictsWith", desc := "(Lcom/example/isolation/isolation/LockMode;)Z" } : Jvm.MethodName)).before a0 Z = true := hw _ (List.mem_of_getElem? (i := 11) rfl)
theorem tw12 {Z : State} {a0 : Array Value} (hw : ∀ d ∈ tables_1, d.before a0 Z = true) : (Jvm.Cond.instanceMethod ({ cls := "com/example/isolation/isolation/LockMode", name := "conflictsWith", desc := "(Lcom/example/isolation/isolation/LockMode;)Z" } : Jvm.MethodName)).before a0 Z = true := hw _ (List.mem_of_getElem? (i := 12) rfl)
theorem tw13 {Z : State} {a0 : Array Value} (hw : ∀ d ∈ tables_1, d.before a0 Z = true) : (Jvm.Cond.selects "com/example/isolation/isolation/LockMode" ({ cls := "com/example/isolation/isolation/LockMode", name := "conflictsWith", desc := "(Lcom/example/isolation/isolation/LockMode;)Z" } : Jvm.MethodName) ({ cls := "com/example/isolation/isolation/LockMode", name := "conflictsWith", desc := "(Lcom/example/isolation/isolation/LockMode;)Z" } : Jvm.MethodName)).before a0 Z = true := hw _ (List.mem_of_getElem? (i := 13) rfl)
theorem tw14 {Z : State} {a0 : Array Value} (hw : ∀ d ∈ tables_1, d.before a0 Z = true) : (Jvm.Cond.code ({ cls := "com/example/isolation/isolation/LockMode", name := "conflictsWith", desc := "(Lcom/example/isolation/isolation/LockMode;)Z" } : Jvm.MethodName) prog_29_method_4_code (3 : Nat) (Option.some Jvm.ClassFile.FieldType.boolean)).before a0 Z = true := hw _ (List.mem_of_getElem? (i := 14) rfl)
theorem tw15 {Z : State} {a0 : Array Value} (hw : ∀ d ∈ tables_1, d.before a0 Z = true) : (Jvm.Cond.fieldLink "com/example/isolation/isolation/LockMode" (13 : Nat) "com/example/isolation/isolation/LockMode" "WRITE" "Lcom/example/isolation/isolation/LockMode;").before a0 Z = true := hw _ (List.mem_of_getElem? (i := 15) rfl)
theorem tw16 {Z : State} {a0 : Array Value} (hw : ∀ d ∈ tables_1, d.before a0 Z = true) : (Jvm.Cond.fieldLink "com/example/isolation/isolation/LockModeConflictsWithPinLaw" (16 : Nat) "com/example/isolation/isolation/LockMode" "MEMBERSHIP" "Lcom/example/isolation/isolation/LockMode;").before a0 Z = true := hw _ (List.mem_of_getElem? (i := 16) rfl)
theorem tw17 {Z : State} {a0 : Array Value} (hw : ∀ d ∈ tables_1, d.before a0 Z = true) : (Jvm.Cond.laysStatic "com/example/isolation/isolation/LockMode" "MEMBERSHIP" "Lcom/example/isolation/isolation/LockMode;").before a0 Z = true := hw _ (List.mem_of_getElem? (i := 17) rfl)
theorem tw18 {Z : State} {a0 : Array Value} (hw : ∀ d ∈ tables_1, d.before a0 Z = true) : (Jvm.Cond.fieldLink "com/example/isolation/isolation/LockModeConflictsWithPinLaw" (13 : Nat) "com/example/isolation/isolation/LockMode" "READ" "Lcom/example/isolation/isolation/LockMode;").before a0 Z = true := hw _ (List.mem_of_getElem? (i := 18) rfl)
theorem tw19 {Z : State} {a0 : Array Value} (hw : ∀ d ∈ tables_1, d.before a0 Z = true) : (Jvm.Cond.laysStatic "com/example/isolation/isolation/LockMode" "READ" "Lcom/example/isolation/isolation/LockMode;").before a0 Z = true := hw _ (List.mem_of_getElem? (i := 19) rfl)
theorem tw20 {Z : State} {a0 : Array Value} (hw : ∀ d ∈ tables_1, d.before a0 Z = true) : (Jvm.Cond.fieldLink "com/example/isolation/isolation/LockMode" (3 : Nat) "com/example/isolation/isolation/LockMode" "SHARED" "Lcom/example/isolation/isolation/LockMode;").before a0 Z = true := hw _ (List.mem_of_getElem? (i := 20) rfl)
abbrev mn0 : MethodName := ⟨"com/example/isolation/isolation/LockModeConflictsWithPinLaw", "mode", "(I)Lcom/example/isolation/isolation/LockMode;"⟩
abbrev mn1 : MethodName := ⟨"com/example/isolation/isolation/LockMode", "conflictsWith", "(Lcom/example/isolation/isolation/LockMode;)Z"⟩
theorem pd_1 : parseMethodDescriptor "(Lcom/example/isolation/isolation/LockMode;)Z" = some ⟨[(.object "com/example/isolation/isolation/LockMode")], some .boolean⟩ := by decide +kernel
theorem pd_0 : parseMethodDescriptor "(I)Lcom/example/isolation/isolation/LockMode;" = some ⟨[.int], some (.object "com/example/isolation/isolation/LockMode")⟩ := by decide +kernel
def OwnF (Z : State) (h : Heap) (w_SHARED w_WRITE w_MEMBERSHIP w_READ : Addr) : Prop := Sta Z h "com/example/isolation/isolation/LockMode" "SHARED" "Lcom/example/isolation/isolation/LockMode;" (.ref w_SHARED) ∧
  Exa Z h w_SHARED "com/example/isolation/isolation/LockMode" ∧
  Sta Z h "com/example/isolation/isolation/LockMode" "WRITE" "Lcom/example/isolation/isolation/LockMode;" (.ref w_WRITE) ∧
  Exa Z h w_WRITE "com/example/isolation/isolation/LockMode" ∧
  Sta Z h "com/example/isolation/isolation/LockMode" "MEMBERSHIP" "Lcom/example/isolation/isolation/LockMode;" (.ref w_MEMBERSHIP) ∧
  Exa Z h w_MEMBERSHIP "com/example/isolation/isolation/LockMode" ∧
  Sta Z h "com/example/isolation/isolation/LockMode" "READ" "Lcom/example/isolation/isolation/LockMode;" (.ref w_READ) ∧
  Exa Z h w_READ "com/example/isolation/isolation/LockMode" ∧
  Fld Z h w_SHARED "java/lang/Enum" "ordinal" "I" (.int (0 : Int32)) ∧
  Fld Z h w_WRITE "java/lang/Enum" "ordinal" "I" (.int (3 : Int32)) ∧
  Fld Z h w_MEMBERSHIP "java/lang/Enum" "ordinal" "I" (.int (2 : Int32)) ∧
  Fld Z h w_READ "java/lang/Enum" "ordinal" "I" (.int (1 : Int32))
theorem OwnF.ext {Z : State} {h h' : Heap} {w_SHARED w_WRITE w_MEMBERSHIP w_READ : Addr} (E : Ext h h') (F : OwnF Z h w_SHARED w_WRITE w_MEMBERSHIP w_READ) : OwnF Z h' w_SHARED w_WRITE w_MEMBERSHIP w_READ := by
  obtain ⟨S_SHARED, E_SHARED, S_WRITE, E_WRITE, S_MEMBERSHIP, E_MEMBERSHIP, S_READ, E_READ, F_SHARED_ordinal, F_WRITE_ordinal, F_MEMBERSHIP_ordinal, F_READ_ordinal⟩ := F
  exact ⟨S_SHARED.ext E, E_SHARED.ext E, S_WRITE.ext E, E_WRITE.ext E, S_MEMBERSHIP.ext E, E_MEMBERSHIP.ext E, S_READ.ext E, E_READ.ext E, F_SHARED_ordinal.ext E, F_WRITE_ordinal.ext E, F_MEMBERSHIP_ordinal.ext E, F_READ_ordinal.ext E⟩
theorem own_rng4 {v : Int32} (h0 : 0 ≤ v.toInt) (h1 : v.toInt < 4) : v = 0 ∨ v = 1 ∨ v = 2 ∨ v = 3 := by
  rcases (by omega : v.toInt = 0 ∨ v.toInt = 1 ∨ v.toInt = 2 ∨ v.toInt = 3) with h | h | h | h
  · exact Or.inl (Int32.toInt_inj.mp (h.trans (by decide)))
  · exact Or.inr (Or.inl (Int32.toInt_inj.mp (h.trans (by decide))))
  · exact Or.inr (Or.inr (Or.inl (Int32.toInt_inj.mp (h.trans (by decide)))))
  · exact Or.inr (Or.inr (Or.inr ((Int32.toInt_inj.mp (h.trans (by decide))))))
theorem own_and3 (x : Int32) : x &&& 3 = 0 ∨ x &&& 3 = 1 ∨ x &&& 3 = 2 ∨ x &&& 3 = 3 := by
  have e := c_mask x 3 2 (by decide) (by decide)
  exact own_rng4 (by rw [e]; omega) (by rw [e]; omega)
theorem own_rep_aux {d : Value} : ∀ (N i : Nat), i < N → (List.replicate N d).getD i d = d := fun N i hi => by simp [List.getD_eq_getElem?_getD, List.getElem?_replicate, hi]
theorem own_rep {d : Value} (N : Nat) : ∀ i, i < N → (fun _ : Nat => d) i = lst (List.replicate N d) d i := fun i hi => (own_rep_aux N i hi).symm
theorem d1_0 : decode method_2_code 0 = .ok (.iload_n 0, 1) := by decide +kernel
theorem d1_1 : decode method_2_code 1 = .ok (.ifCond .ne 7, 3) := by decide +kernel
theorem d1_4 : decode method_2_code 4 = .ok (.getstatic 7, 3) := by decide +kernel
theorem d1_7 : decode method_2_code 7 = .ok (.areturn, 1) := by decide +kernel
theorem pn_rm1_0 : plainName "com/example/isolation/isolation/LockModeConflictsWithPinLaw" = true := by first | (simp [plainName, overriddenIn]; done) | decide +kernel
set_option maxRecDepth 65536 in
set_option maxHeartbeats 40000000 in
theorem rm1_0 (l : Launch) (Z : State) (a0 : Array Value) (hw : ∀ d ∈ tables_1, d.before a0 Z = true)  (w_SHARED w_WRITE w_MEMBERSHIP w_READ : Addr) (h0 : Heap) (F0 : OwnF Z h0 w_SHARED w_WRITE w_MEMBERSHIP w_READ)  :
    OMeets l Z mn0 method_2_code 1 (some (.object "com/example/isolation/isolation/LockMode")) [] ({ frames := 0, cells := 0, slots := 0, locals := 0 } : Room) #[(.int (0 : Int32))] h0 (PureQ (some (.ref w_SHARED)) h0) := by
  refine OMeets.of pn_rm1_0 #[.val (.int (0 : Int32))] (fun m => by first | rfl | (simp [entryFrame, mkF, argsToLocals, Value.category, maxLocals]; done)) ?_
  intro p e s m below meth c s₁ B X0 e0
  have F := F0
  obtain ⟨S_SHARED, E_SHARED, S_WRITE, E_WRITE, S_MEMBERSHIP, E_MEMBERSHIP, S_READ, E_READ, F_SHARED_ordinal, F_WRITE_ordinal, F_MEMBERSHIP_ordinal, F_READ_ordinal⟩ := F
  refine s_iloadN B X0 (pc' := 1) d1_0 rfl rfl ?_
  refine s_ifN B X0 (pc' := 4) d1_1 (by decide) rfl ?_
  refine s_getS B X0 (pc' := 7) e0 (tw5 hw) Via.refl S_SHARED d1_4 rfl (fun T1 X1 e1 => ?_)
  exact r_ref B X1 (t := (.object "com/example/isolation/isolation/LockMode")) rfl rfl rfl rfl d1_7 ⟨rfl, rfl, e1⟩ (by decide) (by decide)
theorem own_ne_w_SHARED_w_WRITE {Z : State} {h : Heap} {w_SHARED w_WRITE w_MEMBERSHIP w_READ : Addr} (F : OwnF Z h w_SHARED w_WRITE w_MEMBERSHIP w_READ) : ¬ w_SHARED = w_WRITE := by
  obtain ⟨S_SHARED, E_SHARED, S_WRITE, E_WRITE, S_MEMBERSHIP, E_MEMBERSHIP, S_READ, E_READ, F_SHARED_ordinal, F_WRITE_ordinal, F_MEMBERSHIP_ordinal, F_READ_ordinal⟩ := F
  exact F_SHARED_ordinal.ne F_WRITE_ordinal (by decide)
theorem d2_0 : decode prog_29_method_4_code 0 = .ok (.aload_n 0, 1) := by decide +kernel
theorem d2_1 : decode prog_29_method_4_code 1 = .ok (.getstatic 13, 3) := by decide +kernel
theorem d2_4 : decode prog_29_method_4_code 4 = .ok (.if_acmp .eq 10, 3) := by decide +kernel
theorem d2_7 : decode prog_29_method_4_code 7 = .ok (.aload_n 1, 1) := by decide +kernel
theorem d2_8 : decode prog_29_method_4_code 8 = .ok (.getstatic 13, 3) := by decide +kernel
theorem d2_11 : decode prog_29_method_4_code 11 = .ok (.if_acmp .ne 8, 3) := by decide +kernel
theorem d2_19 : decode prog_29_method_4_code 19 = .ok (.aload_n 0, 1) := by decide +kernel
theorem d2_20 : decode prog_29_method_4_code 20 = .ok (.getstatic 3, 3) := by decide +kernel
theorem d2_23 : decode prog_29_method_4_code 23 = .ok (.if_acmp .eq 10, 3) := by decide +kernel
theorem d2_33 : decode prog_29_method_4_code 33 = .ok (.iconst 0, 1) := by decide +kernel
theorem d2_34 : decode prog_29_method_4_code 34 = .ok (.istore_n 2, 1) := by decide +kernel
theorem d2_35 : decode prog_29_method_4_code 35 = .ok (.goto 14, 3) := by decide +kernel
theorem d2_49 : decode prog_29_method_4_code 49 = .ok (.iload_n 2, 1) := by decide +kernel
theorem d2_50 : decode prog_29_method_4_code 50 = .ok (.ireturn, 1) := by decide +kernel
theorem pn_rm2_1 : plainName "com/example/isolation/isolation/LockMode" = true := by first | (simp [plainName, overriddenIn]; done) | decide +kernel
set_option maxRecDepth 65536 in
set_option maxHeartbeats 40000000 in
theorem rm2_1 (l : Launch) (Z : State) (a0 : Array Value) (hw : ∀ d ∈ tables_1, d.before a0 Z = true)  (w_SHARED w_WRITE w_MEMBERSHIP w_READ : Addr) (h0 : Heap) (F0 : OwnF Z h0 w_SHARED w_WRITE w_MEMBERSHIP w_READ)  :
    OMeets l Z mn1 prog_29_method_4_code 3 (some .boolean) [] ({ frames := 0, cells := 0, slots := 0, locals := 0 } : Room) #[(.ref w_SHARED), (.ref w_SHARED)] h0 (PureQ (some (.int (0 : Int32))) h0) := by
  refine OMeets.of pn_rm2_1 #[.val (.ref w_SHARED), .val (.ref w_SHARED), .unset] (fun m => by first | rfl | (simp [entryFrame, mkF, argsToLocals, Value.category, maxLocals]; done)) ?_
  intro p e s m below meth c s₁ B X0 e0
  have F := F0
  obtain ⟨S_SHARED, E_SHARED, S_WRITE, E_WRITE, S_MEMBERSHIP, E_MEMBERSHIP, S_READ, E_READ, F_SHARED_ordinal, F_WRITE_ordinal, F_MEMBERSHIP_ordinal, F_READ_ordinal⟩ := F
  refine s_aloadN B X0 (pc' := 1) d2_0 rfl rfl rfl ?_
  refine s_getS B X0 (pc' := 4) e0 (tw15 hw) Via.refl S_WRITE d2_1 rfl (fun T1 X1 e1 => ?_)
  refine b_acmp_eq B X1 (py := 14) (pn := 7) d2_4 (by decide) (by decide) rfl (fun q => absurd q (own_ne_w_SHARED_w_WRITE F0)) (fun _ => ?_)
  refine s_aloadN B X1 (pc' := 8) d2_7 rfl rfl rfl ?_
  refine s_getS B X1 (pc' := 11) e1 (tw15 hw) Via.refl S_WRITE d2_8 rfl (fun T2 X2 e2 => ?_)
  refine b_acmp_ne B X2 (py := 19) (pn := 14) d2_11 (by decide) (by decide) rfl (fun _ => ?_) (fun q => absurd q (own_ne_w_SHARED_w_WRITE F0))
  refine s_aloadN B X2 (pc' := 20) d2_19 rfl rfl rfl ?_
  refine s_getS B X2 (pc' := 23) e2 (tw20 hw) Via.refl S_SHARED d2_20 rfl (fun T3 X3 e3 => ?_)
  refine b_acmp_eq B X3 (py := 33) (pn := 26) d2_23 (by decide) (by decide) rfl (fun _ => ?_) (fun q => absurd rfl q)
  refine s_iconst B X3 (pc' := 34) (v := (0 : Int32)) d2_33 rfl rfl ?_
  refine s_istoreN B X3 (pc' := 35) (Ls' := #[.val (.ref w_SHARED), .val (.ref w_SHARED), .val (.int (0 : Int32))]) d2_34 rfl rfl ?_
  refine s_goto B X3 (pc' := 49) d2_35 (by decide) (by decide) ?_
  refine s_iloadN B X3 (pc' := 50) d2_49 rfl rfl ?_
  exact r_nar B X3 (t := .boolean) (by simp) rfl d2_50 ⟨rfl, rfl, e3⟩ (by decide) (by decide)
theorem d1_8 : decode method_2_code 8 = .ok (.iload_n 0, 1) := by decide +kernel
theorem d1_9 : decode method_2_code 9 = .ok (.iconst 1, 1) := by decide +kernel
theorem d1_10 : decode method_2_code 10 = .ok (.if_icmp .ne 7, 3) := by decide +kernel
theorem d1_13 : decode method_2_code 13 = .ok (.getstatic 13, 3) := by decide +kernel
theorem d1_16 : decode method_2_code 16 = .ok (.areturn, 1) := by decide +kernel
theorem pn_rm1_2 : plainName "com/example/isolation/isolation/LockModeConflictsWithPinLaw" = true := by first | (simp [plainName, overriddenIn]; done) | decide +kernel
set_option maxRecDepth 65536 in
set_option maxHeartbeats 40000000 in
theorem rm1_2 (l : Launch) (Z : State) (a0 : Array Value) (hw : ∀ d ∈ tables_1, d.before a0 Z = true)  (w_SHARED w_WRITE w_MEMBERSHIP w_READ : Addr) (h0 : Heap) (F0 : OwnF Z h0 w_SHARED w_WRITE w_MEMBERSHIP w_READ)  :
    OMeets l Z mn0 method_2_code 1 (some (.object "com/example/isolation/isolation/LockMode")) [] ({ frames := 0, cells := 0, slots := 0, locals := 0 } : Room) #[(.int (1 : Int32))] h0 (PureQ (some (.ref w_READ)) h0) := by
  refine OMeets.of pn_rm1_2 #[.val (.int (1 : Int32))] (fun m => by first | rfl | (simp [entryFrame, mkF, argsToLocals, Value.category, maxLocals]; done)) ?_
  intro p e s m below meth c s₁ B X0 e0
  have F := F0
  obtain ⟨S_SHARED, E_SHARED, S_WRITE, E_WRITE, S_MEMBERSHIP, E_MEMBERSHIP, S_READ, E_READ, F_SHARED_ordinal, F_WRITE_ordinal, F_MEMBERSHIP_ordinal, F_READ_ordinal⟩ := F
  refine s_iloadN B X0 (pc' := 1) d1_0 rfl rfl ?_
  refine s_ifY B X0 (pc' := 8) d1_1 (by decide) (by decide) (by decide) ?_
  refine s_iloadN B X0 (pc' := 9) d1_8 rfl rfl ?_
  refine s_iconst B X0 (pc' := 10) (v := (1 : Int32)) d1_9 rfl rfl ?_
  refine s_icmpN B X0 (pc' := 13) d1_10 (by decide) rfl ?_
  refine s_getS B X0 (pc' := 16) e0 (tw18 hw) Via.refl S_READ d1_13 rfl (fun T1 X1 e1 => ?_)
  exact r_ref B X1 (t := (.object "com/example/isolation/isolation/LockMode")) rfl rfl rfl rfl d1_16 ⟨rfl, rfl, e1⟩ (by decide) (by decide)
theorem own_ne_w_READ_w_WRITE {Z : State} {h : Heap} {w_SHARED w_WRITE w_MEMBERSHIP w_READ : Addr} (F : OwnF Z h w_SHARED w_WRITE w_MEMBERSHIP w_READ) : ¬ w_READ = w_WRITE := by
  obtain ⟨S_SHARED, E_SHARED, S_WRITE, E_WRITE, S_MEMBERSHIP, E_MEMBERSHIP, S_READ, E_READ, F_SHARED_ordinal, F_WRITE_ordinal, F_MEMBERSHIP_ordinal, F_READ_ordinal⟩ := F
  exact F_READ_ordinal.ne F_WRITE_ordinal (by decide)

theorem pn_rm2_3 : plainName "com/example/isolation/isolation/LockMode" = true := by first | (simp [plainName, overriddenIn]; done) | decide +kernel
set_option maxRecDepth 65536 in
set_option maxHeartbeats 40000000 in
theorem rm2_3 (l : Launch) (Z : State) (a0 : Array Value) (hw : ∀ d ∈ tables_1, d.before a0 Z = true)  (w_SHARED w_WRITE w_MEMBERSHIP w_READ : Addr) (h0 : Heap) (F0 : OwnF Z h0 w_SHARED w_WRITE w_MEMBERSHIP w_READ)  :
    OMeets l Z mn1 prog_29_method_4_code 3 (some .boolean) [] ({ frames := 0, cells := 0, slots := 0, locals := 0 } : Room) #[(.ref w_SHARED), (.ref w_READ)] h0 (PureQ (some (.int (0 : Int32))) h0) := by
  refine OMeets.of pn_rm2_3 #[.val (.ref w_SHARED), .val (.ref w_READ), .unset] (fun m => by first | rfl | (simp [entryFrame, mkF, argsToLocals, Value.category, maxLocals]; done)) ?_
  intro p e s m below meth c s₁ B X0 e0
  have F := F0
  obtain ⟨S_SHARED, E_SHARED, S_WRITE, E_WRITE, S_MEMBERSHIP, E_MEMBERSHIP, S_READ, E_READ, F_SHARED_ordinal, F_WRITE_ordinal, F_MEMBERSHIP_ordinal, F_READ_ordinal⟩ := F
  refine s_aloadN B X0 (pc' := 1) d2_0 rfl rfl rfl ?_
  refine s_getS B X0 (pc' := 4) e0 (tw15 hw) Via.refl S_WRITE d2_1 rfl (fun T1 X1 e1 => ?_)
  refine b_acmp_eq B X1 (py := 14) (pn := 7) d2_4 (by decide) (by decide) rfl (fun q => absurd q (own_ne_w_SHARED_w_WRITE F0)) (fun _ => ?_)
  refine s_aloadN B X1 (pc' := 8) d2_7 rfl rfl rfl ?_
  refine s_getS B X1 (pc' := 11) e1 (tw15 hw) Via.refl S_WRITE d2_8 rfl (fun T2 X2 e2 => ?_)
  refine b_acmp_ne B X2 (py := 19) (pn := 14) d2_11 (by decide) (by decide) rfl (fun _ => ?_) (fun q => absurd q (own_ne_w_READ_w_WRITE F0))
  refine s_aloadN B X2 (pc' := 20) d2_19 rfl rfl rfl ?_
  refine s_getS B X2 (pc' := 23) e2 (tw20 hw) Via.refl S_SHARED d2_20 rfl (fun T3 X3 e3 => ?_)
  refine b_acmp_eq B X3 (py := 33) (pn := 26) d2_23 (by decide) (by decide) rfl (fun _ => ?_) (fun q => absurd rfl q)
  refine s_iconst B X3 (pc' := 34) (v := (0 : Int32)) d2_33 rfl rfl ?_
  refine s_istoreN B X3 (pc' := 35) (Ls' := #[.val (.ref w_SHARED), .val (.ref w_READ), .val (.int (0 : Int32))]) d2_34 rfl rfl ?_
  refine s_goto B X3 (pc' := 49) d2_35 (by decide) (by decide) ?_
  refine s_iloadN B X3 (pc' := 50) d2_49 rfl rfl ?_
  exact r_nar B X3 (t := .boolean) (by simp) rfl d2_50 ⟨rfl, rfl, e3⟩ (by decide) (by decide)
theorem d1_17 : decode method_2_code 17 = .ok (.iload_n 0, 1) := by decide +kernel
theorem d1_18 : decode method_2_code 18 = .ok (.iconst 2, 1) := by decide +kernel
theorem d1_19 : decode method_2_code 19 = .ok (.if_icmp .ne 7, 3) := by decide +kernel
theorem d1_22 : decode method_2_code 22 = .ok (.getstatic 16, 3) := by decide +kernel
theorem d1_25 : decode method_2_code 25 = .ok (.areturn, 1) := by decide +kernel
theorem pn_rm1_4 : plainName "com/example/isolation/isolation/LockModeConflictsWithPinLaw" = true := by first | (simp [plainName, overriddenIn]; done) | decide +kernel
set_option maxRecDepth 65536 in
set_option maxHeartbeats 40000000 in
theorem rm1_4 (l : Launch) (Z : State) (a0 : Array Value) (hw : ∀ d ∈ tables_1, d.before a0 Z = true)  (w_SHARED w_WRITE w_MEMBERSHIP w_READ : Addr) (h0 : Heap) (F0 : OwnF Z h0 w_SHARED w_WRITE w_MEMBERSHIP w_READ)  :
    OMeets l Z mn0 method_2_code 1 (some (.object "com/example/isolation/isolation/LockMode")) [] ({ frames := 0, cells := 0, slots := 0, locals := 0 } : Room) #[(.int (2 : Int32))] h0 (PureQ (some (.ref w_MEMBERSHIP)) h0) := by
  refine OMeets.of pn_rm1_4 #[.val (.int (2 : Int32))] (fun m => by first | rfl | (simp [entryFrame, mkF, argsToLocals, Value.category, maxLocals]; done)) ?_
  intro p e s m below meth c s₁ B X0 e0
  have F := F0
  obtain ⟨S_SHARED, E_SHARED, S_WRITE, E_WRITE, S_MEMBERSHIP, E_MEMBERSHIP, S_READ, E_READ, F_SHARED_ordinal, F_WRITE_ordinal, F_MEMBERSHIP_ordinal, F_READ_ordinal⟩ := F
  refine s_iloadN B X0 (pc' := 1) d1_0 rfl rfl ?_
  refine s_ifY B X0 (pc' := 8) d1_1 (by decide) (by decide) (by decide) ?_
  refine s_iloadN B X0 (pc' := 9) d1_8 rfl rfl ?_
  refine s_iconst B X0 (pc' := 10) (v := (1 : Int32)) d1_9 rfl rfl ?_
  refine s_icmpY B X0 (pc' := 17) d1_10 (by decide) (by decide) (by decide) ?_
  refine s_iloadN B X0 (pc' := 18) d1_17 rfl rfl ?_
  refine s_iconst B X0 (pc' := 19) (v := (2 : Int32)) d1_18 rfl rfl ?_
  refine s_icmpN B X0 (pc' := 22) d1_19 (by decide) rfl ?_
  refine s_getS B X0 (pc' := 25) e0 (tw16 hw) Via.refl S_MEMBERSHIP d1_22 rfl (fun T1 X1 e1 => ?_)
  exact r_ref B X1 (t := (.object "com/example/isolation/isolation/LockMode")) rfl rfl rfl rfl d1_25 ⟨rfl, rfl, e1⟩ (by decide) (by decide)
theorem own_ne_w_MEMBERSHIP_w_WRITE {Z : State} {h : Heap} {w_SHARED w_WRITE w_MEMBERSHIP w_READ : Addr} (F : OwnF Z h w_SHARED w_WRITE w_MEMBERSHIP w_READ) : ¬ w_MEMBERSHIP = w_WRITE := by
  obtain ⟨S_SHARED, E_SHARED, S_WRITE, E_WRITE, S_MEMBERSHIP, E_MEMBERSHIP, S_READ, E_READ, F_SHARED_ordinal, F_WRITE_ordinal, F_MEMBERSHIP_ordinal, F_READ_ordinal⟩ := F
  exact F_MEMBERSHIP_ordinal.ne F_WRITE_ordinal (by decide)

theorem pn_rm2_5 : plainName "com/example/isolation/isolation/LockMode" = true := by first | (simp [plainName, overriddenIn]; done) | decide +kernel
set_option maxRecDepth 65536 in
set_option maxHeartbeats 40000000 in
theorem rm2_5 (l : Launch) (Z : State) (a0 : Array Value) (hw : ∀ d ∈ tables_1, d.before a0 Z = true)  (w_SHARED w_WRITE w_MEMBERSHIP w_READ : Addr) (h0 : Heap) (F0 : OwnF Z h0 w_SHARED w_WRITE w_MEMBERSHIP w_READ)  :
    OMeets l Z mn1 prog_29_method_4_code 3 (some .boolean) [] ({ frames := 0, cells := 0, slots := 0, locals := 0 } : Room) #[(.ref w_SHARED), (.ref w_MEMBERSHIP)] h0 (PureQ (some (.int (0 : Int32))) h0) := by
  refine OMeets.of pn_rm2_5 #[.val (.ref w_SHARED), .val (.ref w_MEMBERSHIP), .unset] (fun m => by first | rfl | (simp [entryFrame, mkF, argsToLocals, Value.category, maxLocals]; done)) ?_
  intro p e s m below meth c s₁ B X0 e0
  have F := F0
  obtain ⟨S_SHARED, E_SHARED, S_WRITE, E_WRITE, S_MEMBERSHIP, E_MEMBERSHIP, S_READ, E_READ, F_SHARED_ordinal, F_WRITE_ordinal, F_MEMBERSHIP_ordinal, F_READ_ordinal⟩ := F
  refine s_aloadN B X0 (pc' := 1) d2_0 rfl rfl rfl ?_
  refine s_getS B X0 (pc' := 4) e0 (tw15 hw) Via.refl S_WRITE d2_1 rfl (fun T1 X1 e1 => ?_)
  refine b_acmp_eq B X1 (py := 14) (pn := 7) d2_4 (by decide) (by decide) rfl (fun q => absurd q (own_ne_w_SHARED_w_WRITE F0)) (fun _ => ?_)
  refine s_aloadN B X1 (pc' := 8) d2_7 rfl rfl rfl ?_
  refine s_getS B X1 (pc' := 11) e1 (tw15 hw) Via.refl S_WRITE d2_8 rfl (fun T2 X2 e2 => ?_)
  refine b_acmp_ne B X2 (py := 19) (pn := 14) d2_11 (by decide) (by decide) rfl (fun _ => ?_) (fun q => absurd q (own_ne_w_MEMBERSHIP_w_WRITE F0))
  refine s_aloadN B X2 (pc' := 20) d2_19 rfl rfl rfl ?_
  refine s_getS B X2 (pc' := 23) e2 (tw20 hw) Via.refl S_SHARED d2_20 rfl (fun T3 X3 e3 => ?_)
  refine b_acmp_eq B X3 (py := 33) (pn := 26) d2_23 (by decide) (by decide) rfl (fun _ => ?_) (fun q => absurd rfl q)
  refine s_iconst B X3 (pc' := 34) (v := (0 : Int32)) d2_33 rfl rfl ?_
  refine s_istoreN B X3 (pc' := 35) (Ls' := #[.val (.ref w_SHARED), .val (.ref w_MEMBERSHIP), .val (.int (0 : Int32))]) d2_34 rfl rfl ?_
  refine s_goto B X3 (pc' := 49) d2_35 (by decide) (by decide) ?_
  refine s_iloadN B X3 (pc' := 50) d2_49 rfl rfl ?_
  exact r_nar B X3 (t := .boolean) (by simp) rfl d2_50 ⟨rfl, rfl, e3⟩ (by decide) (by decide)
theorem d1_26 : decode method_2_code 26 = .ok (.getstatic 19, 3) := by decide +kernel
theorem d1_29 : decode method_2_code 29 = .ok (.areturn, 1) := by decide +kernel
theorem pn_rm1_6 : plainName "com/example/isolation/isolation/LockModeConflictsWithPinLaw" = true := by first | (simp [plainName, overriddenIn]; done) | decide +kernel
set_option maxRecDepth 65536 in
set_option maxHeartbeats 40000000 in
theorem rm1_6 (l : Launch) (Z : State) (a0 : Array Value) (hw : ∀ d ∈ tables_1, d.before a0 Z = true)  (w_SHARED w_WRITE w_MEMBERSHIP w_READ : Addr) (h0 : Heap) (F0 : OwnF Z h0 w_SHARED w_WRITE w_MEMBERSHIP w_READ)  :
    OMeets l Z mn0 method_2_code 1 (some (.object "com/example/isolation/isolation/LockMode")) [] ({ frames := 0, cells := 0, slots := 0, locals := 0 } : Room) #[(.int (3 : Int32))] h0 (PureQ (some (.ref w_WRITE)) h0) := by
  refine OMeets.of pn_rm1_6 #[.val (.int (3 : Int32))] (fun m => by first | rfl | (simp [entryFrame, mkF, argsToLocals, Value.category, maxLocals]; done)) ?_
  intro p e s m below meth c s₁ B X0 e0
  have F := F0
  obtain ⟨S_SHARED, E_SHARED, S_WRITE, E_WRITE, S_MEMBERSHIP, E_MEMBERSHIP, S_READ, E_READ, F_SHARED_ordinal, F_WRITE_ordinal, F_MEMBERSHIP_ordinal, F_READ_ordinal⟩ := F
  refine s_iloadN B X0 (pc' := 1) d1_0 rfl rfl ?_
  refine s_ifY B X0 (pc' := 8) d1_1 (by decide) (by decide) (by decide) ?_
  refine s_iloadN B X0 (pc' := 9) d1_8 rfl rfl ?_
  refine s_iconst B X0 (pc' := 10) (v := (1 : Int32)) d1_9 rfl rfl ?_
  refine s_icmpY B X0 (pc' := 17) d1_10 (by decide) (by decide) (by decide) ?_
  refine s_iloadN B X0 (pc' := 18) d1_17 rfl rfl ?_
  refine s_iconst B X0 (pc' := 19) (v := (2 : Int32)) d1_18 rfl rfl ?_
  refine s_icmpY B X0 (pc' := 26) d1_19 (by decide) (by decide) (by decide) ?_
  refine s_getS B X0 (pc' := 29) e0 (tw8 hw) Via.refl S_WRITE d1_26 rfl (fun T1 X1 e1 => ?_)
  exact r_ref B X1 (t := (.object "com/example/isolation/isolation/LockMode")) rfl rfl rfl rfl d1_29 ⟨rfl, rfl, e1⟩ (by decide) (by decide)
theorem d2_14 : decode prog_29_method_4_code 14 = .ok (.iconst 1, 1) := by decide +kernel
theorem d2_15 : decode prog_29_method_4_code 15 = .ok (.istore_n 2, 1) := by decide +kernel
theorem d2_16 : decode prog_29_method_4_code 16 = .ok (.goto 33, 3) := by decide +kernel
theorem pn_rm2_7 : plainName "com/example/isolation/isolation/LockMode" = true := by first | (simp [plainName, overriddenIn]; done) | decide +kernel
set_option maxRecDepth 65536 in
set_option maxHeartbeats 40000000 in
theorem rm2_7 (l : Launch) (Z : State) (a0 : Array Value) (hw : ∀ d ∈ tables_1, d.before a0 Z = true)  (w_SHARED w_WRITE w_MEMBERSHIP w_READ : Addr) (h0 : Heap) (F0 : OwnF Z h0 w_SHARED w_WRITE w_MEMBERSHIP w_READ)  :
    OMeets l Z mn1 prog_29_method_4_code 3 (some .boolean) [] ({ frames := 0, cells := 0, slots := 0, locals := 0 } : Room) #[(.ref w_SHARED), (.ref w_WRITE)] h0 (PureQ (some (.int (1 : Int32))) h0) := by
  refine OMeets.of pn_rm2_7 #[.val (.ref w_SHARED), .val (.ref w_WRITE), .unset] (fun m => by first | rfl | (simp [entryFrame, mkF, argsToLocals, Value.category, maxLocals]; done)) ?_
  intro p e s m below meth c s₁ B X0 e0
  have F := F0
  obtain ⟨S_SHARED, E_SHARED, S_WRITE, E_WRITE, S_MEMBERSHIP, E_MEMBERSHIP, S_READ, E_READ, F_SHARED_ordinal, F_WRITE_ordinal, F_MEMBERSHIP_ordinal, F_READ_ordinal⟩ := F
  refine s_aloadN B X0 (pc' := 1) d2_0 rfl rfl rfl ?_
  refine s_getS B X0 (pc' := 4) e0 (tw15 hw) Via.refl S_WRITE d2_1 rfl (fun T1 X1 e1 => ?_)
  refine b_acmp_eq B X1 (py := 14) (pn := 7) d2_4 (by decide) (by decide) rfl (fun q => absurd q (own_ne_w_SHARED_w_WRITE F0)) (fun _ => ?_)
  refine s_aloadN B X1 (pc' := 8) d2_7 rfl rfl rfl ?_
  refine s_getS B X1 (pc' := 11) e1 (tw15 hw) Via.refl S_WRITE d2_8 rfl (fun T2 X2 e2 => ?_)
  refine b_acmp_ne B X2 (py := 19) (pn := 14) d2_11 (by decide) (by decide) rfl (fun q => absurd rfl q) (fun _ => ?_)
  refine s_iconst B X2 (pc' := 15) (v := (1 : Int32)) d2_14 rfl rfl ?_
  refine s_istoreN B X2 (pc' := 16) (Ls' := #[.val (.ref w_SHARED), .val (.ref w_WRITE), .val (.int (1 : Int32))]) d2_15 rfl rfl ?_
  refine s_goto B X2 (pc' := 49) d2_16 (by decide) (by decide) ?_
  refine s_iloadN B X2 (pc' := 50) d2_49 rfl rfl ?_
  exact r_nar B X2 (t := .boolean) (by simp) rfl d2_50 ⟨rfl, rfl, e2⟩ (by decide) (by decide)
theorem own_ne_w_READ_w_SHARED {Z : State} {h : Heap} {w_SHARED w_WRITE w_MEMBERSHIP w_READ : Addr} (F : OwnF Z h w_SHARED w_WRITE w_MEMBERSHIP w_READ) : ¬ w_READ = w_SHARED := by
  obtain ⟨S_SHARED, E_SHARED, S_WRITE, E_WRITE, S_MEMBERSHIP, E_MEMBERSHIP, S_READ, E_READ, F_SHARED_ordinal, F_WRITE_ordinal, F_MEMBERSHIP_ordinal, F_READ_ordinal⟩ := F
  exact F_READ_ordinal.ne F_SHARED_ordinal (by decide)
theorem d2_26 : decode prog_29_method_4_code 26 = .ok (.aload_n 1, 1) := by decide +kernel
theorem d2_27 : decode prog_29_method_4_code 27 = .ok (.getstatic 3, 3) := by decide +kernel
theorem d2_30 : decode prog_29_method_4_code 30 = .ok (.if_acmp .ne 8, 3) := by decide +kernel
theorem pn_rm2_8 : plainName "com/example/isolation/isolation/LockMode" = true := by first | (simp [plainName, overriddenIn]; done) | decide +kernel
set_option maxRecDepth 65536 in
set_option maxHeartbeats 40000000 in
theorem rm2_8 (l : Launch) (Z : State) (a0 : Array Value) (hw : ∀ d ∈ tables_1, d.before a0 Z = true)  (w_SHARED w_WRITE w_MEMBERSHIP w_READ : Addr) (h0 : Heap) (F0 : OwnF Z h0 w_SHARED w_WRITE w_MEMBERSHIP w_READ)  :
    OMeets l Z mn1 prog_29_method_4_code 3 (some .boolean) [] ({ frames := 0, cells := 0, slots := 0, locals := 0 } : Room) #[(.ref w_READ), (.ref w_SHARED)] h0 (PureQ (some (.int (0 : Int32))) h0) := by
  refine OMeets.of pn_rm2_8 #[.val (.ref w_READ), .val (.ref w_SHARED), .unset] (fun m => by first | rfl | (simp [entryFrame, mkF, argsToLocals, Value.category, maxLocals]; done)) ?_
  intro p e s m below meth c s₁ B X0 e0
  have F := F0
  obtain ⟨S_SHARED, E_SHARED, S_WRITE, E_WRITE, S_MEMBERSHIP, E_MEMBERSHIP, S_READ, E_READ, F_SHARED_ordinal, F_WRITE_ordinal, F_MEMBERSHIP_ordinal, F_READ_ordinal⟩ := F
  refine s_aloadN B X0 (pc' := 1) d2_0 rfl rfl rfl ?_
  refine s_getS B X0 (pc' := 4) e0 (tw15 hw) Via.refl S_WRITE d2_1 rfl (fun T1 X1 e1 => ?_)
  refine b_acmp_eq B X1 (py := 14) (pn := 7) d2_4 (by decide) (by decide) rfl (fun q => absurd q (own_ne_w_READ_w_WRITE F0)) (fun _ => ?_)
  refine s_aloadN B X1 (pc' := 8) d2_7 rfl rfl rfl ?_
  refine s_getS B X1 (pc' := 11) e1 (tw15 hw) Via.refl S_WRITE d2_8 rfl (fun T2 X2 e2 => ?_)
  refine b_acmp_ne B X2 (py := 19) (pn := 14) d2_11 (by decide) (by decide) rfl (fun _ => ?_) (fun q => absurd q (own_ne_w_SHARED_w_WRITE F0))
  refine s_aloadN B X2 (pc' := 20) d2_19 rfl rfl rfl ?_
  refine s_getS B X2 (pc' := 23) e2 (tw20 hw) Via.refl S_SHARED d2_20 rfl (fun T3 X3 e3 => ?_)
  refine b_acmp_eq B X3 (py := 33) (pn := 26) d2_23 (by decide) (by decide) rfl (fun q => absurd q (own_ne_w_READ_w_SHARED F0)) (fun _ => ?_)
  refine s_aloadN B X3 (pc' := 27) d2_26 rfl rfl rfl ?_
  refine s_getS B X3 (pc' := 30) e3 (tw20 hw) Via.refl S_SHARED d2_27 rfl (fun T4 X4 e4 => ?_)
  refine b_acmp_ne B X4 (py := 38) (pn := 33) d2_30 (by decide) (by decide) rfl (fun q => absurd rfl q) (fun _ => ?_)
  refine s_iconst B X4 (pc' := 34) (v := (0 : Int32)) d2_33 rfl rfl ?_
  refine s_istoreN B X4 (pc' := 35) (Ls' := #[.val (.ref w_READ), .val (.ref w_SHARED), .val (.int (0 : Int32))]) d2_34 rfl rfl ?_
  refine s_goto B X4 (pc' := 49) d2_35 (by decide) (by decide) ?_
  refine s_iloadN B X4 (pc' := 50) d2_49 rfl rfl ?_
  exact r_nar B X4 (t := .boolean) (by simp) rfl d2_50 ⟨rfl, rfl, e4⟩ (by decide) (by decide)
theorem d2_38 : decode prog_29_method_4_code 38 = .ok (.aload_n 0, 1) := by decide +kernel
theorem d2_39 : decode prog_29_method_4_code 39 = .ok (.aload_n 1, 1) := by decide +kernel
theorem d2_40 : decode prog_29_method_4_code 40 = .ok (.if_acmp .eq 7, 3) := by decide +kernel
theorem d2_47 : decode prog_29_method_4_code 47 = .ok (.iconst 0, 1) := by decide +kernel
theorem d2_48 : decode prog_29_method_4_code 48 = .ok (.istore_n 2, 1) := by decide +kernel
theorem pn_rm2_9 : plainName "com/example/isolation/isolation/LockMode" = true := by first | (simp [plainName, overriddenIn]; done) | decide +kernel
set_option maxRecDepth 65536 in
set_option maxHeartbeats 40000000 in
theorem rm2_9 (l : Launch) (Z : State) (a0 : Array Value) (hw : ∀ d ∈ tables_1, d.before a0 Z = true)  (w_SHARED w_WRITE w_MEMBERSHIP w_READ : Addr) (h0 : Heap) (F0 : OwnF Z h0 w_SHARED w_WRITE w_MEMBERSHIP w_READ)  :
    OMeets l Z mn1 prog_29_method_4_code 3 (some .boolean) [] ({ frames := 0, cells := 0, slots := 0, locals := 0 } : Room) #[(.ref w_READ), (.ref w_READ)] h0 (PureQ (some (.int (0 : Int32))) h0) := by
  refine OMeets.of pn_rm2_9 #[.val (.ref w_READ), .val (.ref w_READ), .unset] (fun m => by first | rfl | (simp [entryFrame, mkF, argsToLocals, Value.category, maxLocals]; done)) ?_
  intro p e s m below meth c s₁ B X0 e0
  have F := F0
  obtain ⟨S_SHARED, E_SHARED, S_WRITE, E_WRITE, S_MEMBERSHIP, E_MEMBERSHIP, S_READ, E_READ, F_SHARED_ordinal, F_WRITE_ordinal, F_MEMBERSHIP_ordinal, F_READ_ordinal⟩ := F
  refine s_aloadN B X0 (pc' := 1) d2_0 rfl rfl rfl ?_
  refine s_getS B X0 (pc' := 4) e0 (tw15 hw) Via.refl S_WRITE d2_1 rfl (fun T1 X1 e1 => ?_)
  refine b_acmp_eq B X1 (py := 14) (pn := 7) d2_4 (by decide) (by decide) rfl (fun q => absurd q (own_ne_w_READ_w_WRITE F0)) (fun _ => ?_)
  refine s_aloadN B X1 (pc' := 8) d2_7 rfl rfl rfl ?_
  refine s_getS B X1 (pc' := 11) e1 (tw15 hw) Via.refl S_WRITE d2_8 rfl (fun T2 X2 e2 => ?_)
  refine b_acmp_ne B X2 (py := 19) (pn := 14) d2_11 (by decide) (by decide) rfl (fun _ => ?_) (fun q => absurd q (own_ne_w_READ_w_WRITE F0))
  refine s_aloadN B X2 (pc' := 20) d2_19 rfl rfl rfl ?_
  refine s_getS B X2 (pc' := 23) e2 (tw20 hw) Via.refl S_SHARED d2_20 rfl (fun T3 X3 e3 => ?_)
  refine b_acmp_eq B X3 (py := 33) (pn := 26) d2_23 (by decide) (by decide) rfl (fun q => absurd q (own_ne_w_READ_w_SHARED F0)) (fun _ => ?_)
  refine s_aloadN B X3 (pc' := 27) d2_26 rfl rfl rfl ?_
  refine s_getS B X3 (pc' := 30) e3 (tw20 hw) Via.refl S_SHARED d2_27 rfl (fun T4 X4 e4 => ?_)
  refine b_acmp_ne B X4 (py := 38) (pn := 33) d2_30 (by decide) (by decide) rfl (fun _ => ?_) (fun q => absurd q (own_ne_w_READ_w_SHARED F0))
  refine s_aloadN B X4 (pc' := 39) d2_38 rfl rfl rfl ?_
  refine s_aloadN B X4 (pc' := 40) d2_39 rfl rfl rfl ?_
  refine b_acmp_eq B X4 (py := 47) (pn := 43) d2_40 (by decide) (by decide) rfl (fun _ => ?_) (fun q => absurd rfl q)
  refine s_iconst B X4 (pc' := 48) (v := (0 : Int32)) d2_47 rfl rfl ?_
  refine s_istoreN B X4 (pc' := 49) (Ls' := #[.val (.ref w_READ), .val (.ref w_READ), .val (.int (0 : Int32))]) d2_48 rfl rfl ?_
  refine s_iloadN B X4 (pc' := 50) d2_49 rfl rfl ?_
  exact r_nar B X4 (t := .boolean) (by simp) rfl d2_50 ⟨rfl, rfl, e4⟩ (by decide) (by decide)
theorem own_ne_w_MEMBERSHIP_w_SHARED {Z : State} {h : Heap} {w_SHARED w_WRITE w_MEMBERSHIP w_READ : Addr} (F : OwnF Z h w_SHARED w_WRITE w_MEMBERSHIP w_READ) : ¬ w_MEMBERSHIP = w_SHARED := by
  obtain ⟨S_SHARED, E_SHARED, S_WRITE, E_WRITE, S_MEMBERSHIP, E_MEMBERSHIP, S_READ, E_READ, F_SHARED_ordinal, F_WRITE_ordinal, F_MEMBERSHIP_ordinal, F_READ_ordinal⟩ := F
  exact F_MEMBERSHIP_ordinal.ne F_SHARED_ordinal (by decide)
theorem own_ne_w_READ_w_MEMBERSHIP {Z : State} {h : Heap} {w_SHARED w_WRITE w_MEMBERSHIP w_READ : Addr} (F : OwnF Z h w_SHARED w_WRITE w_MEMBERSHIP w_READ) : ¬ w_READ = w_MEMBERSHIP := by
  obtain ⟨S_SHARED, E_SHARED, S_WRITE, E_WRITE, S_MEMBERSHIP, E_MEMBERSHIP, S_READ, E_READ, F_SHARED_ordinal, F_WRITE_ordinal, F_MEMBERSHIP_ordinal, F_READ_ordinal⟩ := F
  exact F_READ_ordinal.ne F_MEMBERSHIP_ordinal (by decide)
theorem d2_43 : decode prog_29_method_4_code 43 = .ok (.iconst 1, 1) := by decide +kernel
theorem d2_44 : decode prog_29_method_4_code 44 = .ok (.goto 4, 3) := by decide +kernel
theorem pn_rm2_10 : plainName "com/example/isolation/isolation/LockMode" = true := by first | (simp [plainName, overriddenIn]; done) | decide +kernel
set_option maxRecDepth 65536 in
set_option maxHeartbeats 40000000 in
theorem rm2_10 (l : Launch) (Z : State) (a0 : Array Value) (hw : ∀ d ∈ tables_1, d.before a0 Z = true)  (w_SHARED w_WRITE w_MEMBERSHIP w_READ : Addr) (h0 : Heap) (F0 : OwnF Z h0 w_SHARED w_WRITE w_MEMBERSHIP w_READ)  :
    OMeets l Z mn1 prog_29_method_4_code 3 (some .boolean) [] ({ frames := 0, cells := 0, slots := 0, locals := 0 } : Room) #[(.ref w_READ), (.ref w_MEMBERSHIP)] h0 (PureQ (some (.int (1 : Int32))) h0) := by
  refine OMeets.of pn_rm2_10 #[.val (.ref w_READ), .val (.ref w_MEMBERSHIP), .unset] (fun m => by first | rfl | (simp [entryFrame, mkF, argsToLocals, Value.category, maxLocals]; done)) ?_
  intro p e s m below meth c s₁ B X0 e0
  have F := F0
  obtain ⟨S_SHARED, E_SHARED, S_WRITE, E_WRITE, S_MEMBERSHIP, E_MEMBERSHIP, S_READ, E_READ, F_SHARED_ordinal, F_WRITE_ordinal, F_MEMBERSHIP_ordinal, F_READ_ordinal⟩ := F
  refine s_aloadN B X0 (pc' := 1) d2_0 rfl rfl rfl ?_
  refine s_getS B X0 (pc' := 4) e0 (tw15 hw) Via.refl S_WRITE d2_1 rfl (fun T1 X1 e1 => ?_)
  refine b_acmp_eq B X1 (py := 14) (pn := 7) d2_4 (by decide) (by decide) rfl (fun q => absurd q (own_ne_w_READ_w_WRITE F0)) (fun _ => ?_)
  refine s_aloadN B X1 (pc' := 8) d2_7 rfl rfl rfl ?_
  refine s_getS B X1 (pc' := 11) e1 (tw15 hw) Via.refl S_WRITE d2_8 rfl (fun T2 X2 e2 => ?_)
  refine b_acmp_ne B X2 (py := 19) (pn := 14) d2_11 (by decide) (by decide) rfl (fun _ => ?_) (fun q => absurd q (own_ne_w_MEMBERSHIP_w_WRITE F0))
  refine s_aloadN B X2 (pc' := 20) d2_19 rfl rfl rfl ?_
  refine s_getS B X2 (pc' := 23) e2 (tw20 hw) Via.refl S_SHARED d2_20 rfl (fun T3 X3 e3 => ?_)
  refine b_acmp_eq B X3 (py := 33) (pn := 26) d2_23 (by decide) (by decide) rfl (fun q => absurd q (own_ne_w_READ_w_SHARED F0)) (fun _ => ?_)
  refine s_aloadN B X3 (pc' := 27) d2_26 rfl rfl rfl ?_
  refine s_getS B X3 (pc' := 30) e3 (tw20 hw) Via.refl S_SHARED d2_27 rfl (fun T4 X4 e4 => ?_)
  refine b_acmp_ne B X4 (py := 38) (pn := 33) d2_30 (by decide) (by decide) rfl (fun _ => ?_) (fun q => absurd q (own_ne_w_MEMBERSHIP_w_SHARED F0))
  refine s_aloadN B X4 (pc' := 39) d2_38 rfl rfl rfl ?_
  refine s_aloadN B X4 (pc' := 40) d2_39 rfl rfl rfl ?_
  refine b_acmp_eq B X4 (py := 47) (pn := 43) d2_40 (by decide) (by decide) rfl (fun q => absurd q (own_ne_w_READ_w_MEMBERSHIP F0)) (fun _ => ?_)
  refine s_iconst B X4 (pc' := 44) (v := (1 : Int32)) d2_43 rfl rfl ?_
  refine s_goto B X4 (pc' := 48) d2_44 (by decide) (by decide) ?_
  refine s_istoreN B X4 (pc' := 49) (Ls' := #[.val (.ref w_READ), .val (.ref w_MEMBERSHIP), .val (.int (1 : Int32))]) d2_48 rfl rfl ?_
  refine s_iloadN B X4 (pc' := 50) d2_49 rfl rfl ?_
  exact r_nar B X4 (t := .boolean) (by simp) rfl d2_50 ⟨rfl, rfl, e4⟩ (by decide) (by decide)

theorem pn_rm2_11 : plainName "com/example/isolation/isolation/LockMode" = true := by first | (simp [plainName, overriddenIn]; done) | decide +kernel
set_option maxRecDepth 65536 in
set_option maxHeartbeats 40000000 in
theorem rm2_11 (l : Launch) (Z : State) (a0 : Array Value) (hw : ∀ d ∈ tables_1, d.before a0 Z = true)  (w_SHARED w_WRITE w_MEMBERSHIP w_READ : Addr) (h0 : Heap) (F0 : OwnF Z h0 w_SHARED w_WRITE w_MEMBERSHIP w_READ)  :
    OMeets l Z mn1 prog_29_method_4_code 3 (some .boolean) [] ({ frames := 0, cells := 0, slots := 0, locals := 0 } : Room) #[(.ref w_READ), (.ref w_WRITE)] h0 (PureQ (some (.int (1 : Int32))) h0) := by
  refine OMeets.of pn_rm2_11 #[.val (.ref w_READ), .val (.ref w_WRITE), .unset] (fun m => by first | rfl | (simp [entryFrame, mkF, argsToLocals, Value.category, maxLocals]; done)) ?_
  intro p e s m below meth c s₁ B X0 e0
  have F := F0
  obtain ⟨S_SHARED, E_SHARED, S_WRITE, E_WRITE, S_MEMBERSHIP, E_MEMBERSHIP, S_READ, E_READ, F_SHARED_ordinal, F_WRITE_ordinal, F_MEMBERSHIP_ordinal, F_READ_ordinal⟩ := F
  refine s_aloadN B X0 (pc' := 1) d2_0 rfl rfl rfl ?_
  refine s_getS B X0 (pc' := 4) e0 (tw15 hw) Via.refl S_WRITE d2_1 rfl (fun T1 X1 e1 => ?_)
  refine b_acmp_eq B X1 (py := 14) (pn := 7) d2_4 (by decide) (by decide) rfl (fun q => absurd q (own_ne_w_READ_w_WRITE F0)) (fun _ => ?_)
  refine s_aloadN B X1 (pc' := 8) d2_7 rfl rfl rfl ?_
  refine s_getS B X1 (pc' := 11) e1 (tw15 hw) Via.refl S_WRITE d2_8 rfl (fun T2 X2 e2 => ?_)
  refine b_acmp_ne B X2 (py := 19) (pn := 14) d2_11 (by decide) (by decide) rfl (fun q => absurd rfl q) (fun _ => ?_)
  refine s_iconst B X2 (pc' := 15) (v := (1 : Int32)) d2_14 rfl rfl ?_
  refine s_istoreN B X2 (pc' := 16) (Ls' := #[.val (.ref w_READ), .val (.ref w_WRITE), .val (.int (1 : Int32))]) d2_15 rfl rfl ?_
  refine s_goto B X2 (pc' := 49) d2_16 (by decide) (by decide) ?_
  refine s_iloadN B X2 (pc' := 50) d2_49 rfl rfl ?_
  exact r_nar B X2 (t := .boolean) (by simp) rfl d2_50 ⟨rfl, rfl, e2⟩ (by decide) (by decide)

theorem pn_rm2_12 : plainName "com/example/isolation/isolation/LockMode" = true := by first | (simp [plainName, overriddenIn]; done) | decide +kernel
set_option maxRecDepth 65536 in
set_option maxHeartbeats 40000000 in
theorem rm2_12 (l : Launch) (Z : State) (a0 : Array Value) (hw : ∀ d ∈ tables_1, d.before a0 Z = true)  (w_SHARED w_WRITE w_MEMBERSHIP w_READ : Addr) (h0 : Heap) (F0 : OwnF Z h0 w_SHARED w_WRITE w_MEMBERSHIP w_READ)  :
    OMeets l Z mn1 prog_29_method_4_code 3 (some .boolean) [] ({ frames := 0, cells := 0, slots := 0, locals := 0 } : Room) #[(.ref w_MEMBERSHIP), (.ref w_SHARED)] h0 (PureQ (some (.int (0 : Int32))) h0) := by
  refine OMeets.of pn_rm2_12 #[.val (.ref w_MEMBERSHIP), .val (.ref w_SHARED), .unset] (fun m => by first | rfl | (simp [entryFrame, mkF, argsToLocals, Value.category, maxLocals]; done)) ?_
  intro p e s m below meth c s₁ B X0 e0
  have F := F0
  obtain ⟨S_SHARED, E_SHARED, S_WRITE, E_WRITE, S_MEMBERSHIP, E_MEMBERSHIP, S_READ, E_READ, F_SHARED_ordinal, F_WRITE_ordinal, F_MEMBERSHIP_ordinal, F_READ_ordinal⟩ := F
  refine s_aloadN B X0 (pc' := 1) d2_0 rfl rfl rfl ?_
  refine s_getS B X0 (pc' := 4) e0 (tw15 hw) Via.refl S_WRITE d2_1 rfl (fun T1 X1 e1 => ?_)
  refine b_acmp_eq B X1 (py := 14) (pn := 7) d2_4 (by decide) (by decide) rfl (fun q => absurd q (own_ne_w_MEMBERSHIP_w_WRITE F0)) (fun _ => ?_)
  refine s_aloadN B X1 (pc' := 8) d2_7 rfl rfl rfl ?_
  refine s_getS B X1 (pc' := 11) e1 (tw15 hw) Via.refl S_WRITE d2_8 rfl (fun T2 X2 e2 => ?_)
  refine b_acmp_ne B X2 (py := 19) (pn := 14) d2_11 (by decide) (by decide) rfl (fun _ => ?_) (fun q => absurd q (own_ne_w_SHARED_w_WRITE F0))
  refine s_aloadN B X2 (pc' := 20) d2_19 rfl rfl rfl ?_
  refine s_getS B X2 (pc' := 23) e2 (tw20 hw) Via.refl S_SHARED d2_20 rfl (fun T3 X3 e3 => ?_)
  refine b_acmp_eq B X3 (py := 33) (pn := 26) d2_23 (by decide) (by decide) rfl (fun q => absurd q (own_ne_w_MEMBERSHIP_w_SHARED F0)) (fun _ => ?_)
  refine s_aloadN B X3 (pc' := 27) d2_26 rfl rfl rfl ?_
  refine s_getS B X3 (pc' := 30) e3 (tw20 hw) Via.refl S_SHARED d2_27 rfl (fun T4 X4 e4 => ?_)
  refine b_acmp_ne B X4 (py := 38) (pn := 33) d2_30 (by decide) (by decide) rfl (fun q => absurd rfl q) (fun _ => ?_)
  refine s_iconst B X4 (pc' := 34) (v := (0 : Int32)) d2_33 rfl rfl ?_
  refine s_istoreN B X4 (pc' := 35) (Ls' := #[.val (.ref w_MEMBERSHIP), .val (.ref w_SHARED), .val (.int (0 : Int32))]) d2_34 rfl rfl ?_
  refine s_goto B X4 (pc' := 49) d2_35 (by decide) (by decide) ?_
  refine s_iloadN B X4 (pc' := 50) d2_49 rfl rfl ?_
  exact r_nar B X4 (t := .boolean) (by simp) rfl d2_50 ⟨rfl, rfl, e4⟩ (by decide) (by decide)
theorem own_ne_w_MEMBERSHIP_w_READ {Z : State} {h : Heap} {w_SHARED w_WRITE w_MEMBERSHIP w_READ : Addr} (F : OwnF Z h w_SHARED w_WRITE w_MEMBERSHIP w_READ) : ¬ w_MEMBERSHIP = w_READ := by
  obtain ⟨S_SHARED, E_SHARED, S_WRITE, E_WRITE, S_MEMBERSHIP, E_MEMBERSHIP, S_READ, E_READ, F_SHARED_ordinal, F_WRITE_ordinal, F_MEMBERSHIP_ordinal, F_READ_ordinal⟩ := F
  exact F_MEMBERSHIP_ordinal.ne F_READ_ordinal (by decide)

theorem pn_rm2_13 : plainName "com/example/isolation/isolation/LockMode" = true := by first | (simp [plainName, overriddenIn]; done) | decide +kernel
set_option maxRecDepth 65536 in
set_option maxHeartbeats 40000000 in
theorem rm2_13 (l : Launch) (Z : State) (a0 : Array Value) (hw : ∀ d ∈ tables_1, d.before a0 Z = true)  (w_SHARED w_WRITE w_MEMBERSHIP w_READ : Addr) (h0 : Heap) (F0 : OwnF Z h0 w_SHARED w_WRITE w_MEMBERSHIP w_READ)  :
    OMeets l Z mn1 prog_29_method_4_code 3 (some .boolean) [] ({ frames := 0, cells := 0, slots := 0, locals := 0 } : Room) #[(.ref w_MEMBERSHIP), (.ref w_READ)] h0 (PureQ (some (.int (1 : Int32))) h0) := by
  refine OMeets.of pn_rm2_13 #[.val (.ref w_MEMBERSHIP), .val (.ref w_READ), .unset] (fun m => by first | rfl | (simp [entryFrame, mkF, argsToLocals, Value.category, maxLocals]; done)) ?_
  intro p e s m below meth c s₁ B X0 e0
  have F := F0
  obtain ⟨S_SHARED, E_SHARED, S_WRITE, E_WRITE, S_MEMBERSHIP, E_MEMBERSHIP, S_READ, E_READ, F_SHARED_ordinal, F_WRITE_ordinal, F_MEMBERSHIP_ordinal, F_READ_ordinal⟩ := F
  refine s_aloadN B X0 (pc' := 1) d2_0 rfl rfl rfl ?_
  refine s_getS B X0 (pc' := 4) e0 (tw15 hw) Via.refl S_WRITE d2_1 rfl (fun T1 X1 e1 => ?_)
  refine b_acmp_eq B X1 (py := 14) (pn := 7) d2_4 (by decide) (by decide) rfl (fun q => absurd q (own_ne_w_MEMBERSHIP_w_WRITE F0)) (fun _ => ?_)
  refine s_aloadN B X1 (pc' := 8) d2_7 rfl rfl rfl ?_
  refine s_getS B X1 (pc' := 11) e1 (tw15 hw) Via.refl S_WRITE d2_8 rfl (fun T2 X2 e2 => ?_)
  refine b_acmp_ne B X2 (py := 19) (pn := 14) d2_11 (by decide) (by decide) rfl (fun _ => ?_) (fun q => absurd q (own_ne_w_READ_w_WRITE F0))
  refine s_aloadN B X2 (pc' := 20) d2_19 rfl rfl rfl ?_
  refine s_getS B X2 (pc' := 23) e2 (tw20 hw) Via.refl S_SHARED d2_20 rfl (fun T3 X3 e3 => ?_)
  refine b_acmp_eq B X3 (py := 33) (pn := 26) d2_23 (by decide) (by decide) rfl (fun q => absurd q (own_ne_w_MEMBERSHIP_w_SHARED F0)) (fun _ => ?_)
  refine s_aloadN B X3 (pc' := 27) d2_26 rfl rfl rfl ?_
  refine s_getS B X3 (pc' := 30) e3 (tw20 hw) Via.refl S_SHARED d2_27 rfl (fun T4 X4 e4 => ?_)
  refine b_acmp_ne B X4 (py := 38) (pn := 33) d2_30 (by decide) (by decide) rfl (fun _ => ?_) (fun q => absurd q (own_ne_w_READ_w_SHARED F0))
  refine s_aloadN B X4 (pc' := 39) d2_38 rfl rfl rfl ?_
  refine s_aloadN B X4 (pc' := 40) d2_39 rfl rfl rfl ?_
  refine b_acmp_eq B X4 (py := 47) (pn := 43) d2_40 (by decide) (by decide) rfl (fun q => absurd q (own_ne_w_MEMBERSHIP_w_READ F0)) (fun _ => ?_)
  refine s_iconst B X4 (pc' := 44) (v := (1 : Int32)) d2_43 rfl rfl ?_
  refine s_goto B X4 (pc' := 48) d2_44 (by decide) (by decide) ?_
  refine s_istoreN B X4 (pc' := 49) (Ls' := #[.val (.ref w_MEMBERSHIP), .val (.ref w_READ), .val (.int (1 : Int32))]) d2_48 rfl rfl ?_
  refine s_iloadN B X4 (pc' := 50) d2_49 rfl rfl ?_
  exact r_nar B X4 (t := .boolean) (by simp) rfl d2_50 ⟨rfl, rfl, e4⟩ (by decide) (by decide)

theorem pn_rm2_14 : plainName "com/example/isolation/isolation/LockMode" = true := by first | (simp [plainName, overriddenIn]; done) | decide +kernel
set_option maxRecDepth 65536 in
set_option maxHeartbeats 40000000 in
theorem rm2_14 (l : Launch) (Z : State) (a0 : Array Value) (hw : ∀ d ∈ tables_1, d.before a0 Z = true)  (w_SHARED w_WRITE w_MEMBERSHIP w_READ : Addr) (h0 : Heap) (F0 : OwnF Z h0 w_SHARED w_WRITE w_MEMBERSHIP w_READ)  :
    OMeets l Z mn1 prog_29_method_4_code 3 (some .boolean) [] ({ frames := 0, cells := 0, slots := 0, locals := 0 } : Room) #[(.ref w_MEMBERSHIP), (.ref w_MEMBERSHIP)] h0 (PureQ (some (.int (0 : Int32))) h0) := by
  refine OMeets.of pn_rm2_14 #[.val (.ref w_MEMBERSHIP), .val (.ref w_MEMBERSHIP), .unset] (fun m => by first | rfl | (simp [entryFrame, mkF, argsToLocals, Value.category, maxLocals]; done)) ?_
  intro p e s m below meth c s₁ B X0 e0
  have F := F0
  obtain ⟨S_SHARED, E_SHARED, S_WRITE, E_WRITE, S_MEMBERSHIP, E_MEMBERSHIP, S_READ, E_READ, F_SHARED_ordinal, F_WRITE_ordinal, F_MEMBERSHIP_ordinal, F_READ_ordinal⟩ := F
  refine s_aloadN B X0 (pc' := 1) d2_0 rfl rfl rfl ?_
  refine s_getS B X0 (pc' := 4) e0 (tw15 hw) Via.refl S_WRITE d2_1 rfl (fun T1 X1 e1 => ?_)
  refine b_acmp_eq B X1 (py := 14) (pn := 7) d2_4 (by decide) (by decide) rfl (fun q => absurd q (own_ne_w_MEMBERSHIP_w_WRITE F0)) (fun _ => ?_)
  refine s_aloadN B X1 (pc' := 8) d2_7 rfl rfl rfl ?_
  refine s_getS B X1 (pc' := 11) e1 (tw15 hw) Via.refl S_WRITE d2_8 rfl (fun T2 X2 e2 => ?_)
  refine b_acmp_ne B X2 (py := 19) (pn := 14) d2_11 (by decide) (by decide) rfl (fun _ => ?_) (fun q => absurd q (own_ne_w_MEMBERSHIP_w_WRITE F0))
  refine s_aloadN B X2 (pc' := 20) d2_19 rfl rfl rfl ?_
  refine s_getS B X2 (pc' := 23) e2 (tw20 hw) Via.refl S_SHARED d2_20 rfl (fun T3 X3 e3 => ?_)
  refine b_acmp_eq B X3 (py := 33) (pn := 26) d2_23 (by decide) (by decide) rfl (fun q => absurd q (own_ne_w_MEMBERSHIP_w_SHARED F0)) (fun _ => ?_)
  refine s_aloadN B X3 (pc' := 27) d2_26 rfl rfl rfl ?_
  refine s_getS B X3 (pc' := 30) e3 (tw20 hw) Via.refl S_SHARED d2_27 rfl (fun T4 X4 e4 => ?_)
  refine b_acmp_ne B X4 (py := 38) (pn := 33) d2_30 (by decide) (by decide) rfl (fun _ => ?_) (fun q => absurd q (own_ne_w_MEMBERSHIP_w_SHARED F0))
  refine s_aloadN B X4 (pc' := 39) d2_38 rfl rfl rfl ?_
  refine s_aloadN B X4 (pc' := 40) d2_39 rfl rfl rfl ?_
  refine b_acmp_eq B X4 (py := 47) (pn := 43) d2_40 (by decide) (by decide) rfl (fun _ => ?_) (fun q => absurd rfl q)
  refine s_iconst B X4 (pc' := 48) (v := (0 : Int32)) d2_47 rfl rfl ?_
  refine s_istoreN B X4 (pc' := 49) (Ls' := #[.val (.ref w_MEMBERSHIP), .val (.ref w_MEMBERSHIP), .val (.int (0 : Int32))]) d2_48 rfl rfl ?_
  refine s_iloadN B X4 (pc' := 50) d2_49 rfl rfl ?_
  exact r_nar B X4 (t := .boolean) (by simp) rfl d2_50 ⟨rfl, rfl, e4⟩ (by decide) (by decide)

theorem pn_rm2_15 : plainName "com/example/isolation/isolation/LockMode" = true := by first | (simp [plainName, overriddenIn]; done) | decide +kernel
set_option maxRecDepth 65536 in
set_option maxHeartbeats 40000000 in
theorem rm2_15 (l : Launch) (Z : State) (a0 : Array Value) (hw : ∀ d ∈ tables_1, d.before a0 Z = true)  (w_SHARED w_WRITE w_MEMBERSHIP w_READ : Addr) (h0 : Heap) (F0 : OwnF Z h0 w_SHARED w_WRITE w_MEMBERSHIP w_READ)  :
    OMeets l Z mn1 prog_29_method_4_code 3 (some .boolean) [] ({ frames := 0, cells := 0, slots := 0, locals := 0 } : Room) #[(.ref w_MEMBERSHIP), (.ref w_WRITE)] h0 (PureQ (some (.int (1 : Int32))) h0) := by
  refine OMeets.of pn_rm2_15 #[.val (.ref w_MEMBERSHIP), .val (.ref w_WRITE), .unset] (fun m => by first | rfl | (simp [entryFrame, mkF, argsToLocals, Value.category, maxLocals]; done)) ?_
  intro p e s m below meth c s₁ B X0 e0
  have F := F0
  obtain ⟨S_SHARED, E_SHARED, S_WRITE, E_WRITE, S_MEMBERSHIP, E_MEMBERSHIP, S_READ, E_READ, F_SHARED_ordinal, F_WRITE_ordinal, F_MEMBERSHIP_ordinal, F_READ_ordinal⟩ := F
  refine s_aloadN B X0 (pc' := 1) d2_0 rfl rfl rfl ?_
  refine s_getS B X0 (pc' := 4) e0 (tw15 hw) Via.refl S_WRITE d2_1 rfl (fun T1 X1 e1 => ?_)
  refine b_acmp_eq B X1 (py := 14) (pn := 7) d2_4 (by decide) (by decide) rfl (fun q => absurd q (own_ne_w_MEMBERSHIP_w_WRITE F0)) (fun _ => ?_)
  refine s_aloadN B X1 (pc' := 8) d2_7 rfl rfl rfl ?_
  refine s_getS B X1 (pc' := 11) e1 (tw15 hw) Via.refl S_WRITE d2_8 rfl (fun T2 X2 e2 => ?_)
  refine b_acmp_ne B X2 (py := 19) (pn := 14) d2_11 (by decide) (by decide) rfl (fun q => absurd rfl q) (fun _ => ?_)
  refine s_iconst B X2 (pc' := 15) (v := (1 : Int32)) d2_14 rfl rfl ?_
  refine s_istoreN B X2 (pc' := 16) (Ls' := #[.val (.ref w_MEMBERSHIP), .val (.ref w_WRITE), .val (.int (1 : Int32))]) d2_15 rfl rfl ?_
  refine s_goto B X2 (pc' := 49) d2_16 (by decide) (by decide) ?_
  refine s_iloadN B X2 (pc' := 50) d2_49 rfl rfl ?_
  exact r_nar B X2 (t := .boolean) (by simp) rfl d2_50 ⟨rfl, rfl, e2⟩ (by decide) (by decide)

theorem pn_rm2_16 : plainName "com/example/isolation/isolation/LockMode" = true := by first | (simp [plainName, overriddenIn]; done) | decide +kernel
set_option maxRecDepth 65536 in
set_option maxHeartbeats 40000000 in
theorem rm2_16 (l : Launch) (Z : State) (a0 : Array Value) (hw : ∀ d ∈ tables_1, d.before a0 Z = true)  (w_SHARED w_WRITE w_MEMBERSHIP w_READ : Addr) (h0 : Heap) (F0 : OwnF Z h0 w_SHARED w_WRITE w_MEMBERSHIP w_READ)  :
    OMeets l Z mn1 prog_29_method_4_code 3 (some .boolean) [] ({ frames := 0, cells := 0, slots := 0, locals := 0 } : Room) #[(.ref w_WRITE), (.ref w_SHARED)] h0 (PureQ (some (.int (1 : Int32))) h0) := by
  refine OMeets.of pn_rm2_16 #[.val (.ref w_WRITE), .val (.ref w_SHARED), .unset] (fun m => by first | rfl | (simp [entryFrame, mkF, argsToLocals, Value.category, maxLocals]; done)) ?_
  intro p e s m below meth c s₁ B X0 e0
  have F := F0
  obtain ⟨S_SHARED, E_SHARED, S_WRITE, E_WRITE, S_MEMBERSHIP, E_MEMBERSHIP, S_READ, E_READ, F_SHARED_ordinal, F_WRITE_ordinal, F_MEMBERSHIP_ordinal, F_READ_ordinal⟩ := F
  refine s_aloadN B X0 (pc' := 1) d2_0 rfl rfl rfl ?_
  refine s_getS B X0 (pc' := 4) e0 (tw15 hw) Via.refl S_WRITE d2_1 rfl (fun T1 X1 e1 => ?_)
  refine b_acmp_eq B X1 (py := 14) (pn := 7) d2_4 (by decide) (by decide) rfl (fun _ => ?_) (fun q => absurd rfl q)
  refine s_iconst B X1 (pc' := 15) (v := (1 : Int32)) d2_14 rfl rfl ?_
  refine s_istoreN B X1 (pc' := 16) (Ls' := #[.val (.ref w_WRITE), .val (.ref w_SHARED), .val (.int (1 : Int32))]) d2_15 rfl rfl ?_
  refine s_goto B X1 (pc' := 49) d2_16 (by decide) (by decide) ?_
  refine s_iloadN B X1 (pc' := 50) d2_49 rfl rfl ?_
  exact r_nar B X1 (t := .boolean) (by simp) rfl d2_50 ⟨rfl, rfl, e1⟩ (by decide) (by decide)

theorem pn_rm2_17 : plainName "com/example/isolation/isolation/LockMode" = true := by first | (simp [plainName, overriddenIn]; done) | decide +kernel
set_option maxRecDepth 65536 in
set_option maxHeartbeats 40000000 in
theorem rm2_17 (l : Launch) (Z : State) (a0 : Array Value) (hw : ∀ d ∈ tables_1, d.before a0 Z = true)  (w_SHARED w_WRITE w_MEMBERSHIP w_READ : Addr) (h0 : Heap) (F0 : OwnF Z h0 w_SHARED w_WRITE w_MEMBERSHIP w_READ)  :
    OMeets l Z mn1 prog_29_method_4_code 3 (some .boolean) [] ({ frames := 0, cells := 0, slots := 0, locals := 0 } : Room) #[(.ref w_WRITE), (.ref w_READ)] h0 (PureQ (some (.int (1 : Int32))) h0) := by
  refine OMeets.of pn_rm2_17 #[.val (.ref w_WRITE), .val (.ref w_READ), .unset] (fun m => by first | rfl | (simp [entryFrame, mkF, argsToLocals, Value.category, maxLocals]; done)) ?_
  intro p e s m below meth c s₁ B X0 e0
  have F := F0
  obtain ⟨S_SHARED, E_SHARED, S_WRITE, E_WRITE, S_MEMBERSHIP, E_MEMBERSHIP, S_READ, E_READ, F_SHARED_ordinal, F_WRITE_ordinal, F_MEMBERSHIP_ordinal, F_READ_ordinal⟩ := F
  refine s_aloadN B X0 (pc' := 1) d2_0 rfl rfl rfl ?_
  refine s_getS B X0 (pc' := 4) e0 (tw15 hw) Via.refl S_WRITE d2_1 rfl (fun T1 X1 e1 => ?_)
  refine b_acmp_eq B X1 (py := 14) (pn := 7) d2_4 (by decide) (by decide) rfl (fun _ => ?_) (fun q => absurd rfl q)
  refine s_iconst B X1 (pc' := 15) (v := (1 : Int32)) d2_14 rfl rfl ?_
  refine s_istoreN B X1 (pc' := 16) (Ls' := #[.val (.ref w_WRITE), .val (.ref w_READ), .val (.int (1 : Int32))]) d2_15 rfl rfl ?_
  refine s_goto B X1 (pc' := 49) d2_16 (by decide) (by decide) ?_
  refine s_iloadN B X1 (pc' := 50) d2_49 rfl rfl ?_
  exact r_nar B X1 (t := .boolean) (by simp) rfl d2_50 ⟨rfl, rfl, e1⟩ (by decide) (by decide)

theorem pn_rm2_18 : plainName "com/example/isolation/isolation/LockMode" = true := by first | (simp [plainName, overriddenIn]; done) | decide +kernel
set_option maxRecDepth 65536 in
set_option maxHeartbeats 40000000 in
theorem rm2_18 (l : Launch) (Z : State) (a0 : Array Value) (hw : ∀ d ∈ tables_1, d.before a0 Z = true)  (w_SHARED w_WRITE w_MEMBERSHIP w_READ : Addr) (h0 : Heap) (F0 : OwnF Z h0 w_SHARED w_WRITE w_MEMBERSHIP w_READ)  :
    OMeets l Z mn1 prog_29_method_4_code 3 (some .boolean) [] ({ frames := 0, cells := 0, slots := 0, locals := 0 } : Room) #[(.ref w_WRITE), (.ref w_MEMBERSHIP)] h0 (PureQ (some (.int (1 : Int32))) h0) := by
  refine OMeets.of pn_rm2_18 #[.val (.ref w_WRITE), .val (.ref w_MEMBERSHIP), .unset] (fun m => by first | rfl | (simp [entryFrame, mkF, argsToLocals, Value.category, maxLocals]; done)) ?_
  intro p e s m below meth c s₁ B X0 e0
  have F := F0
  obtain ⟨S_SHARED, E_SHARED, S_WRITE, E_WRITE, S_MEMBERSHIP, E_MEMBERSHIP, S_READ, E_READ, F_SHARED_ordinal, F_WRITE_ordinal, F_MEMBERSHIP_ordinal, F_READ_ordinal⟩ := F
  refine s_aloadN B X0 (pc' := 1) d2_0 rfl rfl rfl ?_
  refine s_getS B X0 (pc' := 4) e0 (tw15 hw) Via.refl S_WRITE d2_1 rfl (fun T1 X1 e1 => ?_)
  refine b_acmp_eq B X1 (py := 14) (pn := 7) d2_4 (by decide) (by decide) rfl (fun _ => ?_) (fun q => absurd rfl q)
  refine s_iconst B X1 (pc' := 15) (v := (1 : Int32)) d2_14 rfl rfl ?_
  refine s_istoreN B X1 (pc' := 16) (Ls' := #[.val (.ref w_WRITE), .val (.ref w_MEMBERSHIP), .val (.int (1 : Int32))]) d2_15 rfl rfl ?_
  refine s_goto B X1 (pc' := 49) d2_16 (by decide) (by decide) ?_
  refine s_iloadN B X1 (pc' := 50) d2_49 rfl rfl ?_
  exact r_nar B X1 (t := .boolean) (by simp) rfl d2_50 ⟨rfl, rfl, e1⟩ (by decide) (by decide)

theorem pn_rm2_19 : plainName "com/example/isolation/isolation/LockMode" = true := by first | (simp [plainName, overriddenIn]; done) | decide +kernel
set_option maxRecDepth 65536 in
set_option maxHeartbeats 40000000 in
theorem rm2_19 (l : Launch) (Z : State) (a0 : Array Value) (hw : ∀ d ∈ tables_1, d.before a0 Z = true)  (w_SHARED w_WRITE w_MEMBERSHIP w_READ : Addr) (h0 : Heap) (F0 : OwnF Z h0 w_SHARED w_WRITE w_MEMBERSHIP w_READ)  :
    OMeets l Z mn1 prog_29_method_4_code 3 (some .boolean) [] ({ frames := 0, cells := 0, slots := 0, locals := 0 } : Room) #[(.ref w_WRITE), (.ref w_WRITE)] h0 (PureQ (some (.int (1 : Int32))) h0) := by
  refine OMeets.of pn_rm2_19 #[.val (.ref w_WRITE), .val (.ref w_WRITE), .unset] (fun m => by first | rfl | (simp [entryFrame, mkF, argsToLocals, Value.category, maxLocals]; done)) ?_
  intro p e s m below meth c s₁ B X0 e0
  have F := F0
  obtain ⟨S_SHARED, E_SHARED, S_WRITE, E_WRITE, S_MEMBERSHIP, E_MEMBERSHIP, S_READ, E_READ, F_SHARED_ordinal, F_WRITE_ordinal, F_MEMBERSHIP_ordinal, F_READ_ordinal⟩ := F
  refine s_aloadN B X0 (pc' := 1) d2_0 rfl rfl rfl ?_
  refine s_getS B X0 (pc' := 4) e0 (tw15 hw) Via.refl S_WRITE d2_1 rfl (fun T1 X1 e1 => ?_)
  refine b_acmp_eq B X1 (py := 14) (pn := 7) d2_4 (by decide) (by decide) rfl (fun _ => ?_) (fun q => absurd rfl q)
  refine s_iconst B X1 (pc' := 15) (v := (1 : Int32)) d2_14 rfl rfl ?_
  refine s_istoreN B X1 (pc' := 16) (Ls' := #[.val (.ref w_WRITE), .val (.ref w_WRITE), .val (.int (1 : Int32))]) d2_15 rfl rfl ?_
  refine s_goto B X1 (pc' := 49) d2_16 (by decide) (by decide) ?_
  refine s_iloadN B X1 (pc' := 50) d2_49 rfl rfl ?_
  exact r_nar B X1 (t := .boolean) (by simp) rfl d2_50 ⟨rfl, rfl, e1⟩ (by decide) (by decide)

theorem pn_rm_law : plainName "com/example/isolation/isolation/LockModeConflictsWithPinLaw" = true := by first | (simp [plainName, overriddenIn]; done) | decide +kernel
set_option maxRecDepth 65536 in
set_option maxHeartbeats 40000000 in
theorem rm_law (l : Launch) (Z : State) (a0 : Array Value) (hw : ∀ d ∈ tables_1, d.before a0 Z = true) (i0 : Int32) (i1 : Int32) (w_SHARED w_WRITE w_MEMBERSHIP w_READ : Addr) (F0 : OwnF Z Z.heap w_SHARED w_WRITE w_MEMBERSHIP w_READ) :
    OMeets l Z x code maxLocals ret tables_1 room_1 #[(.int i0), (.int i1)] Z.heap (fun v h L => v = some (.int 1) ∧ Fr Z.heap.size L) := by
  refine OMeets.of pn_rm_law #[.val (.int i0), .val (.int i1), .unset, .unset, .unset, .unset, .unset] (fun m => by first | rfl | (simp [entryFrame, mkF, argsToLocals, Value.category, maxLocals]; done)) ?_
  intro p e s m below meth c s₁ B X0 e0
  have F := F0
  obtain ⟨S_SHARED, E_SHARED, S_WRITE, E_WRITE, S_MEMBERSHIP, E_MEMBERSHIP, S_READ, E_READ, F_SHARED_ordinal, F_WRITE_ordinal, F_MEMBERSHIP_ordinal, F_READ_ordinal⟩ := F
  rcases own_and3 i0 with hv1 | hv1 | hv1 | hv1
  · rcases own_and3 i1 with hv2 | hv2 | hv2 | hv2
    · refine s_iloadN B X0 (pc' := 1) at_0 rfl rfl ?_
      refine s_iconst B X0 (pc' := 2) (v := (3 : Int32)) at_1 rfl rfl ?_
      refine s_iand B X0 (pc' := 3) (v := (0 : Int32)) at_2 (hv1) rfl ?_
      refine s_istoreN B X0 (pc' := 4) (Ls' := #[.val (.int i0), .val (.int i1), .val (.int (0 : Int32)), .unset, .unset, .unset, .unset]) at_3 rfl rfl ?_
      refine s_iloadN B X0 (pc' := 5) at_4 rfl rfl ?_
      refine s_iconst B X0 (pc' := 6) (v := (3 : Int32)) at_5 rfl rfl ?_
      refine s_iand B X0 (pc' := 7) (v := (0 : Int32)) at_6 (hv2) rfl ?_
      refine s_istoreN B X0 (pc' := 8) (Ls' := #[.val (.int i0), .val (.int i1), .val (.int (0 : Int32)), .val (.int (0 : Int32)), .unset, .unset, .unset]) at_7 rfl rfl ?_
      refine s_iconst B X0 (pc' := 9) (v := (4 : Int32)) at_8 rfl rfl ?_
      refine s_newP B X0 (pc' := 11) (aty := .int) (N := 4) (cap := 4) e0 (tw0 hw) (by decide) (by decide) (by decide) (by decide) (by decide) (by decide) at_9 rfl (fun T3 h3 o3 k3 g3 X3 e3 E3 A3 => ?_)
      have ge_o3 : Z.heap.size ≤ o3 := g3 ▸ old_le (Old.start Z)
      replace A3 : Ary Z h3 o3 k3 .int 4 (lst [(.int (0 : Int32)), (.int (0 : Int32)), (.int (0 : Int32)), (.int (0 : Int32))] (.int (0 : Int32))) := A3.congr (own_rep 4)
      have O3 := ((Old.start Z)).ext E3
      have F3 := OwnF.ext O3.2 F0
      show Go p e below _ (T3.setTop (mkF m 11 #[.val (.int i0), .val (.int i1), .val (.int (0 : Int32)), .val (.int (0 : Int32)), .unset, .unset, .unset] [(.ref o3)]))
      refine s_dup B X3 (pc' := 12) at_11 rfl rfl ?_
      refine s_iconst B X3 (pc' := 13) (v := (0 : Int32)) at_12 rfl rfl ?_
      refine s_bipush B X3 (pc' := 15) (v := (8 : Int32)) at_13 rfl rfl ?_
      refine s_stI B X3 (pc' := 16) (jn := 0) e3 A3  (by decide) (by decide) (by decide) at_15 rfl (fun T4 h4 X4 e4 W4 A4 => ?_)
      replace A4 := A4.full (show 0 < 4 by decide) (L' := [(.int (8 : Int32)), (.int (0 : Int32)), (.int (0 : Int32)), (.int (0 : Int32))]) rfl
      have N4 := Fr.snoc X4 (Fr.nil _) ge_o3
      have O4 := (O3).wr W4 ge_o3
      have F4 := OwnF.ext O4.2 F0
      show Go p e below _ (T4.setTop (mkF m 16 #[.val (.int i0), .val (.int i1), .val (.int (0 : Int32)), .val (.int (0 : Int32)), .unset, .unset, .unset] [(.ref o3)]))
      refine s_dup B X4 (pc' := 17) at_16 rfl rfl ?_
      refine s_iconst B X4 (pc' := 18) (v := (1 : Int32)) at_17 rfl rfl ?_
      refine s_bipush B X4 (pc' := 20) (v := (12 : Int32)) at_18 rfl rfl ?_
      refine s_stI B X4 (pc' := 21) (jn := 1) e4 A4  (by decide) (by decide) (by decide) at_20 rfl (fun T5 h5 X5 e5 W5 A5 => ?_)
      replace A5 := A5.full (show 1 < 4 by decide) (L' := [(.int (8 : Int32)), (.int (12 : Int32)), (.int (0 : Int32)), (.int (0 : Int32))]) rfl
      have N5 := Fr.snoc X5 N4 ge_o3
      have O5 := (O4).wr W5 ge_o3
      have F5 := OwnF.ext O5.2 F0
      show Go p e below _ (T5.setTop (mkF m 21 #[.val (.int i0), .val (.int i1), .val (.int (0 : Int32)), .val (.int (0 : Int32)), .unset, .unset, .unset] [(.ref o3)]))
      refine s_dup B X5 (pc' := 22) at_21 rfl rfl ?_
      refine s_iconst B X5 (pc' := 23) (v := (2 : Int32)) at_22 rfl rfl ?_
      refine s_bipush B X5 (pc' := 25) (v := (10 : Int32)) at_23 rfl rfl ?_
      refine s_stI B X5 (pc' := 26) (jn := 2) e5 A5  (by decide) (by decide) (by decide) at_25 rfl (fun T6 h6 X6 e6 W6 A6 => ?_)
      replace A6 := A6.full (show 2 < 4 by decide) (L' := [(.int (8 : Int32)), (.int (12 : Int32)), (.int (10 : Int32)), (.int (0 : Int32))]) rfl
      have N6 := Fr.snoc X6 N5 ge_o3
      have O6 := (O5).wr W6 ge_o3
      have F6 := OwnF.ext O6.2 F0
      show Go p e below _ (T6.setTop (mkF m 26 #[.val (.int i0), .val (.int i1), .val (.int (0 : Int32)), .val (.int (0 : Int32)), .unset, .unset, .unset] [(.ref o3)]))
      refine s_dup B X6 (pc' := 27) at_26 rfl rfl ?_
      refine s_iconst B X6 (pc' := 28) (v := (3 : Int32)) at_27 rfl rfl ?_
      refine s_bipush B X6 (pc' := 30) (v := (15 : Int32)) at_28 rfl rfl ?_
      refine s_stI B X6 (pc' := 31) (jn := 3) e6 A6  (by decide) (by decide) (by decide) at_30 rfl (fun T7 h7 X7 e7 W7 A7 => ?_)
      replace A7 := A7.full (show 3 < 4 by decide) (L' := [(.int (8 : Int32)), (.int (12 : Int32)), (.int (10 : Int32)), (.int (15 : Int32))]) rfl
      have N7 := Fr.snoc X7 N6 ge_o3
      have O7 := (O6).wr W7 ge_o3
      have F7 := OwnF.ext O7.2 F0
      show Go p e below _ (T7.setTop (mkF m 31 #[.val (.int i0), .val (.int i1), .val (.int (0 : Int32)), .val (.int (0 : Int32)), .unset, .unset, .unset] [(.ref o3)]))
      refine s_astore B X7 (pc' := 33) (Ls' := #[.val (.int i0), .val (.int i1), .val (.int (0 : Int32)), .val (.int (0 : Int32)), .val (.ref o3), .unset, .unset]) at_31 rfl rfl rfl ?_
      refine s_aload B X7 (pc' := 35) at_33 rfl rfl rfl ?_
      refine s_iloadN B X7 (pc' := 36) at_35 rfl rfl ?_
      refine s_ldI B X7 (pc' := 37) (jn := 0) (v := (.int (8 : Int32))) e7 A7 (by decide) (by decide) (by decide) rfl at_36 rfl ?_
      refine s_iloadN B X7 (pc' := 38) at_37 rfl rfl ?_
      refine s_ishr B X7 (pc' := 39) (v := (8 : Int32)) at_38 (by decide +kernel) rfl ?_
      refine s_iconst B X7 (pc' := 40) (v := (1 : Int32)) at_39 rfl rfl ?_
      refine s_iand B X7 (pc' := 41) (v := (0 : Int32)) at_40 rfl rfl ?_
      refine s_ifY B X7 (pc' := 48) at_41 (by decide) (by decide) (by decide) ?_
      refine s_iconst B X7 (pc' := 49) (v := (0 : Int32)) at_48 rfl rfl ?_
      refine s_istore B X7 (pc' := 51) (Ls' := #[.val (.int i0), .val (.int i1), .val (.int (0 : Int32)), .val (.int (0 : Int32)), .val (.ref o3), .val (.int (0 : Int32)), .unset]) at_49 rfl rfl ?_
      refine s_iloadN B X7 (pc' := 52) at_51 rfl rfl ?_
      refine p_static B X7 (y := mn0) (pc' := 55) (argsL := [(.int (0 : Int32))]) (under := []) (W := 0) e7 (tw1 hw) (tw2 hw) (tw4 hw) (tw3 hw) (by decide) (rm1_0 l Z a0 hw  w_SHARED w_WRITE w_MEMBERSHIP w_READ h7 F7 ) (lenOf pd_0 rfl) rfl rfl (by decide) (by decide) rfl rfl (by decide) (by decide) rfl at_52 rfl (fun T8 X8 e8 => ?_)
      show Go p e below _ (T8.setTop (mkF m 55 #[.val (.int i0), .val (.int i1), .val (.int (0 : Int32)), .val (.int (0 : Int32)), .val (.ref o3), .val (.int (0 : Int32)), .unset] [(.ref w_SHARED)]))
      refine s_iloadN B X8 (pc' := 56) at_55 rfl rfl ?_
      refine p_static B X8 (y := mn0) (pc' := 59) (argsL := [(.int (0 : Int32))]) (under := [(.ref w_SHARED)]) (W := 1) e8 (tw1 hw) (tw2 hw) (tw4 hw) (tw3 hw) (by decide) (rm1_0 l Z a0 hw  w_SHARED w_WRITE w_MEMBERSHIP w_READ h7 F7 ) (lenOf pd_0 rfl) rfl rfl (by decide) (by decide) rfl rfl (by decide) (by decide) rfl at_56 rfl (fun T9 X9 e9 => ?_)
      show Go p e below _ (T9.setTop (mkF m 59 #[.val (.int i0), .val (.int i1), .val (.int (0 : Int32)), .val (.int (0 : Int32)), .val (.ref o3), .val (.int (0 : Int32)), .unset] [(.ref w_SHARED), (.ref w_SHARED)]))
      obtain ⟨S_SHARED, E_SHARED, S_WRITE, E_WRITE, S_MEMBERSHIP, E_MEMBERSHIP, S_READ, E_READ, F_SHARED_ordinal, F_WRITE_ordinal, F_MEMBERSHIP_ordinal, F_READ_ordinal⟩ := id F7
      refine p_virtual B X9 (y := mn1) (pc' := 62) (argsL := [(.ref w_SHARED)]) (under := []) (W := 0) e9 (tw10 hw) (tw11 hw) (tw13 hw) (tw12 hw) (tw14 hw) (tw6 hw) (by decide) (rm2_1 l Z a0 hw  w_SHARED w_WRITE w_MEMBERSHIP w_READ h7 F7 ) E_SHARED (lenOf pd_1 rfl) rfl rfl (by decide) (by decide) rfl rfl (by decide) (by decide) rfl at_59 rfl (fun T10 X10 e10 => ?_)
      show Go p e below _ (T10.setTop (mkF m 62 #[.val (.int i0), .val (.int i1), .val (.int (0 : Int32)), .val (.int (0 : Int32)), .val (.ref o3), .val (.int (0 : Int32)), .unset] [(.int (0 : Int32))]))
      refine s_istore B X10 (pc' := 64) (Ls' := #[.val (.int i0), .val (.int i1), .val (.int (0 : Int32)), .val (.int (0 : Int32)), .val (.ref o3), .val (.int (0 : Int32)), .val (.int (0 : Int32))]) at_62 rfl rfl ?_
      refine s_iload B X10 (pc' := 66) at_64 rfl rfl ?_
      refine s_iload B X10 (pc' := 68) at_66 rfl rfl ?_
      refine s_icmpN B X10 (pc' := 71) at_68 (by decide) rfl ?_
      refine s_iconst B X10 (pc' := 72) (v := (1 : Int32)) at_71 rfl rfl ?_
      refine s_goto B X10 (pc' := 76) at_72 (by decide) (by decide) ?_
      exact r_nar B X10 (t := .boolean) (by simp) rfl at_76 ⟨rfl, N7⟩ (by decide) (by decide)
    · refine s_iloadN B X0 (pc' := 1) at_0 rfl rfl ?_
      refine s_iconst B X0 (pc' := 2) (v := (3 : Int32)) at_1 rfl rfl ?_
      refine s_iand B X0 (pc' := 3) (v := (0 : Int32)) at_2 (hv1) rfl ?_
      refine s_istoreN B X0 (pc' := 4) (Ls' := #[.val (.int i0), .val (.int i1), .val (.int (0 : Int32)), .unset, .unset, .unset, .unset]) at_3 rfl rfl ?_
      refine s_iloadN B X0 (pc' := 5) at_4 rfl rfl ?_
      refine s_iconst B X0 (pc' := 6) (v := (3 : Int32)) at_5 rfl rfl ?_
      refine s_iand B X0 (pc' := 7) (v := (1 : Int32)) at_6 (hv2) rfl ?_
      refine s_istoreN B X0 (pc' := 8) (Ls' := #[.val (.int i0), .val (.int i1), .val (.int (0 : Int32)), .val (.int (1 : Int32)), .unset, .unset, .unset]) at_7 rfl rfl ?_
      refine s_iconst B X0 (pc' := 9) (v := (4 : Int32)) at_8 rfl rfl ?_
      refine s_newP B X0 (pc' := 11) (aty := .int) (N := 4) (cap := 4) e0 (tw0 hw) (by decide) (by decide) (by decide) (by decide) (by decide) (by decide) at_9 rfl (fun T11 h11 o11 k11 g11 X11 e11 E11 A11 => ?_)
      have ge_o11 : Z.heap.size ≤ o11 := g11 ▸ old_le (Old.start Z)
      replace A11 : Ary Z h11 o11 k11 .int 4 (lst [(.int (0 : Int32)), (.int (0 : Int32)), (.int (0 : Int32)), (.int (0 : Int32))] (.int (0 : Int32))) := A11.congr (own_rep 4)
      have O11 := ((Old.start Z)).ext E11
      have F11 := OwnF.ext O11.2 F0
      show Go p e below _ (T11.setTop (mkF m 11 #[.val (.int i0), .val (.int i1), .val (.int (0 : Int32)), .val (.int (1 : Int32)), .unset, .unset, .unset] [(.ref o11)]))
      refine s_dup B X11 (pc' := 12) at_11 rfl rfl ?_
      refine s_iconst B X11 (pc' := 13) (v := (0 : Int32)) at_12 rfl rfl ?_
      refine s_bipush B X11 (pc' := 15) (v := (8 : Int32)) at_13 rfl rfl ?_
      refine s_stI B X11 (pc' := 16) (jn := 0) e11 A11  (by decide) (by decide) (by decide) at_15 rfl (fun T12 h12 X12 e12 W12 A12 => ?_)
      replace A12 := A12.full (show 0 < 4 by decide) (L' := [(.int (8 : Int32)), (.int (0 : Int32)), (.int (0 : Int32)), (.int (0 : Int32))]) rfl
      have N12 := Fr.snoc X12 (Fr.nil _) ge_o11
      have O12 := (O11).wr W12 ge_o11
      have F12 := OwnF.ext O12.2 F0
      show Go p e below _ (T12.setTop (mkF m 16 #[.val (.int i0), .val (.int i1), .val (.int (0 : Int32)), .val (.int (1 : Int32)), .unset, .unset, .unset] [(.ref o11)]))
      refine s_dup B X12 (pc' := 17) at_16 rfl rfl ?_
      refine s_iconst B X12 (pc' := 18) (v := (1 : Int32)) at_17 rfl rfl ?_
      refine s_bipush B X12 (pc' := 20) (v := (12 : Int32)) at_18 rfl rfl ?_
      refine s_stI B X12 (pc' := 21) (jn := 1) e12 A12  (by decide) (by decide) (by decide) at_20 rfl (fun T13 h13 X13 e13 W13 A13 => ?_)
      replace A13 := A13.full (show 1 < 4 by decide) (L' := [(.int (8 : Int32)), (.int (12 : Int32)), (.int (0 : Int32)), (.int (0 : Int32))]) rfl
      have N13 := Fr.snoc X13 N12 ge_o11
      have O13 := (O12).wr W13 ge_o11
      have F13 := OwnF.ext O13.2 F0
      show Go p e below _ (T13.setTop (mkF m 21 #[.val (.int i0), .val (.int i1), .val (.int (0 : Int32)), .val (.int (1 : Int32)), .unset, .unset, .unset] [(.ref o11)]))
      refine s_dup B X13 (pc' := 22) at_21 rfl rfl ?_
      refine s_iconst B X13 (pc' := 23) (v := (2 : Int32)) at_22 rfl rfl ?_
      refine s_bipush B X13 (pc' := 25) (v := (10 : Int32)) at_23 rfl rfl ?_
      refine s_stI B X13 (pc' := 26) (jn := 2) e13 A13  (by decide) (by decide) (by decide) at_25 rfl (fun T14 h14 X14 e14 W14 A14 => ?_)
      replace A14 := A14.full (show 2 < 4 by decide) (L' := [(.int (8 : Int32)), (.int (12 : Int32)), (.int (10 : Int32)), (.int (0 : Int32))]) rfl
      have N14 := Fr.snoc X14 N13 ge_o11
      have O14 := (O13).wr W14 ge_o11
      have F14 := OwnF.ext O14.2 F0
      show Go p e below _ (T14.setTop (mkF m 26 #[.val (.int i0), .val (.int i1), .val (.int (0 : Int32)), .val (.int (1 : Int32)), .unset, .unset, .unset] [(.ref o11)]))
      refine s_dup B X14 (pc' := 27) at_26 rfl rfl ?_
      refine s_iconst B X14 (pc' := 28) (v := (3 : Int32)) at_27 rfl rfl ?_
      refine s_bipush B X14 (pc' := 30) (v := (15 : Int32)) at_28 rfl rfl ?_
      refine s_stI B X14 (pc' := 31) (jn := 3) e14 A14  (by decide) (by decide) (by decide) at_30 rfl (fun T15 h15 X15 e15 W15 A15 => ?_)
      replace A15 := A15.full (show 3 < 4 by decide) (L' := [(.int (8 : Int32)), (.int (12 : Int32)), (.int (10 : Int32)), (.int (15 : Int32))]) rfl
      have N15 := Fr.snoc X15 N14 ge_o11
      have O15 := (O14).wr W15 ge_o11
      have F15 := OwnF.ext O15.2 F0
      show Go p e below _ (T15.setTop (mkF m 31 #[.val (.int i0), .val (.int i1), .val (.int (0 : Int32)), .val (.int (1 : Int32)), .unset, .unset, .unset] [(.ref o11)]))
      refine s_astore B X15 (pc' := 33) (Ls' := #[.val (.int i0), .val (.int i1), .val (.int (0 : Int32)), .val (.int (1 : Int32)), .val (.ref o11), .unset, .unset]) at_31 rfl rfl rfl ?_
      refine s_aload B X15 (pc' := 35) at_33 rfl rfl rfl ?_
      refine s_iloadN B X15 (pc' := 36) at_35 rfl rfl ?_
      refine s_ldI B X15 (pc' := 37) (jn := 0) (v := (.int (8 : Int32))) e15 A15 (by decide) (by decide) (by decide) rfl at_36 rfl ?_
      refine s_iloadN B X15 (pc' := 38) at_37 rfl rfl ?_
      refine s_ishr B X15 (pc' := 39) (v := (4 : Int32)) at_38 (by decide +kernel) rfl ?_
      refine s_iconst B X15 (pc' := 40) (v := (1 : Int32)) at_39 rfl rfl ?_
      refine s_iand B X15 (pc' := 41) (v := (0 : Int32)) at_40 rfl rfl ?_
      refine s_ifY B X15 (pc' := 48) at_41 (by decide) (by decide) (by decide) ?_
      refine s_iconst B X15 (pc' := 49) (v := (0 : Int32)) at_48 rfl rfl ?_
      refine s_istore B X15 (pc' := 51) (Ls' := #[.val (.int i0), .val (.int i1), .val (.int (0 : Int32)), .val (.int (1 : Int32)), .val (.ref o11), .val (.int (0 : Int32)), .unset]) at_49 rfl rfl ?_
      refine s_iloadN B X15 (pc' := 52) at_51 rfl rfl ?_
      refine p_static B X15 (y := mn0) (pc' := 55) (argsL := [(.int (0 : Int32))]) (under := []) (W := 0) e15 (tw1 hw) (tw2 hw) (tw4 hw) (tw3 hw) (by decide) (rm1_0 l Z a0 hw  w_SHARED w_WRITE w_MEMBERSHIP w_READ h15 F15 ) (lenOf pd_0 rfl) rfl rfl (by decide) (by decide) rfl rfl (by decide) (by decide) rfl at_52 rfl (fun T16 X16 e16 => ?_)
      show Go p e below _ (T16.setTop (mkF m 55 #[.val (.int i0), .val (.int i1), .val (.int (0 : Int32)), .val (.int (1 : Int32)), .val (.ref o11), .val (.int (0 : Int32)), .unset] [(.ref w_SHARED)]))
      refine s_iloadN B X16 (pc' := 56) at_55 rfl rfl ?_
      refine p_static B X16 (y := mn0) (pc' := 59) (argsL := [(.int (1 : Int32))]) (under := [(.ref w_SHARED)]) (W := 1) e16 (tw1 hw) (tw2 hw) (tw4 hw) (tw3 hw) (by decide) (rm1_2 l Z a0 hw  w_SHARED w_WRITE w_MEMBERSHIP w_READ h15 F15 ) (lenOf pd_0 rfl) rfl rfl (by decide) (by decide) rfl rfl (by decide) (by decide) rfl at_56 rfl (fun T17 X17 e17 => ?_)
      show Go p e below _ (T17.setTop (mkF m 59 #[.val (.int i0), .val (.int i1), .val (.int (0 : Int32)), .val (.int (1 : Int32)), .val (.ref o11), .val (.int (0 : Int32)), .unset] [(.ref w_READ), (.ref w_SHARED)]))
      obtain ⟨S_SHARED, E_SHARED, S_WRITE, E_WRITE, S_MEMBERSHIP, E_MEMBERSHIP, S_READ, E_READ, F_SHARED_ordinal, F_WRITE_ordinal, F_MEMBERSHIP_ordinal, F_READ_ordinal⟩ := id F15
      refine p_virtual B X17 (y := mn1) (pc' := 62) (argsL := [(.ref w_READ)]) (under := []) (W := 0) e17 (tw10 hw) (tw11 hw) (tw13 hw) (tw12 hw) (tw14 hw) (tw6 hw) (by decide) (rm2_3 l Z a0 hw  w_SHARED w_WRITE w_MEMBERSHIP w_READ h15 F15 ) E_SHARED (lenOf pd_1 rfl) rfl rfl (by decide) (by decide) rfl rfl (by decide) (by decide) rfl at_59 rfl (fun T18 X18 e18 => ?_)
      show Go p e below _ (T18.setTop (mkF m 62 #[.val (.int i0), .val (.int i1), .val (.int (0 : Int32)), .val (.int (1 : Int32)), .val (.ref o11), .val (.int (0 : Int32)), .unset] [(.int (0 : Int32))]))
      refine s_istore B X18 (pc' := 64) (Ls' := #[.val (.int i0), .val (.int i1), .val (.int (0 : Int32)), .val (.int (1 : Int32)), .val (.ref o11), .val (.int (0 : Int32)), .val (.int (0 : Int32))]) at_62 rfl rfl ?_
      refine s_iload B X18 (pc' := 66) at_64 rfl rfl ?_
      refine s_iload B X18 (pc' := 68) at_66 rfl rfl ?_
      refine s_icmpN B X18 (pc' := 71) at_68 (by decide) rfl ?_
      refine s_iconst B X18 (pc' := 72) (v := (1 : Int32)) at_71 rfl rfl ?_
      refine s_goto B X18 (pc' := 76) at_72 (by decide) (by decide) ?_
      exact r_nar B X18 (t := .boolean) (by simp) rfl at_76 ⟨rfl, N15⟩ (by decide) (by decide)
    · refine s_iloadN B X0 (pc' := 1) at_0 rfl rfl ?_
      refine s_iconst B X0 (pc' := 2) (v := (3 : Int32)) at_1 rfl rfl ?_
      refine s_iand B X0 (pc' := 3) (v := (0 : Int32)) at_2 (hv1) rfl ?_
      refine s_istoreN B X0 (pc' := 4) (Ls' := #[.val (.int i0), .val (.int i1), .val (.int (0 : Int32)), .unset, .unset, .unset, .unset]) at_3 rfl rfl ?_
      refine s_iloadN B X0 (pc' := 5) at_4 rfl rfl ?_
      refine s_iconst B X0 (pc' := 6) (v := (3 : Int32)) at_5 rfl rfl ?_
      refine s_iand B X0 (pc' := 7) (v := (2 : Int32)) at_6 (hv2) rfl ?_
      refine s_istoreN B X0 (pc' := 8) (Ls' := #[.val (.int i0), .val (.int i1), .val (.int (0 : Int32)), .val (.int (2 : Int32)), .unset, .unset, .unset]) at_7 rfl rfl ?_
      refine s_iconst B X0 (pc' := 9) (v := (4 : Int32)) at_8 rfl rfl ?_
      refine s_newP B X0 (pc' := 11) (aty := .int) (N := 4) (cap := 4) e0 (tw0 hw) (by decide) (by decide) (by decide) (by decide) (by decide) (by decide) at_9 rfl (fun T19 h19 o19 k19 g19 X19 e19 E19 A19 => ?_)
      have ge_o19 : Z.heap.size ≤ o19 := g19 ▸ old_le (Old.start Z)
      replace A19 : Ary Z h19 o19 k19 .int 4 (lst [(.int (0 : Int32)), (.int (0 : Int32)), (.int (0 : Int32)), (.int (0 : Int32))] (.int (0 : Int32))) := A19.congr (own_rep 4)
      have O19 := ((Old.start Z)).ext E19
      have F19 := OwnF.ext O19.2 F0
      show Go p e below _ (T19.setTop (mkF m 11 #[.val (.int i0), .val (.int i1), .val (.int (0 : Int32)), .val (.int (2 : Int32)), .unset, .unset, .unset] [(.ref o19)]))
      refine s_dup B X19 (pc' := 12) at_11 rfl rfl ?_
      refine s_iconst B X19 (pc' := 13) (v := (0 : Int32)) at_12 rfl rfl ?_
      refine s_bipush B X19 (pc' := 15) (v := (8 : Int32)) at_13 rfl rfl ?_
      refine s_stI B X19 (pc' := 16) (jn := 0) e19 A19  (by decide) (by decide) (by decide) at_15 rfl (fun T20 h20 X20 e20 W20 A20 => ?_)
      replace A20 := A20.full (show 0 < 4 by decide) (L' := [(.int (8 : Int32)), (.int (0 : Int32)), (.int (0 : Int32)), (.int (0 : Int32))]) rfl
      have N20 := Fr.snoc X20 (Fr.nil _) ge_o19
      have O20 := (O19).wr W20 ge_o19
      have F20 := OwnF.ext O20.2 F0
      show Go p e below _ (T20.setTop (mkF m 16 #[.val (.int i0), .val (.int i1), .val (.int (0 : Int32)), .val (.int (2 : Int32)), .unset, .unset, .unset] [(.ref o19)]))
      refine s_dup B X20 (pc' := 17) at_16 rfl rfl ?_
      refine s_iconst B X20 (pc' := 18) (v := (1 : Int32)) at_17 rfl rfl ?_
      refine s_bipush B X20 (pc' := 20) (v := (12 : Int32)) at_18 rfl rfl ?_
      refine s_stI B X20 (pc' := 21) (jn := 1) e20 A20  (by decide) (by decide) (by decide) at_20 rfl (fun T21 h21 X21 e21 W21 A21 => ?_)
      replace A21 := A21.full (show 1 < 4 by decide) (L' := [(.int (8 : Int32)), (.int (12 : Int32)), (.int (0 : Int32)), (.int (0 : Int32))]) rfl
      have N21 := Fr.snoc X21 N20 ge_o19
      have O21 := (O20).wr W21 ge_o19
      have F21 := OwnF.ext O21.2 F0
      show Go p e below _ (T21.setTop (mkF m 21 #[.val (.int i0), .val (.int i1), .val (.int (0 : Int32)), .val (.int (2 : Int32)), .unset, .unset, .unset] [(.ref o19)]))
      refine s_dup B X21 (pc' := 22) at_21 rfl rfl ?_
      refine s_iconst B X21 (pc' := 23) (v := (2 : Int32)) at_22 rfl rfl ?_
      refine s_bipush B X21 (pc' := 25) (v := (10 : Int32)) at_23 rfl rfl ?_
      refine s_stI B X21 (pc' := 26) (jn := 2) e21 A21  (by decide) (by decide) (by decide) at_25 rfl (fun T22 h22 X22 e22 W22 A22 => ?_)
      replace A22 := A22.full (show 2 < 4 by decide) (L' := [(.int (8 : Int32)), (.int (12 : Int32)), (.int (10 : Int32)), (.int (0 : Int32))]) rfl
      have N22 := Fr.snoc X22 N21 ge_o19
      have O22 := (O21).wr W22 ge_o19
      have F22 := OwnF.ext O22.2 F0
      show Go p e below _ (T22.setTop (mkF m 26 #[.val (.int i0), .val (.int i1), .val (.int (0 : Int32)), .val (.int (2 : Int32)), .unset, .unset, .unset] [(.ref o19)]))
      refine s_dup B X22 (pc' := 27) at_26 rfl rfl ?_
      refine s_iconst B X22 (pc' := 28) (v := (3 : Int32)) at_27 rfl rfl ?_
      refine s_bipush B X22 (pc' := 30) (v := (15 : Int32)) at_28 rfl rfl ?_
      refine s_stI B X22 (pc' := 31) (jn := 3) e22 A22  (by decide) (by decide) (by decide) at_30 rfl (fun T23 h23 X23 e23 W23 A23 => ?_)
      replace A23 := A23.full (show 3 < 4 by decide) (L' := [(.int (8 : Int32)), (.int (12 : Int32)), (.int (10 : Int32)), (.int (15 : Int32))]) rfl
      have N23 := Fr.snoc X23 N22 ge_o19
      have O23 := (O22).wr W23 ge_o19
      have F23 := OwnF.ext O23.2 F0
      show Go p e below _ (T23.setTop (mkF m 31 #[.val (.int i0), .val (.int i1), .val (.int (0 : Int32)), .val (.int (2 : Int32)), .unset, .unset, .unset] [(.ref o19)]))
      refine s_astore B X23 (pc' := 33) (Ls' := #[.val (.int i0), .val (.int i1), .val (.int (0 : Int32)), .val (.int (2 : Int32)), .val (.ref o19), .unset, .unset]) at_31 rfl rfl rfl ?_
      refine s_aload B X23 (pc' := 35) at_33 rfl rfl rfl ?_
      refine s_iloadN B X23 (pc' := 36) at_35 rfl rfl ?_
      refine s_ldI B X23 (pc' := 37) (jn := 0) (v := (.int (8 : Int32))) e23 A23 (by decide) (by decide) (by decide) rfl at_36 rfl ?_
      refine s_iloadN B X23 (pc' := 38) at_37 rfl rfl ?_
      refine s_ishr B X23 (pc' := 39) (v := (2 : Int32)) at_38 (by decide +kernel) rfl ?_
      refine s_iconst B X23 (pc' := 40) (v := (1 : Int32)) at_39 rfl rfl ?_
      refine s_iand B X23 (pc' := 41) (v := (0 : Int32)) at_40 rfl rfl ?_
      refine s_ifY B X23 (pc' := 48) at_41 (by decide) (by decide) (by decide) ?_
      refine s_iconst B X23 (pc' := 49) (v := (0 : Int32)) at_48 rfl rfl ?_
      refine s_istore B X23 (pc' := 51) (Ls' := #[.val (.int i0), .val (.int i1), .val (.int (0 : Int32)), .val (.int (2 : Int32)), .val (.ref o19), .val (.int (0 : Int32)), .unset]) at_49 rfl rfl ?_
      refine s_iloadN B X23 (pc' := 52) at_51 rfl rfl ?_
      refine p_static B X23 (y := mn0) (pc' := 55) (argsL := [(.int (0 : Int32))]) (under := []) (W := 0) e23 (tw1 hw) (tw2 hw) (tw4 hw) (tw3 hw) (by decide) (rm1_0 l Z a0 hw  w_SHARED w_WRITE w_MEMBERSHIP w_READ h23 F23 ) (lenOf pd_0 rfl) rfl rfl (by decide) (by decide) rfl rfl (by decide) (by decide) rfl at_52 rfl (fun T24 X24 e24 => ?_)
      show Go p e below _ (T24.setTop (mkF m 55 #[.val (.int i0), .val (.int i1), .val (.int (0 : Int32)), .val (.int (2 : Int32)), .val (.ref o19), .val (.int (0 : Int32)), .unset] [(.ref w_SHARED)]))
      refine s_iloadN B X24 (pc' := 56) at_55 rfl rfl ?_
      refine p_static B X24 (y := mn0) (pc' := 59) (argsL := [(.int (2 : Int32))]) (under := [(.ref w_SHARED)]) (W := 1) e24 (tw1 hw) (tw2 hw) (tw4 hw) (tw3 hw) (by decide) (rm1_4 l Z a0 hw  w_SHARED w_WRITE w_MEMBERSHIP w_READ h23 F23 ) (lenOf pd_0 rfl) rfl rfl (by decide) (by decide) rfl rfl (by decide) (by decide) rfl at_56 rfl (fun T25 X25 e25 => ?_)
      show Go p e below _ (T25.setTop (mkF m 59 #[.val (.int i0), .val (.int i1), .val (.int (0 : Int32)), .val (.int (2 : Int32)), .val (.ref o19), .val (.int (0 : Int32)), .unset] [(.ref w_MEMBERSHIP), (.ref w_SHARED)]))
      obtain ⟨S_SHARED, E_SHARED, S_WRITE, E_WRITE, S_MEMBERSHIP, E_MEMBERSHIP, S_READ, E_READ, F_SHARED_ordinal, F_WRITE_ordinal, F_MEMBERSHIP_ordinal, F_READ_ordinal⟩ := id F23
      refine p_virtual B X25 (y := mn1) (pc' := 62) (argsL := [(.ref w_MEMBERSHIP)]) (under := []) (W := 0) e25 (tw10 hw) (tw11 hw) (tw13 hw) (tw12 hw) (tw14 hw) (tw6 hw) (by decide) (rm2_5 l Z a0 hw  w_SHARED w_WRITE w_MEMBERSHIP w_READ h23 F23 ) E_SHARED (lenOf pd_1 rfl) rfl rfl (by decide) (by decide) rfl rfl (by decide) (by decide) rfl at_59 rfl (fun T26 X26 e26 => ?_)
      show Go p e below _ (T26.setTop (mkF m 62 #[.val (.int i0), .val (.int i1), .val (.int (0 : Int32)), .val (.int (2 : Int32)), .val (.ref o19), .val (.int (0 : Int32)), .unset] [(.int (0 : Int32))]))
      refine s_istore B X26 (pc' := 64) (Ls' := #[.val (.int i0), .val (.int i1), .val (.int (0 : Int32)), .val (.int (2 : Int32)), .val (.ref o19), .val (.int (0 : Int32)), .val (.int (0 : Int32))]) at_62 rfl rfl ?_
      refine s_iload B X26 (pc' := 66) at_64 rfl rfl ?_
      refine s_iload B X26 (pc' := 68) at_66 rfl rfl ?_
      refine s_icmpN B X26 (pc' := 71) at_68 (by decide) rfl ?_
      refine s_iconst B X26 (pc' := 72) (v := (1 : Int32)) at_71 rfl rfl ?_
      refine s_goto B X26 (pc' := 76) at_72 (by decide) (by decide) ?_
      exact r_nar B X26 (t := .boolean) (by simp) rfl at_76 ⟨rfl, N23⟩ (by decide) (by decide)
    · refine s_iloadN B X0 (pc' := 1) at_0 rfl rfl ?_
      refine s_iconst B X0 (pc' := 2) (v := (3 : Int32)) at_1 rfl rfl ?_
      refine s_iand B X0 (pc' := 3) (v := (0 : Int32)) at_2 (hv1) rfl ?_
      refine s_istoreN B X0 (pc' := 4) (Ls' := #[.val (.int i0), .val (.int i1), .val (.int (0 : Int32)), .unset, .unset, .unset, .unset]) at_3 rfl rfl ?_
      refine s_iloadN B X0 (pc' := 5) at_4 rfl rfl ?_
      refine s_iconst B X0 (pc' := 6) (v := (3 : Int32)) at_5 rfl rfl ?_
      refine s_iand B X0 (pc' := 7) (v := (3 : Int32)) at_6 (hv2) rfl ?_
      refine s_istoreN B X0 (pc' := 8) (Ls' := #[.val (.int i0), .val (.int i1), .val (.int (0 : Int32)), .val (.int (3 : Int32)), .unset, .unset, .unset]) at_7 rfl rfl ?_
      refine s_iconst B X0 (pc' := 9) (v := (4 : Int32)) at_8 rfl rfl ?_
      refine s_newP B X0 (pc' := 11) (aty := .int) (N := 4) (cap := 4) e0 (tw0 hw) (by decide) (by decide) (by decide) (by decide) (by decide) (by decide) at_9 rfl (fun T27 h27 o27 k27 g27 X27 e27 E27 A27 => ?_)
      have ge_o27 : Z.heap.size ≤ o27 := g27 ▸ old_le (Old.start Z)
      replace A27 : Ary Z h27 o27 k27 .int 4 (lst [(.int (0 : Int32)), (.int (0 : Int32)), (.int (0 : Int32)), (.int (0 : Int32))] (.int (0 : Int32))) := A27.congr (own_rep 4)
      have O27 := ((Old.start Z)).ext E27
      have F27 := OwnF.ext O27.2 F0
      show Go p e below _ (T27.setTop (mkF m 11 #[.val (.int i0), .val (.int i1), .val (.int (0 : Int32)), .val (.int (3 : Int32)), .unset, .unset, .unset] [(.ref o27)]))
      refine s_dup B X27 (pc' := 12) at_11 rfl rfl ?_
      refine s_iconst B X27 (pc' := 13) (v := (0 : Int32)) at_12 rfl rfl ?_
      refine s_bipush B X27 (pc' := 15) (v := (8 : Int32)) at_13 rfl rfl ?_
      refine s_stI B X27 (pc' := 16) (jn := 0) e27 A27  (by decide) (by decide) (by decide) at_15 rfl (fun T28 h28 X28 e28 W28 A28 => ?_)
      replace A28 := A28.full (show 0 < 4 by decide) (L' := [(.int (8 : Int32)), (.int (0 : Int32)), (.int (0 : Int32)), (.int (0 : Int32))]) rfl
      have N28 := Fr.snoc X28 (Fr.nil _) ge_o27
      have O28 := (O27).wr W28 ge_o27
      have F28 := OwnF.ext O28.2 F0
      show Go p e below _ (T28.setTop (mkF m 16 #[.val (.int i0), .val (.int i1), .val (.int (0 : Int32)), .val (.int (3 : Int32)), .unset, .unset, .unset] [(.ref o27)]))
      refine s_dup B X28 (pc' := 17) at_16 rfl rfl ?_
      refine s_iconst B X28 (pc' := 18) (v := (1 : Int32)) at_17 rfl rfl ?_
      refine s_bipush B X28 (pc' := 20) (v := (12 : Int32)) at_18 rfl rfl ?_
      refine s_stI B X28 (pc' := 21) (jn := 1) e28 A28  (by decide) (by decide) (by decide) at_20 rfl (fun T29 h29 X29 e29 W29 A29 => ?_)
      replace A29 := A29.full (show 1 < 4 by decide) (L' := [(.int (8 : Int32)), (.int (12 : Int32)), (.int (0 : Int32)), (.int (0 : Int32))]) rfl
      have N29 := Fr.snoc X29 N28 ge_o27
      have O29 := (O28).wr W29 ge_o27
      have F29 := OwnF.ext O29.2 F0
      show Go p e below _ (T29.setTop (mkF m 21 #[.val (.int i0), .val (.int i1), .val (.int (0 : Int32)), .val (.int (3 : Int32)), .unset, .unset, .unset] [(.ref o27)]))
      refine s_dup B X29 (pc' := 22) at_21 rfl rfl ?_
      refine s_iconst B X29 (pc' := 23) (v := (2 : Int32)) at_22 rfl rfl ?_
      refine s_bipush B X29 (pc' := 25) (v := (10 : Int32)) at_23 rfl rfl ?_
      refine s_stI B X29 (pc' := 26) (jn := 2) e29 A29  (by decide) (by decide) (by decide) at_25 rfl (fun T30 h30 X30 e30 W30 A30 => ?_)
      replace A30 := A30.full (show 2 < 4 by decide) (L' := [(.int (8 : Int32)), (.int (12 : Int32)), (.int (10 : Int32)), (.int (0 : Int32))]) rfl
      have N30 := Fr.snoc X30 N29 ge_o27
      have O30 := (O29).wr W30 ge_o27
      have F30 := OwnF.ext O30.2 F0
      show Go p e below _ (T30.setTop (mkF m 26 #[.val (.int i0), .val (.int i1), .val (.int (0 : Int32)), .val (.int (3 : Int32)), .unset, .unset, .unset] [(.ref o27)]))
      refine s_dup B X30 (pc' := 27) at_26 rfl rfl ?_
      refine s_iconst B X30 (pc' := 28) (v := (3 : Int32)) at_27 rfl rfl ?_
      refine s_bipush B X30 (pc' := 30) (v := (15 : Int32)) at_28 rfl rfl ?_
      refine s_stI B X30 (pc' := 31) (jn := 3) e30 A30  (by decide) (by decide) (by decide) at_30 rfl (fun T31 h31 X31 e31 W31 A31 => ?_)
      replace A31 := A31.full (show 3 < 4 by decide) (L' := [(.int (8 : Int32)), (.int (12 : Int32)), (.int (10 : Int32)), (.int (15 : Int32))]) rfl
      have N31 := Fr.snoc X31 N30 ge_o27
      have O31 := (O30).wr W31 ge_o27
      have F31 := OwnF.ext O31.2 F0
      show Go p e below _ (T31.setTop (mkF m 31 #[.val (.int i0), .val (.int i1), .val (.int (0 : Int32)), .val (.int (3 : Int32)), .unset, .unset, .unset] [(.ref o27)]))
      refine s_astore B X31 (pc' := 33) (Ls' := #[.val (.int i0), .val (.int i1), .val (.int (0 : Int32)), .val (.int (3 : Int32)), .val (.ref o27), .unset, .unset]) at_31 rfl rfl rfl ?_
      refine s_aload B X31 (pc' := 35) at_33 rfl rfl rfl ?_
      refine s_iloadN B X31 (pc' := 36) at_35 rfl rfl ?_
      refine s_ldI B X31 (pc' := 37) (jn := 0) (v := (.int (8 : Int32))) e31 A31 (by decide) (by decide) (by decide) rfl at_36 rfl ?_
      refine s_iloadN B X31 (pc' := 38) at_37 rfl rfl ?_
      refine s_ishr B X31 (pc' := 39) (v := (1 : Int32)) at_38 (by decide +kernel) rfl ?_
      refine s_iconst B X31 (pc' := 40) (v := (1 : Int32)) at_39 rfl rfl ?_
      refine s_iand B X31 (pc' := 41) (v := (1 : Int32)) at_40 rfl rfl ?_
      refine s_ifN B X31 (pc' := 44) at_41 (by decide) rfl ?_
      refine s_iconst B X31 (pc' := 45) (v := (1 : Int32)) at_44 rfl rfl ?_
      refine s_goto B X31 (pc' := 49) at_45 (by decide) (by decide) ?_
      refine s_istore B X31 (pc' := 51) (Ls' := #[.val (.int i0), .val (.int i1), .val (.int (0 : Int32)), .val (.int (3 : Int32)), .val (.ref o27), .val (.int (1 : Int32)), .unset]) at_49 rfl rfl ?_
      refine s_iloadN B X31 (pc' := 52) at_51 rfl rfl ?_
      refine p_static B X31 (y := mn0) (pc' := 55) (argsL := [(.int (0 : Int32))]) (under := []) (W := 0) e31 (tw1 hw) (tw2 hw) (tw4 hw) (tw3 hw) (by decide) (rm1_0 l Z a0 hw  w_SHARED w_WRITE w_MEMBERSHIP w_READ h31 F31 ) (lenOf pd_0 rfl) rfl rfl (by decide) (by decide) rfl rfl (by decide) (by decide) rfl at_52 rfl (fun T32 X32 e32 => ?_)
      show Go p e below _ (T32.setTop (mkF m 55 #[.val (.int i0), .val (.int i1), .val (.int (0 : Int32)), .val (.int (3 : Int32)), .val (.ref o27), .val (.int (1 : Int32)), .unset] [(.ref w_SHARED)]))
      refine s_iloadN B X32 (pc' := 56) at_55 rfl rfl ?_
      refine p_static B X32 (y := mn0) (pc' := 59) (argsL := [(.int (3 : Int32))]) (under := [(.ref w_SHARED)]) (W := 1) e32 (tw1 hw) (tw2 hw) (tw4 hw) (tw3 hw) (by decide) (rm1_6 l Z a0 hw  w_SHARED w_WRITE w_MEMBERSHIP w_READ h31 F31 ) (lenOf pd_0 rfl) rfl rfl (by decide) (by decide) rfl rfl (by decide) (by decide) rfl at_56 rfl (fun T33 X33 e33 => ?_)
      show Go p e below _ (T33.setTop (mkF m 59 #[.val (.int i0), .val (.int i1), .val (.int (0 : Int32)), .val (.int (3 : Int32)), .val (.ref o27), .val (.int (1 : Int32)), .unset] [(.ref w_WRITE), (.ref w_SHARED)]))
      obtain ⟨S_SHARED, E_SHARED, S_WRITE, E_WRITE, S_MEMBERSHIP, E_MEMBERSHIP, S_READ, E_READ, F_SHARED_ordinal, F_WRITE_ordinal, F_MEMBERSHIP_ordinal, F_READ_ordinal⟩ := id F31
      refine p_virtual B X33 (y := mn1) (pc' := 62) (argsL := [(.ref w_WRITE)]) (under := []) (W := 0) e33 (tw10 hw) (tw11 hw) (tw13 hw) (tw12 hw) (tw14 hw) (tw6 hw) (by decide) (rm2_7 l Z a0 hw  w_SHARED w_WRITE w_MEMBERSHIP w_READ h31 F31 ) E_SHARED (lenOf pd_1 rfl) rfl rfl (by decide) (by decide) rfl rfl (by decide) (by decide) rfl at_59 rfl (fun T34 X34 e34 => ?_)
      show Go p e below _ (T34.setTop (mkF m 62 #[.val (.int i0), .val (.int i1), .val (.int (0 : Int32)), .val (.int (3 : Int32)), .val (.ref o27), .val (.int (1 : Int32)), .unset] [(.int (1 : Int32))]))
      refine s_istore B X34 (pc' := 64) (Ls' := #[.val (.int i0), .val (.int i1), .val (.int (0 : Int32)), .val (.int (3 : Int32)), .val (.ref o27), .val (.int (1 : Int32)), .val (.int (1 : Int32))]) at_62 rfl rfl ?_
      refine s_iload B X34 (pc' := 66) at_64 rfl rfl ?_
      refine s_iload B X34 (pc' := 68) at_66 rfl rfl ?_
      refine s_icmpN B X34 (pc' := 71) at_68 (by decide) rfl ?_
      refine s_iconst B X34 (pc' := 72) (v := (1 : Int32)) at_71 rfl rfl ?_
      refine s_goto B X34 (pc' := 76) at_72 (by decide) (by decide) ?_
      exact r_nar B X34 (t := .boolean) (by simp) rfl at_76 ⟨rfl, N31⟩ (by decide) (by decide)
  · rcases own_and3 i1 with hv35 | hv35 | hv35 | hv35
    · refine s_iloadN B X0 (pc' := 1) at_0 rfl rfl ?_
      refine s_iconst B X0 (pc' := 2) (v := (3 : Int32)) at_1 rfl rfl ?_
      refine s_iand B X0 (pc' := 3) (v := (1 : Int32)) at_2 (hv1) rfl ?_
      refine s_istoreN B X0 (pc' := 4) (Ls' := #[.val (.int i0), .val (.int i1), .val (.int (1 : Int32)), .unset, .unset, .unset, .unset]) at_3 rfl rfl ?_
      refine s_iloadN B X0 (pc' := 5) at_4 rfl rfl ?_
      refine s_iconst B X0 (pc' := 6) (v := (3 : Int32)) at_5 rfl rfl ?_
      refine s_iand B X0 (pc' := 7) (v := (0 : Int32)) at_6 (hv35) rfl ?_
      refine s_istoreN B X0 (pc' := 8) (Ls' := #[.val (.int i0), .val (.int i1), .val (.int (1 : Int32)), .val (.int (0 : Int32)), .unset, .unset, .unset]) at_7 rfl rfl ?_
      refine s_iconst B X0 (pc' := 9) (v := (4 : Int32)) at_8 rfl rfl ?_
      refine s_newP B X0 (pc' := 11) (aty := .int) (N := 4) (cap := 4) e0 (tw0 hw) (by decide) (by decide) (by decide) (by decide) (by decide) (by decide) at_9 rfl (fun T36 h36 o36 k36 g36 X36 e36 E36 A36 => ?_)
      have ge_o36 : Z.heap.size ≤ o36 := g36 ▸ old_le (Old.start Z)
      replace A36 : Ary Z h36 o36 k36 .int 4 (lst [(.int (0 : Int32)), (.int (0 : Int32)), (.int (0 : Int32)), (.int (0 : Int32))] (.int (0 : Int32))) := A36.congr (own_rep 4)
      have O36 := ((Old.start Z)).ext E36
      have F36 := OwnF.ext O36.2 F0
      show Go p e below _ (T36.setTop (mkF m 11 #[.val (.int i0), .val (.int i1), .val (.int (1 : Int32)), .val (.int (0 : Int32)), .unset, .unset, .unset] [(.ref o36)]))
      refine s_dup B X36 (pc' := 12) at_11 rfl rfl ?_
      refine s_iconst B X36 (pc' := 13) (v := (0 : Int32)) at_12 rfl rfl ?_
      refine s_bipush B X36 (pc' := 15) (v := (8 : Int32)) at_13 rfl rfl ?_
      refine s_stI B X36 (pc' := 16) (jn := 0) e36 A36  (by decide) (by decide) (by decide) at_15 rfl (fun T37 h37 X37 e37 W37 A37 => ?_)
      replace A37 := A37.full (show 0 < 4 by decide) (L' := [(.int (8 : Int32)), (.int (0 : Int32)), (.int (0 : Int32)), (.int (0 : Int32))]) rfl
      have N37 := Fr.snoc X37 (Fr.nil _) ge_o36
      have O37 := (O36).wr W37 ge_o36
      have F37 := OwnF.ext O37.2 F0
      show Go p e below _ (T37.setTop (mkF m 16 #[.val (.int i0), .val (.int i1), .val (.int (1 : Int32)), .val (.int (0 : Int32)), .unset, .unset, .unset] [(.ref o36)]))
      refine s_dup B X37 (pc' := 17) at_16 rfl rfl ?_
      refine s_iconst B X37 (pc' := 18) (v := (1 : Int32)) at_17 rfl rfl ?_
      refine s_bipush B X37 (pc' := 20) (v := (12 : Int32)) at_18 rfl rfl ?_
      refine s_stI B X37 (pc' := 21) (jn := 1) e37 A37  (by decide) (by decide) (by decide) at_20 rfl (fun T38 h38 X38 e38 W38 A38 => ?_)
      replace A38 := A38.full (show 1 < 4 by decide) (L' := [(.int (8 : Int32)), (.int (12 : Int32)), (.int (0 : Int32)), (.int (0 : Int32))]) rfl
      have N38 := Fr.snoc X38 N37 ge_o36
      have O38 := (O37).wr W38 ge_o36
      have F38 := OwnF.ext O38.2 F0
      show Go p e below _ (T38.setTop (mkF m 21 #[.val (.int i0), .val (.int i1), .val (.int (1 : Int32)), .val (.int (0 : Int32)), .unset, .unset, .unset] [(.ref o36)]))
      refine s_dup B X38 (pc' := 22) at_21 rfl rfl ?_
      refine s_iconst B X38 (pc' := 23) (v := (2 : Int32)) at_22 rfl rfl ?_
      refine s_bipush B X38 (pc' := 25) (v := (10 : Int32)) at_23 rfl rfl ?_
      refine s_stI B X38 (pc' := 26) (jn := 2) e38 A38  (by decide) (by decide) (by decide) at_25 rfl (fun T39 h39 X39 e39 W39 A39 => ?_)
      replace A39 := A39.full (show 2 < 4 by decide) (L' := [(.int (8 : Int32)), (.int (12 : Int32)), (.int (10 : Int32)), (.int (0 : Int32))]) rfl
      have N39 := Fr.snoc X39 N38 ge_o36
      have O39 := (O38).wr W39 ge_o36
      have F39 := OwnF.ext O39.2 F0
      show Go p e below _ (T39.setTop (mkF m 26 #[.val (.int i0), .val (.int i1), .val (.int (1 : Int32)), .val (.int (0 : Int32)), .unset, .unset, .unset] [(.ref o36)]))
      refine s_dup B X39 (pc' := 27) at_26 rfl rfl ?_
      refine s_iconst B X39 (pc' := 28) (v := (3 : Int32)) at_27 rfl rfl ?_
      refine s_bipush B X39 (pc' := 30) (v := (15 : Int32)) at_28 rfl rfl ?_
      refine s_stI B X39 (pc' := 31) (jn := 3) e39 A39  (by decide) (by decide) (by decide) at_30 rfl (fun T40 h40 X40 e40 W40 A40 => ?_)
      replace A40 := A40.full (show 3 < 4 by decide) (L' := [(.int (8 : Int32)), (.int (12 : Int32)), (.int (10 : Int32)), (.int (15 : Int32))]) rfl
      have N40 := Fr.snoc X40 N39 ge_o36
      have O40 := (O39).wr W40 ge_o36
      have F40 := OwnF.ext O40.2 F0
      show Go p e below _ (T40.setTop (mkF m 31 #[.val (.int i0), .val (.int i1), .val (.int (1 : Int32)), .val (.int (0 : Int32)), .unset, .unset, .unset] [(.ref o36)]))
      refine s_astore B X40 (pc' := 33) (Ls' := #[.val (.int i0), .val (.int i1), .val (.int (1 : Int32)), .val (.int (0 : Int32)), .val (.ref o36), .unset, .unset]) at_31 rfl rfl rfl ?_
      refine s_aload B X40 (pc' := 35) at_33 rfl rfl rfl ?_
      refine s_iloadN B X40 (pc' := 36) at_35 rfl rfl ?_
      refine s_ldI B X40 (pc' := 37) (jn := 1) (v := (.int (12 : Int32))) e40 A40 (by decide) (by decide) (by decide) rfl at_36 rfl ?_
      refine s_iloadN B X40 (pc' := 38) at_37 rfl rfl ?_
      refine s_ishr B X40 (pc' := 39) (v := (12 : Int32)) at_38 (by decide +kernel) rfl ?_
      refine s_iconst B X40 (pc' := 40) (v := (1 : Int32)) at_39 rfl rfl ?_
      refine s_iand B X40 (pc' := 41) (v := (0 : Int32)) at_40 rfl rfl ?_
      refine s_ifY B X40 (pc' := 48) at_41 (by decide) (by decide) (by decide) ?_
      refine s_iconst B X40 (pc' := 49) (v := (0 : Int32)) at_48 rfl rfl ?_
      refine s_istore B X40 (pc' := 51) (Ls' := #[.val (.int i0), .val (.int i1), .val (.int (1 : Int32)), .val (.int (0 : Int32)), .val (.ref o36), .val (.int (0 : Int32)), .unset]) at_49 rfl rfl ?_
      refine s_iloadN B X40 (pc' := 52) at_51 rfl rfl ?_
      refine p_static B X40 (y := mn0) (pc' := 55) (argsL := [(.int (1 : Int32))]) (under := []) (W := 0) e40 (tw1 hw) (tw2 hw) (tw4 hw) (tw3 hw) (by decide) (rm1_2 l Z a0 hw  w_SHARED w_WRITE w_MEMBERSHIP w_READ h40 F40 ) (lenOf pd_0 rfl) rfl rfl (by decide) (by decide) rfl rfl (by decide) (by decide) rfl at_52 rfl (fun T41 X41 e41 => ?_)
      show Go p e below _ (T41.setTop (mkF m 55 #[.val (.int i0), .val (.int i1), .val (.int (1 : Int32)), .val (.int (0 : Int32)), .val (.ref o36), .val (.int (0 : Int32)), .unset] [(.ref w_READ)]))
      refine s_iloadN B X41 (pc' := 56) at_55 rfl rfl ?_
      refine p_static B X41 (y := mn0) (pc' := 59) (argsL := [(.int (0 : Int32))]) (under := [(.ref w_READ)]) (W := 1) e41 (tw1 hw) (tw2 hw) (tw4 hw) (tw3 hw) (by decide) (rm1_0 l Z a0 hw  w_SHARED w_WRITE w_MEMBERSHIP w_READ h40 F40 ) (lenOf pd_0 rfl) rfl rfl (by decide) (by decide) rfl rfl (by decide) (by decide) rfl at_56 rfl (fun T42 X42 e42 => ?_)
      show Go p e below _ (T42.setTop (mkF m 59 #[.val (.int i0), .val (.int i1), .val (.int (1 : Int32)), .val (.int (0 : Int32)), .val (.ref o36), .val (.int (0 : Int32)), .unset] [(.ref w_SHARED), (.ref w_READ)]))
      obtain ⟨S_SHARED, E_SHARED, S_WRITE, E_WRITE, S_MEMBERSHIP, E_MEMBERSHIP, S_READ, E_READ, F_SHARED_ordinal, F_WRITE_ordinal, F_MEMBERSHIP_ordinal, F_READ_ordinal⟩ := id F40
      refine p_virtual B X42 (y := mn1) (pc' := 62) (argsL := [(.ref w_SHARED)]) (under := []) (W := 0) e42 (tw10 hw) (tw11 hw) (tw13 hw) (tw12 hw) (tw14 hw) (tw6 hw) (by decide) (rm2_8 l Z a0 hw  w_SHARED w_WRITE w_MEMBERSHIP w_READ h40 F40 ) E_READ (lenOf pd_1 rfl) rfl rfl (by decide) (by decide) rfl rfl (by decide) (by decide) rfl at_59 rfl (fun T43 X43 e43 => ?_)
      show Go p e below _ (T43.setTop (mkF m 62 #[.val (.int i0), .val (.int i1), .val (.int (1 : Int32)), .val (.int (0 : Int32)), .val (.ref o36), .val (.int (0 : Int32)), .unset] [(.int (0 : Int32))]))
      refine s_istore B X43 (pc' := 64) (Ls' := #[.val (.int i0), .val (.int i1), .val (.int (1 : Int32)), .val (.int (0 : Int32)), .val (.ref o36), .val (.int (0 : Int32)), .val (.int (0 : Int32))]) at_62 rfl rfl ?_
      refine s_iload B X43 (pc' := 66) at_64 rfl rfl ?_
      refine s_iload B X43 (pc' := 68) at_66 rfl rfl ?_
      refine s_icmpN B X43 (pc' := 71) at_68 (by decide) rfl ?_
      refine s_iconst B X43 (pc' := 72) (v := (1 : Int32)) at_71 rfl rfl ?_
      refine s_goto B X43 (pc' := 76) at_72 (by decide) (by decide) ?_
      exact r_nar B X43 (t := .boolean) (by simp) rfl at_76 ⟨rfl, N40⟩ (by decide) (by decide)
    · refine s_iloadN B X0 (pc' := 1) at_0 rfl rfl ?_
      refine s_iconst B X0 (pc' := 2) (v := (3 : Int32)) at_1 rfl rfl ?_
      refine s_iand B X0 (pc' := 3) (v := (1 : Int32)) at_2 (hv1) rfl ?_
      refine s_istoreN B X0 (pc' := 4) (Ls' := #[.val (.int i0), .val (.int i1), .val (.int (1 : Int32)), .unset, .unset, .unset, .unset]) at_3 rfl rfl ?_
      refine s_iloadN B X0 (pc' := 5) at_4 rfl rfl ?_
      refine s_iconst B X0 (pc' := 6) (v := (3 : Int32)) at_5 rfl rfl ?_
      refine s_iand B X0 (pc' := 7) (v := (1 : Int32)) at_6 (hv35) rfl ?_
      refine s_istoreN B X0 (pc' := 8) (Ls' := #[.val (.int i0), .val (.int i1), .val (.int (1 : Int32)), .val (.int (1 : Int32)), .unset, .unset, .unset]) at_7 rfl rfl ?_
      refine s_iconst B X0 (pc' := 9) (v := (4 : Int32)) at_8 rfl rfl ?_
      refine s_newP B X0 (pc' := 11) (aty := .int) (N := 4) (cap := 4) e0 (tw0 hw) (by decide) (by decide) (by decide) (by decide) (by decide) (by decide) at_9 rfl (fun T44 h44 o44 k44 g44 X44 e44 E44 A44 => ?_)
      have ge_o44 : Z.heap.size ≤ o44 := g44 ▸ old_le (Old.start Z)
      replace A44 : Ary Z h44 o44 k44 .int 4 (lst [(.int (0 : Int32)), (.int (0 : Int32)), (.int (0 : Int32)), (.int (0 : Int32))] (.int (0 : Int32))) := A44.congr (own_rep 4)
      have O44 := ((Old.start Z)).ext E44
      have F44 := OwnF.ext O44.2 F0
      show Go p e below _ (T44.setTop (mkF m 11 #[.val (.int i0), .val (.int i1), .val (.int (1 : Int32)), .val (.int (1 : Int32)), .unset, .unset, .unset] [(.ref o44)]))
      refine s_dup B X44 (pc' := 12) at_11 rfl rfl ?_
      refine s_iconst B X44 (pc' := 13) (v := (0 : Int32)) at_12 rfl rfl ?_
      refine s_bipush B X44 (pc' := 15) (v := (8 : Int32)) at_13 rfl rfl ?_
      refine s_stI B X44 (pc' := 16) (jn := 0) e44 A44  (by decide) (by decide) (by decide) at_15 rfl (fun T45 h45 X45 e45 W45 A45 => ?_)
      replace A45 := A45.full (show 0 < 4 by decide) (L' := [(.int (8 : Int32)), (.int (0 : Int32)), (.int (0 : Int32)), (.int (0 : Int32))]) rfl
      have N45 := Fr.snoc X45 (Fr.nil _) ge_o44
      have O45 := (O44).wr W45 ge_o44
      have F45 := OwnF.ext O45.2 F0
      show Go p e below _ (T45.setTop (mkF m 16 #[.val (.int i0), .val (.int i1), .val (.int (1 : Int32)), .val (.int (1 : Int32)), .unset, .unset, .unset] [(.ref o44)]))
      refine s_dup B X45 (pc' := 17) at_16 rfl rfl ?_
      refine s_iconst B X45 (pc' := 18) (v := (1 : Int32)) at_17 rfl rfl ?_
      refine s_bipush B X45 (pc' := 20) (v := (12 : Int32)) at_18 rfl rfl ?_
      refine s_stI B X45 (pc' := 21) (jn := 1) e45 A45  (by decide) (by decide) (by decide) at_20 rfl (fun T46 h46 X46 e46 W46 A46 => ?_)
      replace A46 := A46.full (show 1 < 4 by decide) (L' := [(.int (8 : Int32)), (.int (12 : Int32)), (.int (0 : Int32)), (.int (0 : Int32))]) rfl
      have N46 := Fr.snoc X46 N45 ge_o44
      have O46 := (O45).wr W46 ge_o44
      have F46 := OwnF.ext O46.2 F0
      show Go p e below _ (T46.setTop (mkF m 21 #[.val (.int i0), .val (.int i1), .val (.int (1 : Int32)), .val (.int (1 : Int32)), .unset, .unset, .unset] [(.ref o44)]))
      refine s_dup B X46 (pc' := 22) at_21 rfl rfl ?_
      refine s_iconst B X46 (pc' := 23) (v := (2 : Int32)) at_22 rfl rfl ?_
      refine s_bipush B X46 (pc' := 25) (v := (10 : Int32)) at_23 rfl rfl ?_
      refine s_stI B X46 (pc' := 26) (jn := 2) e46 A46  (by decide) (by decide) (by decide) at_25 rfl (fun T47 h47 X47 e47 W47 A47 => ?_)
      replace A47 := A47.full (show 2 < 4 by decide) (L' := [(.int (8 : Int32)), (.int (12 : Int32)), (.int (10 : Int32)), (.int (0 : Int32))]) rfl
      have N47 := Fr.snoc X47 N46 ge_o44
      have O47 := (O46).wr W47 ge_o44
      have F47 := OwnF.ext O47.2 F0
      show Go p e below _ (T47.setTop (mkF m 26 #[.val (.int i0), .val (.int i1), .val (.int (1 : Int32)), .val (.int (1 : Int32)), .unset, .unset, .unset] [(.ref o44)]))
      refine s_dup B X47 (pc' := 27) at_26 rfl rfl ?_
      refine s_iconst B X47 (pc' := 28) (v := (3 : Int32)) at_27 rfl rfl ?_
      refine s_bipush B X47 (pc' := 30) (v := (15 : Int32)) at_28 rfl rfl ?_
      refine s_stI B X47 (pc' := 31) (jn := 3) e47 A47  (by decide) (by decide) (by decide) at_30 rfl (fun T48 h48 X48 e48 W48 A48 => ?_)
      replace A48 := A48.full (show 3 < 4 by decide) (L' := [(.int (8 : Int32)), (.int (12 : Int32)), (.int (10 : Int32)), (.int (15 : Int32))]) rfl
      have N48 := Fr.snoc X48 N47 ge_o44
      have O48 := (O47).wr W48 ge_o44
      have F48 := OwnF.ext O48.2 F0
      show Go p e below _ (T48.setTop (mkF m 31 #[.val (.int i0), .val (.int i1), .val (.int (1 : Int32)), .val (.int (1 : Int32)), .unset, .unset, .unset] [(.ref o44)]))
      refine s_astore B X48 (pc' := 33) (Ls' := #[.val (.int i0), .val (.int i1), .val (.int (1 : Int32)), .val (.int (1 : Int32)), .val (.ref o44), .unset, .unset]) at_31 rfl rfl rfl ?_
      refine s_aload B X48 (pc' := 35) at_33 rfl rfl rfl ?_
      refine s_iloadN B X48 (pc' := 36) at_35 rfl rfl ?_
      refine s_ldI B X48 (pc' := 37) (jn := 1) (v := (.int (12 : Int32))) e48 A48 (by decide) (by decide) (by decide) rfl at_36 rfl ?_
      refine s_iloadN B X48 (pc' := 38) at_37 rfl rfl ?_
      refine s_ishr B X48 (pc' := 39) (v := (6 : Int32)) at_38 (by decide +kernel) rfl ?_
      refine s_iconst B X48 (pc' := 40) (v := (1 : Int32)) at_39 rfl rfl ?_
      refine s_iand B X48 (pc' := 41) (v := (0 : Int32)) at_40 rfl rfl ?_
      refine s_ifY B X48 (pc' := 48) at_41 (by decide) (by decide) (by decide) ?_
      refine s_iconst B X48 (pc' := 49) (v := (0 : Int32)) at_48 rfl rfl ?_
      refine s_istore B X48 (pc' := 51) (Ls' := #[.val (.int i0), .val (.int i1), .val (.int (1 : Int32)), .val (.int (1 : Int32)), .val (.ref o44), .val (.int (0 : Int32)), .unset]) at_49 rfl rfl ?_
      refine s_iloadN B X48 (pc' := 52) at_51 rfl rfl ?_
      refine p_static B X48 (y := mn0) (pc' := 55) (argsL := [(.int (1 : Int32))]) (under := []) (W := 0) e48 (tw1 hw) (tw2 hw) (tw4 hw) (tw3 hw) (by decide) (rm1_2 l Z a0 hw  w_SHARED w_WRITE w_MEMBERSHIP w_READ h48 F48 ) (lenOf pd_0 rfl) rfl rfl (by decide) (by decide) rfl rfl (by decide) (by decide) rfl at_52 rfl (fun T49 X49 e49 => ?_)
      show Go p e below _ (T49.setTop (mkF m 55 #[.val (.int i0), .val (.int i1), .val (.int (1 : Int32)), .val (.int (1 : Int32)), .val (.ref o44), .val (.int (0 : Int32)), .unset] [(.ref w_READ)]))
      refine s_iloadN B X49 (pc' := 56) at_55 rfl rfl ?_
      refine p_static B X49 (y := mn0) (pc' := 59) (argsL := [(.int (1 : Int32))]) (under := [(.ref w_READ)]) (W := 1) e49 (tw1 hw) (tw2 hw) (tw4 hw) (tw3 hw) (by decide) (rm1_2 l Z a0 hw  w_SHARED w_WRITE w_MEMBERSHIP w_READ h48 F48 ) (lenOf pd_0 rfl) rfl rfl (by decide) (by decide) rfl rfl (by decide) (by decide) rfl at_56 rfl (fun T50 X50 e50 => ?_)
      show Go p e below _ (T50.setTop (mkF m 59 #[.val (.int i0), .val (.int i1), .val (.int (1 : Int32)), .val (.int (1 : Int32)), .val (.ref o44), .val (.int (0 : Int32)), .unset] [(.ref w_READ), (.ref w_READ)]))
      obtain ⟨S_SHARED, E_SHARED, S_WRITE, E_WRITE, S_MEMBERSHIP, E_MEMBERSHIP, S_READ, E_READ, F_SHARED_ordinal, F_WRITE_ordinal, F_MEMBERSHIP_ordinal, F_READ_ordinal⟩ := id F48
      refine p_virtual B X50 (y := mn1) (pc' := 62) (argsL := [(.ref w_READ)]) (under := []) (W := 0) e50 (tw10 hw) (tw11 hw) (tw13 hw) (tw12 hw) (tw14 hw) (tw6 hw) (by decide) (rm2_9 l Z a0 hw  w_SHARED w_WRITE w_MEMBERSHIP w_READ h48 F48 ) E_READ (lenOf pd_1 rfl) rfl rfl (by decide) (by decide) rfl rfl (by decide) (by decide) rfl at_59 rfl (fun T51 X51 e51 => ?_)
      show Go p e below _ (T51.setTop (mkF m 62 #[.val (.int i0), .val (.int i1), .val (.int (1 : Int32)), .val (.int (1 : Int32)), .val (.ref o44), .val (.int (0 : Int32)), .unset] [(.int (0 : Int32))]))
      refine s_istore B X51 (pc' := 64) (Ls' := #[.val (.int i0), .val (.int i1), .val (.int (1 : Int32)), .val (.int (1 : Int32)), .val (.ref o44), .val (.int (0 : Int32)), .val (.int (0 : Int32))]) at_62 rfl rfl ?_
      refine s_iload B X51 (pc' := 66) at_64 rfl rfl ?_
      refine s_iload B X51 (pc' := 68) at_66 rfl rfl ?_
      refine s_icmpN B X51 (pc' := 71) at_68 (by decide) rfl ?_
      refine s_iconst B X51 (pc' := 72) (v := (1 : Int32)) at_71 rfl rfl ?_
      refine s_goto B X51 (pc' := 76) at_72 (by decide) (by decide) ?_
      exact r_nar B X51 (t := .boolean) (by simp) rfl at_76 ⟨rfl, N48⟩ (by decide) (by decide)
    · refine s_iloadN B X0 (pc' := 1) at_0 rfl rfl ?_
      refine s_iconst B X0 (pc' := 2) (v := (3 : Int32)) at_1 rfl rfl ?_
      refine s_iand B X0 (pc' := 3) (v := (1 : Int32)) at_2 (hv1) rfl ?_
      refine s_istoreN B X0 (pc' := 4) (Ls' := #[.val (.int i0), .val (.int i1), .val (.int (1 : Int32)), .unset, .unset, .unset, .unset]) at_3 rfl rfl ?_
      refine s_iloadN B X0 (pc' := 5) at_4 rfl rfl ?_
      refine s_iconst B X0 (pc' := 6) (v := (3 : Int32)) at_5 rfl rfl ?_
      refine s_iand B X0 (pc' := 7) (v := (2 : Int32)) at_6 (hv35) rfl ?_
      refine s_istoreN B X0 (pc' := 8) (Ls' := #[.val (.int i0), .val (.int i1), .val (.int (1 : Int32)), .val (.int (2 : Int32)), .unset, .unset, .unset]) at_7 rfl rfl ?_
      refine s_iconst B X0 (pc' := 9) (v := (4 : Int32)) at_8 rfl rfl ?_
      refine s_newP B X0 (pc' := 11) (aty := .int) (N := 4) (cap := 4) e0 (tw0 hw) (by decide) (by decide) (by decide) (by decide) (by decide) (by decide) at_9 rfl (fun T52 h52 o52 k52 g52 X52 e52 E52 A52 => ?_)
      have ge_o52 : Z.heap.size ≤ o52 := g52 ▸ old_le (Old.start Z)
      replace A52 : Ary Z h52 o52 k52 .int 4 (lst [(.int (0 : Int32)), (.int (0 : Int32)), (.int (0 : Int32)), (.int (0 : Int32))] (.int (0 : Int32))) := A52.congr (own_rep 4)
      have O52 := ((Old.start Z)).ext E52
      have F52 := OwnF.ext O52.2 F0
      show Go p e below _ (T52.setTop (mkF m 11 #[.val (.int i0), .val (.int i1), .val (.int (1 : Int32)), .val (.int (2 : Int32)), .unset, .unset, .unset] [(.ref o52)]))
      refine s_dup B X52 (pc' := 12) at_11 rfl rfl ?_
      refine s_iconst B X52 (pc' := 13) (v := (0 : Int32)) at_12 rfl rfl ?_
      refine s_bipush B X52 (pc' := 15) (v := (8 : Int32)) at_13 rfl rfl ?_
      refine s_stI B X52 (pc' := 16) (jn := 0) e52 A52  (by decide) (by decide) (by decide) at_15 rfl (fun T53 h53 X53 e53 W53 A53 => ?_)
      replace A53 := A53.full (show 0 < 4 by decide) (L' := [(.int (8 : Int32)), (.int (0 : Int32)), (.int (0 : Int32)), (.int (0 : Int32))]) rfl
      have N53 := Fr.snoc X53 (Fr.nil _) ge_o52
      have O53 := (O52).wr W53 ge_o52
      have F53 := OwnF.ext O53.2 F0
      show Go p e below _ (T53.setTop (mkF m 16 #[.val (.int i0), .val (.int i1), .val (.int (1 : Int32)), .val (.int (2 : Int32)), .unset, .unset, .unset] [(.ref o52)]))
      refine s_dup B X53 (pc' := 17) at_16 rfl rfl ?_
      refine s_iconst B X53 (pc' := 18) (v := (1 : Int32)) at_17 rfl rfl ?_
      refine s_bipush B X53 (pc' := 20) (v := (12 : Int32)) at_18 rfl rfl ?_
      refine s_stI B X53 (pc' := 21) (jn := 1) e53 A53  (by decide) (by decide) (by decide) at_20 rfl (fun T54 h54 X54 e54 W54 A54 => ?_)
      replace A54 := A54.full (show 1 < 4 by decide) (L' := [(.int (8 : Int32)), (.int (12 : Int32)), (.int (0 : Int32)), (.int (0 : Int32))]) rfl
      have N54 := Fr.snoc X54 N53 ge_o52
      have O54 := (O53).wr W54 ge_o52
      have F54 := OwnF.ext O54.2 F0
      show Go p e below _ (T54.setTop (mkF m 21 #[.val (.int i0), .val (.int i1), .val (.int (1 : Int32)), .val (.int (2 : Int32)), .unset, .unset, .unset] [(.ref o52)]))
      refine s_dup B X54 (pc' := 22) at_21 rfl rfl ?_
      refine s_iconst B X54 (pc' := 23) (v := (2 : Int32)) at_22 rfl rfl ?_
      refine s_bipush B X54 (pc' := 25) (v := (10 : Int32)) at_23 rfl rfl ?_
      refine s_stI B X54 (pc' := 26) (jn := 2) e54 A54  (by decide) (by decide) (by decide) at_25 rfl (fun T55 h55 X55 e55 W55 A55 => ?_)
      replace A55 := A55.full (show 2 < 4 by decide) (L' := [(.int (8 : Int32)), (.int (12 : Int32)), (.int (10 : Int32)), (.int (0 : Int32))]) rfl
      have N55 := Fr.snoc X55 N54 ge_o52
      have O55 := (O54).wr W55 ge_o52
      have F55 := OwnF.ext O55.2 F0
      show Go p e below _ (T55.setTop (mkF m 26 #[.val (.int i0), .val (.int i1), .val (.int (1 : Int32)), .val (.int (2 : Int32)), .unset, .unset, .unset] [(.ref o52)]))
      refine s_dup B X55 (pc' := 27) at_26 rfl rfl ?_
      refine s_iconst B X55 (pc' := 28) (v := (3 : Int32)) at_27 rfl rfl ?_
      refine s_bipush B X55 (pc' := 30) (v := (15 : Int32)) at_28 rfl rfl ?_
      refine s_stI B X55 (pc' := 31) (jn := 3) e55 A55  (by decide) (by decide) (by decide) at_30 rfl (fun T56 h56 X56 e56 W56 A56 => ?_)
      replace A56 := A56.full (show 3 < 4 by decide) (L' := [(.int (8 : Int32)), (.int (12 : Int32)), (.int (10 : Int32)), (.int (15 : Int32))]) rfl
      have N56 := Fr.snoc X56 N55 ge_o52
      have O56 := (O55).wr W56 ge_o52
      have F56 := OwnF.ext O56.2 F0
      show Go p e below _ (T56.setTop (mkF m 31 #[.val (.int i0), .val (.int i1), .val (.int (1 : Int32)), .val (.int (2 : Int32)), .unset, .unset, .unset] [(.ref o52)]))
      refine s_astore B X56 (pc' := 33) (Ls' := #[.val (.int i0), .val (.int i1), .val (.int (1 : Int32)), .val (.int (2 : Int32)), .val (.ref o52), .unset, .unset]) at_31 rfl rfl rfl ?_
      refine s_aload B X56 (pc' := 35) at_33 rfl rfl rfl ?_
      refine s_iloadN B X56 (pc' := 36) at_35 rfl rfl ?_
      refine s_ldI B X56 (pc' := 37) (jn := 1) (v := (.int (12 : Int32))) e56 A56 (by decide) (by decide) (by decide) rfl at_36 rfl ?_
      refine s_iloadN B X56 (pc' := 38) at_37 rfl rfl ?_
      refine s_ishr B X56 (pc' := 39) (v := (3 : Int32)) at_38 (by decide +kernel) rfl ?_
      refine s_iconst B X56 (pc' := 40) (v := (1 : Int32)) at_39 rfl rfl ?_
      refine s_iand B X56 (pc' := 41) (v := (1 : Int32)) at_40 rfl rfl ?_
      refine s_ifN B X56 (pc' := 44) at_41 (by decide) rfl ?_
      refine s_iconst B X56 (pc' := 45) (v := (1 : Int32)) at_44 rfl rfl ?_
      refine s_goto B X56 (pc' := 49) at_45 (by decide) (by decide) ?_
      refine s_istore B X56 (pc' := 51) (Ls' := #[.val (.int i0), .val (.int i1), .val (.int (1 : Int32)), .val (.int (2 : Int32)), .val (.ref o52), .val (.int (1 : Int32)), .unset]) at_49 rfl rfl ?_
      refine s_iloadN B X56 (pc' := 52) at_51 rfl rfl ?_
      refine p_static B X56 (y := mn0) (pc' := 55) (argsL := [(.int (1 : Int32))]) (under := []) (W := 0) e56 (tw1 hw) (tw2 hw) (tw4 hw) (tw3 hw) (by decide) (rm1_2 l Z a0 hw  w_SHARED w_WRITE w_MEMBERSHIP w_READ h56 F56 ) (lenOf pd_0 rfl) rfl rfl (by decide) (by decide) rfl rfl (by decide) (by decide) rfl at_52 rfl (fun T57 X57 e57 => ?_)
      show Go p e below _ (T57.setTop (mkF m 55 #[.val (.int i0), .val (.int i1), .val (.int (1 : Int32)), .val (.int (2 : Int32)), .val (.ref o52), .val (.int (1 : Int32)), .unset] [(.ref w_READ)]))
      refine s_iloadN B X57 (pc' := 56) at_55 rfl rfl ?_
      refine p_static B X57 (y := mn0) (pc' := 59) (argsL := [(.int (2 : Int32))]) (under := [(.ref w_READ)]) (W := 1) e57 (tw1 hw) (tw2 hw) (tw4 hw) (tw3 hw) (by decide) (rm1_4 l Z a0 hw  w_SHARED w_WRITE w_MEMBERSHIP w_READ h56 F56 ) (lenOf pd_0 rfl) rfl rfl (by decide) (by decide) rfl rfl (by decide) (by decide) rfl at_56 rfl (fun T58 X58 e58 => ?_)
      show Go p e below _ (T58.setTop (mkF m 59 #[.val (.int i0), .val (.int i1), .val (.int (1 : Int32)), .val (.int (2 : Int32)), .val (.ref o52), .val (.int (1 : Int32)), .unset] [(.ref w_MEMBERSHIP), (.ref w_READ)]))
      obtain ⟨S_SHARED, E_SHARED, S_WRITE, E_WRITE, S_MEMBERSHIP, E_MEMBERSHIP, S_READ, E_READ, F_SHARED_ordinal, F_WRITE_ordinal, F_MEMBERSHIP_ordinal, F_READ_ordinal⟩ := id F56
      refine p_virtual B X58 (y := mn1) (pc' := 62) (argsL := [(.ref w_MEMBERSHIP)]) (under := []) (W := 0) e58 (tw10 hw) (tw11 hw) (tw13 hw) (tw12 hw) (tw14 hw) (tw6 hw) (by decide) (rm2_10 l Z a0 hw  w_SHARED w_WRITE w_MEMBERSHIP w_READ h56 F56 ) E_READ (lenOf pd_1 rfl) rfl rfl (by decide) (by decide) rfl rfl (by decide) (by decide) rfl at_59 rfl (fun T59 X59 e59 => ?_)
      show Go p e below _ (T59.setTop (mkF m 62 #[.val (.int i0), .val (.int i1), .val (.int (1 : Int32)), .val (.int (2 : Int32)), .val (.ref o52), .val (.int (1 : Int32)), .unset] [(.int (1 : Int32))]))
      refine s_istore B X59 (pc' := 64) (Ls' := #[.val (.int i0), .val (.int i1), .val (.int (1 : Int32)), .val (.int (2 : Int32)), .val (.ref o52), .val (.int (1 : Int32)), .val (.int (1 : Int32))]) at_62 rfl rfl ?_
      refine s_iload B X59 (pc' := 66) at_64 rfl rfl ?_
      refine s_iload B X59 (pc' := 68) at_66 rfl rfl ?_
      refine s_icmpN B X59 (pc' := 71) at_68 (by decide) rfl ?_
      refine s_iconst B X59 (pc' := 72) (v := (1 : Int32)) at_71 rfl rfl ?_
      refine s_goto B X59 (pc' := 76) at_72 (by decide) (by decide) ?_
      exact r_nar B X59 (t := .boolean) (by simp) rfl at_76 ⟨rfl, N56⟩ (by decide) (by decide)
    · refine s_iloadN B X0 (pc' := 1) at_0 rfl rfl ?_
      refine s_iconst B X0 (pc' := 2) (v := (3 : Int32)) at_1 rfl rfl ?_
      refine s_iand B X0 (pc' := 3) (v := (1 : Int32)) at_2 (hv1) rfl ?_
      refine s_istoreN B X0 (pc' := 4) (Ls' := #[.val (.int i0), .val (.int i1), .val (.int (1 : Int32)), .unset, .unset, .unset, .unset]) at_3 rfl rfl ?_
      refine s_iloadN B X0 (pc' := 5) at_4 rfl rfl ?_
      refine s_iconst B X0 (pc' := 6) (v := (3 : Int32)) at_5 rfl rfl ?_
      refine s_iand B X0 (pc' := 7) (v := (3 : Int32)) at_6 (hv35) rfl ?_
      refine s_istoreN B X0 (pc' := 8) (Ls' := #[.val (.int i0), .val (.int i1), .val (.int (1 : Int32)), .val (.int (3 : Int32)), .unset, .unset, .unset]) at_7 rfl rfl ?_
      refine s_iconst B X0 (pc' := 9) (v := (4 : Int32)) at_8 rfl rfl ?_
      refine s_newP B X0 (pc' := 11) (aty := .int) (N := 4) (cap := 4) e0 (tw0 hw) (by decide) (by decide) (by decide) (by decide) (by decide) (by decide) at_9 rfl (fun T60 h60 o60 k60 g60 X60 e60 E60 A60 => ?_)
      have ge_o60 : Z.heap.size ≤ o60 := g60 ▸ old_le (Old.start Z)
      replace A60 : Ary Z h60 o60 k60 .int 4 (lst [(.int (0 : Int32)), (.int (0 : Int32)), (.int (0 : Int32)), (.int (0 : Int32))] (.int (0 : Int32))) := A60.congr (own_rep 4)
      have O60 := ((Old.start Z)).ext E60
      have F60 := OwnF.ext O60.2 F0
      show Go p e below _ (T60.setTop (mkF m 11 #[.val (.int i0), .val (.int i1), .val (.int (1 : Int32)), .val (.int (3 : Int32)), .unset, .unset, .unset] [(.ref o60)]))
      refine s_dup B X60 (pc' := 12) at_11 rfl rfl ?_
      refine s_iconst B X60 (pc' := 13) (v := (0 : Int32)) at_12 rfl rfl ?_
      refine s_bipush B X60 (pc' := 15) (v := (8 : Int32)) at_13 rfl rfl ?_
      refine s_stI B X60 (pc' := 16) (jn := 0) e60 A60  (by decide) (by decide) (by decide) at_15 rfl (fun T61 h61 X61 e61 W61 A61 => ?_)
      replace A61 := A61.full (show 0 < 4 by decide) (L' := [(.int (8 : Int32)), (.int (0 : Int32)), (.int (0 : Int32)), (.int (0 : Int32))]) rfl
      have N61 := Fr.snoc X61 (Fr.nil _) ge_o60
      have O61 := (O60).wr W61 ge_o60
      have F61 := OwnF.ext O61.2 F0
      show Go p e below _ (T61.setTop (mkF m 16 #[.val (.int i0), .val (.int i1), .val (.int (1 : Int32)), .val (.int (3 : Int32)), .unset, .unset, .unset] [(.ref o60)]))
      refine s_dup B X61 (pc' := 17) at_16 rfl rfl ?_
      refine s_iconst B X61 (pc' := 18) (v := (1 : Int32)) at_17 rfl rfl ?_
      refine s_bipush B X61 (pc' := 20) (v := (12 : Int32)) at_18 rfl rfl ?_
      refine s_stI B X61 (pc' := 21) (jn := 1) e61 A61  (by decide) (by decide) (by decide) at_20 rfl (fun T62 h62 X62 e62 W62 A62 => ?_)
      replace A62 := A62.full (show 1 < 4 by decide) (L' := [(.int (8 : Int32)), (.int (12 : Int32)), (.int (0 : Int32)), (.int (0 : Int32))]) rfl
      have N62 := Fr.snoc X62 N61 ge_o60
      have O62 := (O61).wr W62 ge_o60
      have F62 := OwnF.ext O62.2 F0
      show Go p e below _ (T62.setTop (mkF m 21 #[.val (.int i0), .val (.int i1), .val (.int (1 : Int32)), .val (.int (3 : Int32)), .unset, .unset, .unset] [(.ref o60)]))
      refine s_dup B X62 (pc' := 22) at_21 rfl rfl ?_
      refine s_iconst B X62 (pc' := 23) (v := (2 : Int32)) at_22 rfl rfl ?_
      refine s_bipush B X62 (pc' := 25) (v := (10 : Int32)) at_23 rfl rfl ?_
      refine s_stI B X62 (pc' := 26) (jn := 2) e62 A62  (by decide) (by decide) (by decide) at_25 rfl (fun T63 h63 X63 e63 W63 A63 => ?_)
      replace A63 := A63.full (show 2 < 4 by decide) (L' := [(.int (8 : Int32)), (.int (12 : Int32)), (.int (10 : Int32)), (.int (0 : Int32))]) rfl
      have N63 := Fr.snoc X63 N62 ge_o60
      have O63 := (O62).wr W63 ge_o60
      have F63 := OwnF.ext O63.2 F0
      show Go p e below _ (T63.setTop (mkF m 26 #[.val (.int i0), .val (.int i1), .val (.int (1 : Int32)), .val (.int (3 : Int32)), .unset, .unset, .unset] [(.ref o60)]))
      refine s_dup B X63 (pc' := 27) at_26 rfl rfl ?_
      refine s_iconst B X63 (pc' := 28) (v := (3 : Int32)) at_27 rfl rfl ?_
      refine s_bipush B X63 (pc' := 30) (v := (15 : Int32)) at_28 rfl rfl ?_
      refine s_stI B X63 (pc' := 31) (jn := 3) e63 A63  (by decide) (by decide) (by decide) at_30 rfl (fun T64 h64 X64 e64 W64 A64 => ?_)
      replace A64 := A64.full (show 3 < 4 by decide) (L' := [(.int (8 : Int32)), (.int (12 : Int32)), (.int (10 : Int32)), (.int (15 : Int32))]) rfl
      have N64 := Fr.snoc X64 N63 ge_o60
      have O64 := (O63).wr W64 ge_o60
      have F64 := OwnF.ext O64.2 F0
      show Go p e below _ (T64.setTop (mkF m 31 #[.val (.int i0), .val (.int i1), .val (.int (1 : Int32)), .val (.int (3 : Int32)), .unset, .unset, .unset] [(.ref o60)]))
      refine s_astore B X64 (pc' := 33) (Ls' := #[.val (.int i0), .val (.int i1), .val (.int (1 : Int32)), .val (.int (3 : Int32)), .val (.ref o60), .unset, .unset]) at_31 rfl rfl rfl ?_
      refine s_aload B X64 (pc' := 35) at_33 rfl rfl rfl ?_
      refine s_iloadN B X64 (pc' := 36) at_35 rfl rfl ?_
      refine s_ldI B X64 (pc' := 37) (jn := 1) (v := (.int (12 : Int32))) e64 A64 (by decide) (by decide) (by decide) rfl at_36 rfl ?_
      refine s_iloadN B X64 (pc' := 38) at_37 rfl rfl ?_
      refine s_ishr B X64 (pc' := 39) (v := (1 : Int32)) at_38 (by decide +kernel) rfl ?_
      refine s_iconst B X64 (pc' := 40) (v := (1 : Int32)) at_39 rfl rfl ?_
      refine s_iand B X64 (pc' := 41) (v := (1 : Int32)) at_40 rfl rfl ?_
      refine s_ifN B X64 (pc' := 44) at_41 (by decide) rfl ?_
      refine s_iconst B X64 (pc' := 45) (v := (1 : Int32)) at_44 rfl rfl ?_
      refine s_goto B X64 (pc' := 49) at_45 (by decide) (by decide) ?_
      refine s_istore B X64 (pc' := 51) (Ls' := #[.val (.int i0), .val (.int i1), .val (.int (1 : Int32)), .val (.int (3 : Int32)), .val (.ref o60), .val (.int (1 : Int32)), .unset]) at_49 rfl rfl ?_
      refine s_iloadN B X64 (pc' := 52) at_51 rfl rfl ?_
      refine p_static B X64 (y := mn0) (pc' := 55) (argsL := [(.int (1 : Int32))]) (under := []) (W := 0) e64 (tw1 hw) (tw2 hw) (tw4 hw) (tw3 hw) (by decide) (rm1_2 l Z a0 hw  w_SHARED w_WRITE w_MEMBERSHIP w_READ h64 F64 ) (lenOf pd_0 rfl) rfl rfl (by decide) (by decide) rfl rfl (by decide) (by decide) rfl at_52 rfl (fun T65 X65 e65 => ?_)
      show Go p e below _ (T65.setTop (mkF m 55 #[.val (.int i0), .val (.int i1), .val (.int (1 : Int32)), .val (.int (3 : Int32)), .val (.ref o60), .val (.int (1 : Int32)), .unset] [(.ref w_READ)]))
      refine s_iloadN B X65 (pc' := 56) at_55 rfl rfl ?_
      refine p_static B X65 (y := mn0) (pc' := 59) (argsL := [(.int (3 : Int32))]) (under := [(.ref w_READ)]) (W := 1) e65 (tw1 hw) (tw2 hw) (tw4 hw) (tw3 hw) (by decide) (rm1_6 l Z a0 hw  w_SHARED w_WRITE w_MEMBERSHIP w_READ h64 F64 ) (lenOf pd_0 rfl) rfl rfl (by decide) (by decide) rfl rfl (by decide) (by decide) rfl at_56 rfl (fun T66 X66 e66 => ?_)
      show Go p e below _ (T66.setTop (mkF m 59 #[.val (.int i0), .val (.int i1), .val (.int (1 : Int32)), .val (.int (3 : Int32)), .val (.ref o60), .val (.int (1 : Int32)), .unset] [(.ref w_WRITE), (.ref w_READ)]))
      obtain ⟨S_SHARED, E_SHARED, S_WRITE, E_WRITE, S_MEMBERSHIP, E_MEMBERSHIP, S_READ, E_READ, F_SHARED_ordinal, F_WRITE_ordinal, F_MEMBERSHIP_ordinal, F_READ_ordinal⟩ := id F64
      refine p_virtual B X66 (y := mn1) (pc' := 62) (argsL := [(.ref w_WRITE)]) (under := []) (W := 0) e66 (tw10 hw) (tw11 hw) (tw13 hw) (tw12 hw) (tw14 hw) (tw6 hw) (by decide) (rm2_11 l Z a0 hw  w_SHARED w_WRITE w_MEMBERSHIP w_READ h64 F64 ) E_READ (lenOf pd_1 rfl) rfl rfl (by decide) (by decide) rfl rfl (by decide) (by decide) rfl at_59 rfl (fun T67 X67 e67 => ?_)
      show Go p e below _ (T67.setTop (mkF m 62 #[.val (.int i0), .val (.int i1), .val (.int (1 : Int32)), .val (.int (3 : Int32)), .val (.ref o60), .val (.int (1 : Int32)), .unset] [(.int (1 : Int32))]))
      refine s_istore B X67 (pc' := 64) (Ls' := #[.val (.int i0), .val (.int i1), .val (.int (1 : Int32)), .val (.int (3 : Int32)), .val (.ref o60), .val (.int (1 : Int32)), .val (.int (1 : Int32))]) at_62 rfl rfl ?_
      refine s_iload B X67 (pc' := 66) at_64 rfl rfl ?_
      refine s_iload B X67 (pc' := 68) at_66 rfl rfl ?_
      refine s_icmpN B X67 (pc' := 71) at_68 (by decide) rfl ?_
      refine s_iconst B X67 (pc' := 72) (v := (1 : Int32)) at_71 rfl rfl ?_
      refine s_goto B X67 (pc' := 76) at_72 (by decide) (by decide) ?_
      exact r_nar B X67 (t := .boolean) (by simp) rfl at_76 ⟨rfl, N64⟩ (by decide) (by decide)
  · rcases own_and3 i1 with hv68 | hv68 | hv68 | hv68
    · refine s_iloadN B X0 (pc' := 1) at_0 rfl rfl ?_
      refine s_iconst B X0 (pc' := 2) (v := (3 : Int32)) at_1 rfl rfl ?_
      refine s_iand B X0 (pc' := 3) (v := (2 : Int32)) at_2 (hv1) rfl ?_
      refine s_istoreN B X0 (pc' := 4) (Ls' := #[.val (.int i0), .val (.int i1), .val (.int (2 : Int32)), .unset, .unset, .unset, .unset]) at_3 rfl rfl ?_
      refine s_iloadN B X0 (pc' := 5) at_4 rfl rfl ?_
      refine s_iconst B X0 (pc' := 6) (v := (3 : Int32)) at_5 rfl rfl ?_
      refine s_iand B X0 (pc' := 7) (v := (0 : Int32)) at_6 (hv68) rfl ?_
      refine s_istoreN B X0 (pc' := 8) (Ls' := #[.val (.int i0), .val (.int i1), .val (.int (2 : Int32)), .val (.int (0 : Int32)), .unset, .unset, .unset]) at_7 rfl rfl ?_
      refine s_iconst B X0 (pc' := 9) (v := (4 : Int32)) at_8 rfl rfl ?_
      refine s_newP B X0 (pc' := 11) (aty := .int) (N := 4) (cap := 4) e0 (tw0 hw) (by decide) (by decide) (by decide) (by decide) (by decide) (by decide) at_9 rfl (fun T69 h69 o69 k69 g69 X69 e69 E69 A69 => ?_)
      have ge_o69 : Z.heap.size ≤ o69 := g69 ▸ old_le (Old.start Z)
      replace A69 : Ary Z h69 o69 k69 .int 4 (lst [(.int (0 : Int32)), (.int (0 : Int32)), (.int (0 : Int32)), (.int (0 : Int32))] (.int (0 : Int32))) := A69.congr (own_rep 4)
      have O69 := ((Old.start Z)).ext E69
      have F69 := OwnF.ext O69.2 F0
      show Go p e below _ (T69.setTop (mkF m 11 #[.val (.int i0), .val (.int i1), .val (.int (2 : Int32)), .val (.int (0 : Int32)), .unset, .unset, .unset] [(.ref o69)]))
      refine s_dup B X69 (pc' := 12) at_11 rfl rfl ?_
      refine s_iconst B X69 (pc' := 13) (v := (0 : Int32)) at_12 rfl rfl ?_
      refine s_bipush B X69 (pc' := 15) (v := (8 : Int32)) at_13 rfl rfl ?_
      refine s_stI B X69 (pc' := 16) (jn := 0) e69 A69  (by decide) (by decide) (by decide) at_15 rfl (fun T70 h70 X70 e70 W70 A70 => ?_)
      replace A70 := A70.full (show 0 < 4 by decide) (L' := [(.int (8 : Int32)), (.int (0 : Int32)), (.int (0 : Int32)), (.int (0 : Int32))]) rfl
      have N70 := Fr.snoc X70 (Fr.nil _) ge_o69
      have O70 := (O69).wr W70 ge_o69
      have F70 := OwnF.ext O70.2 F0
      show Go p e below _ (T70.setTop (mkF m 16 #[.val (.int i0), .val (.int i1), .val (.int (2 : Int32)), .val (.int (0 : Int32)), .unset, .unset, .unset] [(.ref o69)]))
      refine s_dup B X70 (pc' := 17) at_16 rfl rfl ?_
      refine s_iconst B X70 (pc' := 18) (v := (1 : Int32)) at_17 rfl rfl ?_
      refine s_bipush B X70 (pc' := 20) (v := (12 : Int32)) at_18 rfl rfl ?_
      refine s_stI B X70 (pc' := 21) (jn := 1) e70 A70  (by decide) (by decide) (by decide) at_20 rfl (fun T71 h71 X71 e71 W71 A71 => ?_)
      replace A71 := A71.full (show 1 < 4 by decide) (L' := [(.int (8 : Int32)), (.int (12 : Int32)), (.int (0 : Int32)), (.int (0 : Int32))]) rfl
      have N71 := Fr.snoc X71 N70 ge_o69
      have O71 := (O70).wr W71 ge_o69
      have F71 := OwnF.ext O71.2 F0
      show Go p e below _ (T71.setTop (mkF m 21 #[.val (.int i0), .val (.int i1), .val (.int (2 : Int32)), .val (.int (0 : Int32)), .unset, .unset, .unset] [(.ref o69)]))
      refine s_dup B X71 (pc' := 22) at_21 rfl rfl ?_
      refine s_iconst B X71 (pc' := 23) (v := (2 : Int32)) at_22 rfl rfl ?_
      refine s_bipush B X71 (pc' := 25) (v := (10 : Int32)) at_23 rfl rfl ?_
      refine s_stI B X71 (pc' := 26) (jn := 2) e71 A71  (by decide) (by decide) (by decide) at_25 rfl (fun T72 h72 X72 e72 W72 A72 => ?_)
      replace A72 := A72.full (show 2 < 4 by decide) (L' := [(.int (8 : Int32)), (.int (12 : Int32)), (.int (10 : Int32)), (.int (0 : Int32))]) rfl
      have N72 := Fr.snoc X72 N71 ge_o69
      have O72 := (O71).wr W72 ge_o69
      have F72 := OwnF.ext O72.2 F0
      show Go p e below _ (T72.setTop (mkF m 26 #[.val (.int i0), .val (.int i1), .val (.int (2 : Int32)), .val (.int (0 : Int32)), .unset, .unset, .unset] [(.ref o69)]))
      refine s_dup B X72 (pc' := 27) at_26 rfl rfl ?_
      refine s_iconst B X72 (pc' := 28) (v := (3 : Int32)) at_27 rfl rfl ?_
      refine s_bipush B X72 (pc' := 30) (v := (15 : Int32)) at_28 rfl rfl ?_
      refine s_stI B X72 (pc' := 31) (jn := 3) e72 A72  (by decide) (by decide) (by decide) at_30 rfl (fun T73 h73 X73 e73 W73 A73 => ?_)
      replace A73 := A73.full (show 3 < 4 by decide) (L' := [(.int (8 : Int32)), (.int (12 : Int32)), (.int (10 : Int32)), (.int (15 : Int32))]) rfl
      have N73 := Fr.snoc X73 N72 ge_o69
      have O73 := (O72).wr W73 ge_o69
      have F73 := OwnF.ext O73.2 F0
      show Go p e below _ (T73.setTop (mkF m 31 #[.val (.int i0), .val (.int i1), .val (.int (2 : Int32)), .val (.int (0 : Int32)), .unset, .unset, .unset] [(.ref o69)]))
      refine s_astore B X73 (pc' := 33) (Ls' := #[.val (.int i0), .val (.int i1), .val (.int (2 : Int32)), .val (.int (0 : Int32)), .val (.ref o69), .unset, .unset]) at_31 rfl rfl rfl ?_
      refine s_aload B X73 (pc' := 35) at_33 rfl rfl rfl ?_
      refine s_iloadN B X73 (pc' := 36) at_35 rfl rfl ?_
      refine s_ldI B X73 (pc' := 37) (jn := 2) (v := (.int (10 : Int32))) e73 A73 (by decide) (by decide) (by decide) rfl at_36 rfl ?_
      refine s_iloadN B X73 (pc' := 38) at_37 rfl rfl ?_
      refine s_ishr B X73 (pc' := 39) (v := (10 : Int32)) at_38 (by decide +kernel) rfl ?_
      refine s_iconst B X73 (pc' := 40) (v := (1 : Int32)) at_39 rfl rfl ?_
      refine s_iand B X73 (pc' := 41) (v := (0 : Int32)) at_40 rfl rfl ?_
      refine s_ifY B X73 (pc' := 48) at_41 (by decide) (by decide) (by decide) ?_
      refine s_iconst B X73 (pc' := 49) (v := (0 : Int32)) at_48 rfl rfl ?_
      refine s_istore B X73 (pc' := 51) (Ls' := #[.val (.int i0), .val (.int i1), .val (.int (2 : Int32)), .val (.int (0 : Int32)), .val (.ref o69), .val (.int (0 : Int32)), .unset]) at_49 rfl rfl ?_
      refine s_iloadN B X73 (pc' := 52) at_51 rfl rfl ?_
      refine p_static B X73 (y := mn0) (pc' := 55) (argsL := [(.int (2 : Int32))]) (under := []) (W := 0) e73 (tw1 hw) (tw2 hw) (tw4 hw) (tw3 hw) (by decide) (rm1_4 l Z a0 hw  w_SHARED w_WRITE w_MEMBERSHIP w_READ h73 F73 ) (lenOf pd_0 rfl) rfl rfl (by decide) (by decide) rfl rfl (by decide) (by decide) rfl at_52 rfl (fun T74 X74 e74 => ?_)
      show Go p e below _ (T74.setTop (mkF m 55 #[.val (.int i0), .val (.int i1), .val (.int (2 : Int32)), .val (.int (0 : Int32)), .val (.ref o69), .val (.int (0 : Int32)), .unset] [(.ref w_MEMBERSHIP)]))
      refine s_iloadN B X74 (pc' := 56) at_55 rfl rfl ?_
      refine p_static B X74 (y := mn0) (pc' := 59) (argsL := [(.int (0 : Int32))]) (under := [(.ref w_MEMBERSHIP)]) (W := 1) e74 (tw1 hw) (tw2 hw) (tw4 hw) (tw3 hw) (by decide) (rm1_0 l Z a0 hw  w_SHARED w_WRITE w_MEMBERSHIP w_READ h73 F73 ) (lenOf pd_0 rfl) rfl rfl (by decide) (by decide) rfl rfl (by decide) (by decide) rfl at_56 rfl (fun T75 X75 e75 => ?_)
      show Go p e below _ (T75.setTop (mkF m 59 #[.val (.int i0), .val (.int i1), .val (.int (2 : Int32)), .val (.int (0 : Int32)), .val (.ref o69), .val (.int (0 : Int32)), .unset] [(.ref w_SHARED), (.ref w_MEMBERSHIP)]))
      obtain ⟨S_SHARED, E_SHARED, S_WRITE, E_WRITE, S_MEMBERSHIP, E_MEMBERSHIP, S_READ, E_READ, F_SHARED_ordinal, F_WRITE_ordinal, F_MEMBERSHIP_ordinal, F_READ_ordinal⟩ := id F73
      refine p_virtual B X75 (y := mn1) (pc' := 62) (argsL := [(.ref w_SHARED)]) (under := []) (W := 0) e75 (tw10 hw) (tw11 hw) (tw13 hw) (tw12 hw) (tw14 hw) (tw6 hw) (by decide) (rm2_12 l Z a0 hw  w_SHARED w_WRITE w_MEMBERSHIP w_READ h73 F73 ) E_MEMBERSHIP (lenOf pd_1 rfl) rfl rfl (by decide) (by decide) rfl rfl (by decide) (by decide) rfl at_59 rfl (fun T76 X76 e76 => ?_)
      show Go p e below _ (T76.setTop (mkF m 62 #[.val (.int i0), .val (.int i1), .val (.int (2 : Int32)), .val (.int (0 : Int32)), .val (.ref o69), .val (.int (0 : Int32)), .unset] [(.int (0 : Int32))]))
      refine s_istore B X76 (pc' := 64) (Ls' := #[.val (.int i0), .val (.int i1), .val (.int (2 : Int32)), .val (.int (0 : Int32)), .val (.ref o69), .val (.int (0 : Int32)), .val (.int (0 : Int32))]) at_62 rfl rfl ?_
      refine s_iload B X76 (pc' := 66) at_64 rfl rfl ?_
      refine s_iload B X76 (pc' := 68) at_66 rfl rfl ?_
      refine s_icmpN B X76 (pc' := 71) at_68 (by decide) rfl ?_
      refine s_iconst B X76 (pc' := 72) (v := (1 : Int32)) at_71 rfl rfl ?_
      refine s_goto B X76 (pc' := 76) at_72 (by decide) (by decide) ?_
      exact r_nar B X76 (t := .boolean) (by simp) rfl at_76 ⟨rfl, N73⟩ (by decide) (by decide)
    · refine s_iloadN B X0 (pc' := 1) at_0 rfl rfl ?_
      refine s_iconst B X0 (pc' := 2) (v := (3 : Int32)) at_1 rfl rfl ?_
      refine s_iand B X0 (pc' := 3) (v := (2 : Int32)) at_2 (hv1) rfl ?_
      refine s_istoreN B X0 (pc' := 4) (Ls' := #[.val (.int i0), .val (.int i1), .val (.int (2 : Int32)), .unset, .unset, .unset, .unset]) at_3 rfl rfl ?_
      refine s_iloadN B X0 (pc' := 5) at_4 rfl rfl ?_
      refine s_iconst B X0 (pc' := 6) (v := (3 : Int32)) at_5 rfl rfl ?_
      refine s_iand B X0 (pc' := 7) (v := (1 : Int32)) at_6 (hv68) rfl ?_
      refine s_istoreN B X0 (pc' := 8) (Ls' := #[.val (.int i0), .val (.int i1), .val (.int (2 : Int32)), .val (.int (1 : Int32)), .unset, .unset, .unset]) at_7 rfl rfl ?_
      refine s_iconst B X0 (pc' := 9) (v := (4 : Int32)) at_8 rfl rfl ?_
      refine s_newP B X0 (pc' := 11) (aty := .int) (N := 4) (cap := 4) e0 (tw0 hw) (by decide) (by decide) (by decide) (by decide) (by decide) (by decide) at_9 rfl (fun T77 h77 o77 k77 g77 X77 e77 E77 A77 => ?_)
      have ge_o77 : Z.heap.size ≤ o77 := g77 ▸ old_le (Old.start Z)
      replace A77 : Ary Z h77 o77 k77 .int 4 (lst [(.int (0 : Int32)), (.int (0 : Int32)), (.int (0 : Int32)), (.int (0 : Int32))] (.int (0 : Int32))) := A77.congr (own_rep 4)
      have O77 := ((Old.start Z)).ext E77
      have F77 := OwnF.ext O77.2 F0
      show Go p e below _ (T77.setTop (mkF m 11 #[.val (.int i0), .val (.int i1), .val (.int (2 : Int32)), .val (.int (1 : Int32)), .unset, .unset, .unset] [(.ref o77)]))
      refine s_dup B X77 (pc' := 12) at_11 rfl rfl ?_
      refine s_iconst B X77 (pc' := 13) (v := (0 : Int32)) at_12 rfl rfl ?_
      refine s_bipush B X77 (pc' := 15) (v := (8 : Int32)) at_13 rfl rfl ?_
      refine s_stI B X77 (pc' := 16) (jn := 0) e77 A77  (by decide) (by decide) (by decide) at_15 rfl (fun T78 h78 X78 e78 W78 A78 => ?_)
      replace A78 := A78.full (show 0 < 4 by decide) (L' := [(.int (8 : Int32)), (.int (0 : Int32)), (.int (0 : Int32)), (.int (0 : Int32))]) rfl
      have N78 := Fr.snoc X78 (Fr.nil _) ge_o77
      have O78 := (O77).wr W78 ge_o77
      have F78 := OwnF.ext O78.2 F0
      show Go p e below _ (T78.setTop (mkF m 16 #[.val (.int i0), .val (.int i1), .val (.int (2 : Int32)), .val (.int (1 : Int32)), .unset, .unset, .unset] [(.ref o77)]))
      refine s_dup B X78 (pc' := 17) at_16 rfl rfl ?_
      refine s_iconst B X78 (pc' := 18) (v := (1 : Int32)) at_17 rfl rfl ?_
      refine s_bipush B X78 (pc' := 20) (v := (12 : Int32)) at_18 rfl rfl ?_
      refine s_stI B X78 (pc' := 21) (jn := 1) e78 A78  (by decide) (by decide) (by decide) at_20 rfl (fun T79 h79 X79 e79 W79 A79 => ?_)
      replace A79 := A79.full (show 1 < 4 by decide) (L' := [(.int (8 : Int32)), (.int (12 : Int32)), (.int (0 : Int32)), (.int (0 : Int32))]) rfl
      have N79 := Fr.snoc X79 N78 ge_o77
      have O79 := (O78).wr W79 ge_o77
      have F79 := OwnF.ext O79.2 F0
      show Go p e below _ (T79.setTop (mkF m 21 #[.val (.int i0), .val (.int i1), .val (.int (2 : Int32)), .val (.int (1 : Int32)), .unset, .unset, .unset] [(.ref o77)]))
      refine s_dup B X79 (pc' := 22) at_21 rfl rfl ?_
      refine s_iconst B X79 (pc' := 23) (v := (2 : Int32)) at_22 rfl rfl ?_
      refine s_bipush B X79 (pc' := 25) (v := (10 : Int32)) at_23 rfl rfl ?_
      refine s_stI B X79 (pc' := 26) (jn := 2) e79 A79  (by decide) (by decide) (by decide) at_25 rfl (fun T80 h80 X80 e80 W80 A80 => ?_)
      replace A80 := A80.full (show 2 < 4 by decide) (L' := [(.int (8 : Int32)), (.int (12 : Int32)), (.int (10 : Int32)), (.int (0 : Int32))]) rfl
      have N80 := Fr.snoc X80 N79 ge_o77
      have O80 := (O79).wr W80 ge_o77
      have F80 := OwnF.ext O80.2 F0
      show Go p e below _ (T80.setTop (mkF m 26 #[.val (.int i0), .val (.int i1), .val (.int (2 : Int32)), .val (.int (1 : Int32)), .unset, .unset, .unset] [(.ref o77)]))
      refine s_dup B X80 (pc' := 27) at_26 rfl rfl ?_
      refine s_iconst B X80 (pc' := 28) (v := (3 : Int32)) at_27 rfl rfl ?_
      refine s_bipush B X80 (pc' := 30) (v := (15 : Int32)) at_28 rfl rfl ?_
      refine s_stI B X80 (pc' := 31) (jn := 3) e80 A80  (by decide) (by decide) (by decide) at_30 rfl (fun T81 h81 X81 e81 W81 A81 => ?_)
      replace A81 := A81.full (show 3 < 4 by decide) (L' := [(.int (8 : Int32)), (.int (12 : Int32)), (.int (10 : Int32)), (.int (15 : Int32))]) rfl
      have N81 := Fr.snoc X81 N80 ge_o77
      have O81 := (O80).wr W81 ge_o77
      have F81 := OwnF.ext O81.2 F0
      show Go p e below _ (T81.setTop (mkF m 31 #[.val (.int i0), .val (.int i1), .val (.int (2 : Int32)), .val (.int (1 : Int32)), .unset, .unset, .unset] [(.ref o77)]))
      refine s_astore B X81 (pc' := 33) (Ls' := #[.val (.int i0), .val (.int i1), .val (.int (2 : Int32)), .val (.int (1 : Int32)), .val (.ref o77), .unset, .unset]) at_31 rfl rfl rfl ?_
      refine s_aload B X81 (pc' := 35) at_33 rfl rfl rfl ?_
      refine s_iloadN B X81 (pc' := 36) at_35 rfl rfl ?_
      refine s_ldI B X81 (pc' := 37) (jn := 2) (v := (.int (10 : Int32))) e81 A81 (by decide) (by decide) (by decide) rfl at_36 rfl ?_
      refine s_iloadN B X81 (pc' := 38) at_37 rfl rfl ?_
      refine s_ishr B X81 (pc' := 39) (v := (5 : Int32)) at_38 (by decide +kernel) rfl ?_
      refine s_iconst B X81 (pc' := 40) (v := (1 : Int32)) at_39 rfl rfl ?_
      refine s_iand B X81 (pc' := 41) (v := (1 : Int32)) at_40 rfl rfl ?_
      refine s_ifN B X81 (pc' := 44) at_41 (by decide) rfl ?_
      refine s_iconst B X81 (pc' := 45) (v := (1 : Int32)) at_44 rfl rfl ?_
      refine s_goto B X81 (pc' := 49) at_45 (by decide) (by decide) ?_
      refine s_istore B X81 (pc' := 51) (Ls' := #[.val (.int i0), .val (.int i1), .val (.int (2 : Int32)), .val (.int (1 : Int32)), .val (.ref o77), .val (.int (1 : Int32)), .unset]) at_49 rfl rfl ?_
      refine s_iloadN B X81 (pc' := 52) at_51 rfl rfl ?_
      refine p_static B X81 (y := mn0) (pc' := 55) (argsL := [(.int (2 : Int32))]) (under := []) (W := 0) e81 (tw1 hw) (tw2 hw) (tw4 hw) (tw3 hw) (by decide) (rm1_4 l Z a0 hw  w_SHARED w_WRITE w_MEMBERSHIP w_READ h81 F81 ) (lenOf pd_0 rfl) rfl rfl (by decide) (by decide) rfl rfl (by decide) (by decide) rfl at_52 rfl (fun T82 X82 e82 => ?_)
      show Go p e below _ (T82.setTop (mkF m 55 #[.val (.int i0), .val (.int i1), .val (.int (2 : Int32)), .val (.int (1 : Int32)), .val (.ref o77), .val (.int (1 : Int32)), .unset] [(.ref w_MEMBERSHIP)]))
      refine s_iloadN B X82 (pc' := 56) at_55 rfl rfl ?_
      refine p_static B X82 (y := mn0) (pc' := 59) (argsL := [(.int (1 : Int32))]) (under := [(.ref w_MEMBERSHIP)]) (W := 1) e82 (tw1 hw) (tw2 hw) (tw4 hw) (tw3 hw) (by decide) (rm1_2 l Z a0 hw  w_SHARED w_WRITE w_MEMBERSHIP w_READ h81 F81 ) (lenOf pd_0 rfl) rfl rfl (by decide) (by decide) rfl rfl (by decide) (by decide) rfl at_56 rfl (fun T83 X83 e83 => ?_)
      show Go p e below _ (T83.setTop (mkF m 59 #[.val (.int i0), .val (.int i1), .val (.int (2 : Int32)), .val (.int (1 : Int32)), .val (.ref o77), .val (.int (1 : Int32)), .unset] [(.ref w_READ), (.ref w_MEMBERSHIP)]))
      obtain ⟨S_SHARED, E_SHARED, S_WRITE, E_WRITE, S_MEMBERSHIP, E_MEMBERSHIP, S_READ, E_READ, F_SHARED_ordinal, F_WRITE_ordinal, F_MEMBERSHIP_ordinal, F_READ_ordinal⟩ := id F81
      refine p_virtual B X83 (y := mn1) (pc' := 62) (argsL := [(.ref w_READ)]) (under := []) (W := 0) e83 (tw10 hw) (tw11 hw) (tw13 hw) (tw12 hw) (tw14 hw) (tw6 hw) (by decide) (rm2_13 l Z a0 hw  w_SHARED w_WRITE w_MEMBERSHIP w_READ h81 F81 ) E_MEMBERSHIP (lenOf pd_1 rfl) rfl rfl (by decide) (by decide) rfl rfl (by decide) (by decide) rfl at_59 rfl (fun T84 X84 e84 => ?_)
      show Go p e below _ (T84.setTop (mkF m 62 #[.val (.int i0), .val (.int i1), .val (.int (2 : Int32)), .val (.int (1 : Int32)), .val (.ref o77), .val (.int (1 : Int32)), .unset] [(.int (1 : Int32))]))
      refine s_istore B X84 (pc' := 64) (Ls' := #[.val (.int i0), .val (.int i1), .val (.int (2 : Int32)), .val (.int (1 : Int32)), .val (.ref o77), .val (.int (1 : Int32)), .val (.int (1 : Int32))]) at_62 rfl rfl ?_
      refine s_iload B X84 (pc' := 66) at_64 rfl rfl ?_
      refine s_iload B X84 (pc' := 68) at_66 rfl rfl ?_
      refine s_icmpN B X84 (pc' := 71) at_68 (by decide) rfl ?_
      refine s_iconst B X84 (pc' := 72) (v := (1 : Int32)) at_71 rfl rfl ?_
      refine s_goto B X84 (pc' := 76) at_72 (by decide) (by decide) ?_
      exact r_nar B X84 (t := .boolean) (by simp) rfl at_76 ⟨rfl, N81⟩ (by decide) (by decide)
    · refine s_iloadN B X0 (pc' := 1) at_0 rfl rfl ?_
      refine s_iconst B X0 (pc' := 2) (v := (3 : Int32)) at_1 rfl rfl ?_
      refine s_iand B X0 (pc' := 3) (v := (2 : Int32)) at_2 (hv1) rfl ?_
      refine s_istoreN B X0 (pc' := 4) (Ls' := #[.val (.int i0), .val (.int i1), .val (.int (2 : Int32)), .unset, .unset, .unset, .unset]) at_3 rfl rfl ?_
      refine s_iloadN B X0 (pc' := 5) at_4 rfl rfl ?_
      refine s_iconst B X0 (pc' := 6) (v := (3 : Int32)) at_5 rfl rfl ?_
      refine s_iand B X0 (pc' := 7) (v := (2 : Int32)) at_6 (hv68) rfl ?_
      refine s_istoreN B X0 (pc' := 8) (Ls' := #[.val (.int i0), .val (.int i1), .val (.int (2 : Int32)), .val (.int (2 : Int32)), .unset, .unset, .unset]) at_7 rfl rfl ?_
      refine s_iconst B X0 (pc' := 9) (v := (4 : Int32)) at_8 rfl rfl ?_
      refine s_newP B X0 (pc' := 11) (aty := .int) (N := 4) (cap := 4) e0 (tw0 hw) (by decide) (by decide) (by decide) (by decide) (by decide) (by decide) at_9 rfl (fun T85 h85 o85 k85 g85 X85 e85 E85 A85 => ?_)
      have ge_o85 : Z.heap.size ≤ o85 := g85 ▸ old_le (Old.start Z)
      replace A85 : Ary Z h85 o85 k85 .int 4 (lst [(.int (0 : Int32)), (.int (0 : Int32)), (.int (0 : Int32)), (.int (0 : Int32))] (.int (0 : Int32))) := A85.congr (own_rep 4)
      have O85 := ((Old.start Z)).ext E85
      have F85 := OwnF.ext O85.2 F0
      show Go p e below _ (T85.setTop (mkF m 11 #[.val (.int i0), .val (.int i1), .val (.int (2 : Int32)), .val (.int (2 : Int32)), .unset, .unset, .unset] [(.ref o85)]))
      refine s_dup B X85 (pc' := 12) at_11 rfl rfl ?_
      refine s_iconst B X85 (pc' := 13) (v := (0 : Int32)) at_12 rfl rfl ?_
      refine s_bipush B X85 (pc' := 15) (v := (8 : Int32)) at_13 rfl rfl ?_
      refine s_stI B X85 (pc' := 16) (jn := 0) e85 A85  (by decide) (by decide) (by decide) at_15 rfl (fun T86 h86 X86 e86 W86 A86 => ?_)
      replace A86 := A86.full (show 0 < 4 by decide) (L' := [(.int (8 : Int32)), (.int (0 : Int32)), (.int (0 : Int32)), (.int (0 : Int32))]) rfl
      have N86 := Fr.snoc X86 (Fr.nil _) ge_o85
      have O86 := (O85).wr W86 ge_o85
      have F86 := OwnF.ext O86.2 F0
      show Go p e below _ (T86.setTop (mkF m 16 #[.val (.int i0), .val (.int i1), .val (.int (2 : Int32)), .val (.int (2 : Int32)), .unset, .unset, .unset] [(.ref o85)]))
      refine s_dup B X86 (pc' := 17) at_16 rfl rfl ?_
      refine s_iconst B X86 (pc' := 18) (v := (1 : Int32)) at_17 rfl rfl ?_
      refine s_bipush B X86 (pc' := 20) (v := (12 : Int32)) at_18 rfl rfl ?_
      refine s_stI B X86 (pc' := 21) (jn := 1) e86 A86  (by decide) (by decide) (by decide) at_20 rfl (fun T87 h87 X87 e87 W87 A87 => ?_)
      replace A87 := A87.full (show 1 < 4 by decide) (L' := [(.int (8 : Int32)), (.int (12 : Int32)), (.int (0 : Int32)), (.int (0 : Int32))]) rfl
      have N87 := Fr.snoc X87 N86 ge_o85
      have O87 := (O86).wr W87 ge_o85
      have F87 := OwnF.ext O87.2 F0
      show Go p e below _ (T87.setTop (mkF m 21 #[.val (.int i0), .val (.int i1), .val (.int (2 : Int32)), .val (.int (2 : Int32)), .unset, .unset, .unset] [(.ref o85)]))
      refine s_dup B X87 (pc' := 22) at_21 rfl rfl ?_
      refine s_iconst B X87 (pc' := 23) (v := (2 : Int32)) at_22 rfl rfl ?_
      refine s_bipush B X87 (pc' := 25) (v := (10 : Int32)) at_23 rfl rfl ?_
      refine s_stI B X87 (pc' := 26) (jn := 2) e87 A87  (by decide) (by decide) (by decide) at_25 rfl (fun T88 h88 X88 e88 W88 A88 => ?_)
      replace A88 := A88.full (show 2 < 4 by decide) (L' := [(.int (8 : Int32)), (.int (12 : Int32)), (.int (10 : Int32)), (.int (0 : Int32))]) rfl
      have N88 := Fr.snoc X88 N87 ge_o85
      have O88 := (O87).wr W88 ge_o85
      have F88 := OwnF.ext O88.2 F0
      show Go p e below _ (T88.setTop (mkF m 26 #[.val (.int i0), .val (.int i1), .val (.int (2 : Int32)), .val (.int (2 : Int32)), .unset, .unset, .unset] [(.ref o85)]))
      refine s_dup B X88 (pc' := 27) at_26 rfl rfl ?_
      refine s_iconst B X88 (pc' := 28) (v := (3 : Int32)) at_27 rfl rfl ?_
      refine s_bipush B X88 (pc' := 30) (v := (15 : Int32)) at_28 rfl rfl ?_
      refine s_stI B X88 (pc' := 31) (jn := 3) e88 A88  (by decide) (by decide) (by decide) at_30 rfl (fun T89 h89 X89 e89 W89 A89 => ?_)
      replace A89 := A89.full (show 3 < 4 by decide) (L' := [(.int (8 : Int32)), (.int (12 : Int32)), (.int (10 : Int32)), (.int (15 : Int32))]) rfl
      have N89 := Fr.snoc X89 N88 ge_o85
      have O89 := (O88).wr W89 ge_o85
      have F89 := OwnF.ext O89.2 F0
      show Go p e below _ (T89.setTop (mkF m 31 #[.val (.int i0), .val (.int i1), .val (.int (2 : Int32)), .val (.int (2 : Int32)), .unset, .unset, .unset] [(.ref o85)]))
      refine s_astore B X89 (pc' := 33) (Ls' := #[.val (.int i0), .val (.int i1), .val (.int (2 : Int32)), .val (.int (2 : Int32)), .val (.ref o85), .unset, .unset]) at_31 rfl rfl rfl ?_
      refine s_aload B X89 (pc' := 35) at_33 rfl rfl rfl ?_
      refine s_iloadN B X89 (pc' := 36) at_35 rfl rfl ?_
      refine s_ldI B X89 (pc' := 37) (jn := 2) (v := (.int (10 : Int32))) e89 A89 (by decide) (by decide) (by decide) rfl at_36 rfl ?_
      refine s_iloadN B X89 (pc' := 38) at_37 rfl rfl ?_
      refine s_ishr B X89 (pc' := 39) (v := (2 : Int32)) at_38 (by decide +kernel) rfl ?_
      refine s_iconst B X89 (pc' := 40) (v := (1 : Int32)) at_39 rfl rfl ?_
      refine s_iand B X89 (pc' := 41) (v := (0 : Int32)) at_40 rfl rfl ?_
      refine s_ifY B X89 (pc' := 48) at_41 (by decide) (by decide) (by decide) ?_
      refine s_iconst B X89 (pc' := 49) (v := (0 : Int32)) at_48 rfl rfl ?_
      refine s_istore B X89 (pc' := 51) (Ls' := #[.val (.int i0), .val (.int i1), .val (.int (2 : Int32)), .val (.int (2 : Int32)), .val (.ref o85), .val (.int (0 : Int32)), .unset]) at_49 rfl rfl ?_
      refine s_iloadN B X89 (pc' := 52) at_51 rfl rfl ?_
      refine p_static B X89 (y := mn0) (pc' := 55) (argsL := [(.int (2 : Int32))]) (under := []) (W := 0) e89 (tw1 hw) (tw2 hw) (tw4 hw) (tw3 hw) (by decide) (rm1_4 l Z a0 hw  w_SHARED w_WRITE w_MEMBERSHIP w_READ h89 F89 ) (lenOf pd_0 rfl) rfl rfl (by decide) (by decide) rfl rfl (by decide) (by decide) rfl at_52 rfl (fun T90 X90 e90 => ?_)
      show Go p e below _ (T90.setTop (mkF m 55 #[.val (.int i0), .val (.int i1), .val (.int (2 : Int32)), .val (.int (2 : Int32)), .val (.ref o85), .val (.int (0 : Int32)), .unset] [(.ref w_MEMBERSHIP)]))
      refine s_iloadN B X90 (pc' := 56) at_55 rfl rfl ?_
      refine p_static B X90 (y := mn0) (pc' := 59) (argsL := [(.int (2 : Int32))]) (under := [(.ref w_MEMBERSHIP)]) (W := 1) e90 (tw1 hw) (tw2 hw) (tw4 hw) (tw3 hw) (by decide) (rm1_4 l Z a0 hw  w_SHARED w_WRITE w_MEMBERSHIP w_READ h89 F89 ) (lenOf pd_0 rfl) rfl rfl (by decide) (by decide) rfl rfl (by decide) (by decide) rfl at_56 rfl (fun T91 X91 e91 => ?_)
      show Go p e below _ (T91.setTop (mkF m 59 #[.val (.int i0), .val (.int i1), .val (.int (2 : Int32)), .val (.int (2 : Int32)), .val (.ref o85), .val (.int (0 : Int32)), .unset] [(.ref w_MEMBERSHIP), (.ref w_MEMBERSHIP)]))
      obtain ⟨S_SHARED, E_SHARED, S_WRITE, E_WRITE, S_MEMBERSHIP, E_MEMBERSHIP, S_READ, E_READ, F_SHARED_ordinal, F_WRITE_ordinal, F_MEMBERSHIP_ordinal, F_READ_ordinal⟩ := id F89
      refine p_virtual B X91 (y := mn1) (pc' := 62) (argsL := [(.ref w_MEMBERSHIP)]) (under := []) (W := 0) e91 (tw10 hw) (tw11 hw) (tw13 hw) (tw12 hw) (tw14 hw) (tw6 hw) (by decide) (rm2_14 l Z a0 hw  w_SHARED w_WRITE w_MEMBERSHIP w_READ h89 F89 ) E_MEMBERSHIP (lenOf pd_1 rfl) rfl rfl (by decide) (by decide) rfl rfl (by decide) (by decide) rfl at_59 rfl (fun T92 X92 e92 => ?_)
      show Go p e below _ (T92.setTop (mkF m 62 #[.val (.int i0), .val (.int i1), .val (.int (2 : Int32)), .val (.int (2 : Int32)), .val (.ref o85), .val (.int (0 : Int32)), .unset] [(.int (0 : Int32))]))
      refine s_istore B X92 (pc' := 64) (Ls' := #[.val (.int i0), .val (.int i1), .val (.int (2 : Int32)), .val (.int (2 : Int32)), .val (.ref o85), .val (.int (0 : Int32)), .val (.int (0 : Int32))]) at_62 rfl rfl ?_
      refine s_iload B X92 (pc' := 66) at_64 rfl rfl ?_
      refine s_iload B X92 (pc' := 68) at_66 rfl rfl ?_
      refine s_icmpN B X92 (pc' := 71) at_68 (by decide) rfl ?_
      refine s_iconst B X92 (pc' := 72) (v := (1 : Int32)) at_71 rfl rfl ?_
      refine s_goto B X92 (pc' := 76) at_72 (by decide) (by decide) ?_
      exact r_nar B X92 (t := .boolean) (by simp) rfl at_76 ⟨rfl, N89⟩ (by decide) (by decide)
    · refine s_iloadN B X0 (pc' := 1) at_0 rfl rfl ?_
      refine s_iconst B X0 (pc' := 2) (v := (3 : Int32)) at_1 rfl rfl ?_
      refine s_iand B X0 (pc' := 3) (v := (2 : Int32)) at_2 (hv1) rfl ?_
      refine s_istoreN B X0 (pc' := 4) (Ls' := #[.val (.int i0), .val (.int i1), .val (.int (2 : Int32)), .unset, .unset, .unset, .unset]) at_3 rfl rfl ?_
      refine s_iloadN B X0 (pc' := 5) at_4 rfl rfl ?_
      refine s_iconst B X0 (pc' := 6) (v := (3 : Int32)) at_5 rfl rfl ?_
      refine s_iand B X0 (pc' := 7) (v := (3 : Int32)) at_6 (hv68) rfl ?_
      refine s_istoreN B X0 (pc' := 8) (Ls' := #[.val (.int i0), .val (.int i1), .val (.int (2 : Int32)), .val (.int (3 : Int32)), .unset, .unset, .unset]) at_7 rfl rfl ?_
      refine s_iconst B X0 (pc' := 9) (v := (4 : Int32)) at_8 rfl rfl ?_
      refine s_newP B X0 (pc' := 11) (aty := .int) (N := 4) (cap := 4) e0 (tw0 hw) (by decide) (by decide) (by decide) (by decide) (by decide) (by decide) at_9 rfl (fun T93 h93 o93 k93 g93 X93 e93 E93 A93 => ?_)
      have ge_o93 : Z.heap.size ≤ o93 := g93 ▸ old_le (Old.start Z)
      replace A93 : Ary Z h93 o93 k93 .int 4 (lst [(.int (0 : Int32)), (.int (0 : Int32)), (.int (0 : Int32)), (.int (0 : Int32))] (.int (0 : Int32))) := A93.congr (own_rep 4)
      have O93 := ((Old.start Z)).ext E93
      have F93 := OwnF.ext O93.2 F0
      show Go p e below _ (T93.setTop (mkF m 11 #[.val (.int i0), .val (.int i1), .val (.int (2 : Int32)), .val (.int (3 : Int32)), .unset, .unset, .unset] [(.ref o93)]))
      refine s_dup B X93 (pc' := 12) at_11 rfl rfl ?_
      refine s_iconst B X93 (pc' := 13) (v := (0 : Int32)) at_12 rfl rfl ?_
      refine s_bipush B X93 (pc' := 15) (v := (8 : Int32)) at_13 rfl rfl ?_
      refine s_stI B X93 (pc' := 16) (jn := 0) e93 A93  (by decide) (by decide) (by decide) at_15 rfl (fun T94 h94 X94 e94 W94 A94 => ?_)
      replace A94 := A94.full (show 0 < 4 by decide) (L' := [(.int (8 : Int32)), (.int (0 : Int32)), (.int (0 : Int32)), (.int (0 : Int32))]) rfl
      have N94 := Fr.snoc X94 (Fr.nil _) ge_o93
      have O94 := (O93).wr W94 ge_o93
      have F94 := OwnF.ext O94.2 F0
      show Go p e below _ (T94.setTop (mkF m 16 #[.val (.int i0), .val (.int i1), .val (.int (2 : Int32)), .val (.int (3 : Int32)), .unset, .unset, .unset] [(.ref o93)]))
      refine s_dup B X94 (pc' := 17) at_16 rfl rfl ?_
      refine s_iconst B X94 (pc' := 18) (v := (1 : Int32)) at_17 rfl rfl ?_
      refine s_bipush B X94 (pc' := 20) (v := (12 : Int32)) at_18 rfl rfl ?_
      refine s_stI B X94 (pc' := 21) (jn := 1) e94 A94  (by decide) (by decide) (by decide) at_20 rfl (fun T95 h95 X95 e95 W95 A95 => ?_)
      replace A95 := A95.full (show 1 < 4 by decide) (L' := [(.int (8 : Int32)), (.int (12 : Int32)), (.int (0 : Int32)), (.int (0 : Int32))]) rfl
      have N95 := Fr.snoc X95 N94 ge_o93
      have O95 := (O94).wr W95 ge_o93
      have F95 := OwnF.ext O95.2 F0
      show Go p e below _ (T95.setTop (mkF m 21 #[.val (.int i0), .val (.int i1), .val (.int (2 : Int32)), .val (.int (3 : Int32)), .unset, .unset, .unset] [(.ref o93)]))
      refine s_dup B X95 (pc' := 22) at_21 rfl rfl ?_
      refine s_iconst B X95 (pc' := 23) (v := (2 : Int32)) at_22 rfl rfl ?_
      refine s_bipush B X95 (pc' := 25) (v := (10 : Int32)) at_23 rfl rfl ?_
      refine s_stI B X95 (pc' := 26) (jn := 2) e95 A95  (by decide) (by decide) (by decide) at_25 rfl (fun T96 h96 X96 e96 W96 A96 => ?_)
      replace A96 := A96.full (show 2 < 4 by decide) (L' := [(.int (8 : Int32)), (.int (12 : Int32)), (.int (10 : Int32)), (.int (0 : Int32))]) rfl
      have N96 := Fr.snoc X96 N95 ge_o93
      have O96 := (O95).wr W96 ge_o93
      have F96 := OwnF.ext O96.2 F0
      show Go p e below _ (T96.setTop (mkF m 26 #[.val (.int i0), .val (.int i1), .val (.int (2 : Int32)), .val (.int (3 : Int32)), .unset, .unset, .unset] [(.ref o93)]))
      refine s_dup B X96 (pc' := 27) at_26 rfl rfl ?_
      refine s_iconst B X96 (pc' := 28) (v := (3 : Int32)) at_27 rfl rfl ?_
      refine s_bipush B X96 (pc' := 30) (v := (15 : Int32)) at_28 rfl rfl ?_
      refine s_stI B X96 (pc' := 31) (jn := 3) e96 A96  (by decide) (by decide) (by decide) at_30 rfl (fun T97 h97 X97 e97 W97 A97 => ?_)
      replace A97 := A97.full (show 3 < 4 by decide) (L' := [(.int (8 : Int32)), (.int (12 : Int32)), (.int (10 : Int32)), (.int (15 : Int32))]) rfl
      have N97 := Fr.snoc X97 N96 ge_o93
      have O97 := (O96).wr W97 ge_o93
      have F97 := OwnF.ext O97.2 F0
      show Go p e below _ (T97.setTop (mkF m 31 #[.val (.int i0), .val (.int i1), .val (.int (2 : Int32)), .val (.int (3 : Int32)), .unset, .unset, .unset] [(.ref o93)]))
      refine s_astore B X97 (pc' := 33) (Ls' := #[.val (.int i0), .val (.int i1), .val (.int (2 : Int32)), .val (.int (3 : Int32)), .val (.ref o93), .unset, .unset]) at_31 rfl rfl rfl ?_
      refine s_aload B X97 (pc' := 35) at_33 rfl rfl rfl ?_
      refine s_iloadN B X97 (pc' := 36) at_35 rfl rfl ?_
      refine s_ldI B X97 (pc' := 37) (jn := 2) (v := (.int (10 : Int32))) e97 A97 (by decide) (by decide) (by decide) rfl at_36 rfl ?_
      refine s_iloadN B X97 (pc' := 38) at_37 rfl rfl ?_
      refine s_ishr B X97 (pc' := 39) (v := (1 : Int32)) at_38 (by decide +kernel) rfl ?_
      refine s_iconst B X97 (pc' := 40) (v := (1 : Int32)) at_39 rfl rfl ?_
      refine s_iand B X97 (pc' := 41) (v := (1 : Int32)) at_40 rfl rfl ?_
      refine s_ifN B X97 (pc' := 44) at_41 (by decide) rfl ?_
      refine s_iconst B X97 (pc' := 45) (v := (1 : Int32)) at_44 rfl rfl ?_
      refine s_goto B X97 (pc' := 49) at_45 (by decide) (by decide) ?_
      refine s_istore B X97 (pc' := 51) (Ls' := #[.val (.int i0), .val (.int i1), .val (.int (2 : Int32)), .val (.int (3 : Int32)), .val (.ref o93), .val (.int (1 : Int32)), .unset]) at_49 rfl rfl ?_
      refine s_iloadN B X97 (pc' := 52) at_51 rfl rfl ?_
      refine p_static B X97 (y := mn0) (pc' := 55) (argsL := [(.int (2 : Int32))]) (under := []) (W := 0) e97 (tw1 hw) (tw2 hw) (tw4 hw) (tw3 hw) (by decide) (rm1_4 l Z a0 hw  w_SHARED w_WRITE w_MEMBERSHIP w_READ h97 F97 ) (lenOf pd_0 rfl) rfl rfl (by decide) (by decide) rfl rfl (by decide) (by decide) rfl at_52 rfl (fun T98 X98 e98 => ?_)
      show Go p e below _ (T98.setTop (mkF m 55 #[.val (.int i0), .val (.int i1), .val (.int (2 : Int32)), .val (.int (3 : Int32)), .val (.ref o93), .val (.int (1 : Int32)), .unset] [(.ref w_MEMBERSHIP)]))
      refine s_iloadN B X98 (pc' := 56) at_55 rfl rfl ?_
      refine p_static B X98 (y := mn0) (pc' := 59) (argsL := [(.int (3 : Int32))]) (under := [(.ref w_MEMBERSHIP)]) (W := 1) e98 (tw1 hw) (tw2 hw) (tw4 hw) (tw3 hw) (by decide) (rm1_6 l Z a0 hw  w_SHARED w_WRITE w_MEMBERSHIP w_READ h97 F97 ) (lenOf pd_0 rfl) rfl rfl (by decide) (by decide) rfl rfl (by decide) (by decide) rfl at_56 rfl (fun T99 X99 e99 => ?_)
      show Go p e below _ (T99.setTop (mkF m 59 #[.val (.int i0), .val (.int i1), .val (.int (2 : Int32)), .val (.int (3 : Int32)), .val (.ref o93), .val (.int (1 : Int32)), .unset] [(.ref w_WRITE), (.ref w_MEMBERSHIP)]))
      obtain ⟨S_SHARED, E_SHARED, S_WRITE, E_WRITE, S_MEMBERSHIP, E_MEMBERSHIP, S_READ, E_READ, F_SHARED_ordinal, F_WRITE_ordinal, F_MEMBERSHIP_ordinal, F_READ_ordinal⟩ := id F97
      refine p_virtual B X99 (y := mn1) (pc' := 62) (argsL := [(.ref w_WRITE)]) (under := []) (W := 0) e99 (tw10 hw) (tw11 hw) (tw13 hw) (tw12 hw) (tw14 hw) (tw6 hw) (by decide) (rm2_15 l Z a0 hw  w_SHARED w_WRITE w_MEMBERSHIP w_READ h97 F97 ) E_MEMBERSHIP (lenOf pd_1 rfl) rfl rfl (by decide) (by decide) rfl rfl (by decide) (by decide) rfl at_59 rfl (fun T100 X100 e100 => ?_)
      show Go p e below _ (T100.setTop (mkF m 62 #[.val (.int i0), .val (.int i1), .val (.int (2 : Int32)), .val (.int (3 : Int32)), .val (.ref o93), .val (.int (1 : Int32)), .unset] [(.int (1 : Int32))]))
      refine s_istore B X100 (pc' := 64) (Ls' := #[.val (.int i0), .val (.int i1), .val (.int (2 : Int32)), .val (.int (3 : Int32)), .val (.ref o93), .val (.int (1 : Int32)), .val (.int (1 : Int32))]) at_62 rfl rfl ?_
      refine s_iload B X100 (pc' := 66) at_64 rfl rfl ?_
      refine s_iload B X100 (pc' := 68) at_66 rfl rfl ?_
      refine s_icmpN B X100 (pc' := 71) at_68 (by decide) rfl ?_
      refine s_iconst B X100 (pc' := 72) (v := (1 : Int32)) at_71 rfl rfl ?_
      refine s_goto B X100 (pc' := 76) at_72 (by decide) (by decide) ?_
      exact r_nar B X100 (t := .boolean) (by simp) rfl at_76 ⟨rfl, N97⟩ (by decide) (by decide)
  · rcases own_and3 i1 with hv101 | hv101 | hv101 | hv101
    · refine s_iloadN B X0 (pc' := 1) at_0 rfl rfl ?_
      refine s_iconst B X0 (pc' := 2) (v := (3 : Int32)) at_1 rfl rfl ?_
      refine s_iand B X0 (pc' := 3) (v := (3 : Int32)) at_2 (hv1) rfl ?_
      refine s_istoreN B X0 (pc' := 4) (Ls' := #[.val (.int i0), .val (.int i1), .val (.int (3 : Int32)), .unset, .unset, .unset, .unset]) at_3 rfl rfl ?_
      refine s_iloadN B X0 (pc' := 5) at_4 rfl rfl ?_
      refine s_iconst B X0 (pc' := 6) (v := (3 : Int32)) at_5 rfl rfl ?_
      refine s_iand B X0 (pc' := 7) (v := (0 : Int32)) at_6 (hv101) rfl ?_
      refine s_istoreN B X0 (pc' := 8) (Ls' := #[.val (.int i0), .val (.int i1), .val (.int (3 : Int32)), .val (.int (0 : Int32)), .unset, .unset, .unset]) at_7 rfl rfl ?_
      refine s_iconst B X0 (pc' := 9) (v := (4 : Int32)) at_8 rfl rfl ?_
      refine s_newP B X0 (pc' := 11) (aty := .int) (N := 4) (cap := 4) e0 (tw0 hw) (by decide) (by decide) (by decide) (by decide) (by decide) (by decide) at_9 rfl (fun T102 h102 o102 k102 g102 X102 e102 E102 A102 => ?_)
      have ge_o102 : Z.heap.size ≤ o102 := g102 ▸ old_le (Old.start Z)
      replace A102 : Ary Z h102 o102 k102 .int 4 (lst [(.int (0 : Int32)), (.int (0 : Int32)), (.int (0 : Int32)), (.int (0 : Int32))] (.int (0 : Int32))) := A102.congr (own_rep 4)
      have O102 := ((Old.start Z)).ext E102
      have F102 := OwnF.ext O102.2 F0
      show Go p e below _ (T102.setTop (mkF m 11 #[.val (.int i0), .val (.int i1), .val (.int (3 : Int32)), .val (.int (0 : Int32)), .unset, .unset, .unset] [(.ref o102)]))
      refine s_dup B X102 (pc' := 12) at_11 rfl rfl ?_
      refine s_iconst B X102 (pc' := 13) (v := (0 : Int32)) at_12 rfl rfl ?_
      refine s_bipush B X102 (pc' := 15) (v := (8 : Int32)) at_13 rfl rfl ?_
      refine s_stI B X102 (pc' := 16) (jn := 0) e102 A102  (by decide) (by decide) (by decide) at_15 rfl (fun T103 h103 X103 e103 W103 A103 => ?_)
      replace A103 := A103.full (show 0 < 4 by decide) (L' := [(.int (8 : Int32)), (.int (0 : Int32)), (.int (0 : Int32)), (.int (0 : Int32))]) rfl
      have N103 := Fr.snoc X103 (Fr.nil _) ge_o102
      have O103 := (O102).wr W103 ge_o102
      have F103 := OwnF.ext O103.2 F0
      show Go p e below _ (T103.setTop (mkF m 16 #[.val (.int i0), .val (.int i1), .val (.int (3 : Int32)), .val (.int (0 : Int32)), .unset, .unset, .unset] [(.ref o102)]))
      refine s_dup B X103 (pc' := 17) at_16 rfl rfl ?_
      refine s_iconst B X103 (pc' := 18) (v := (1 : Int32)) at_17 rfl rfl ?_
      refine s_bipush B X103 (pc' := 20) (v := (12 : Int32)) at_18 rfl rfl ?_
      refine s_stI B X103 (pc' := 21) (jn := 1) e103 A103  (by decide) (by decide) (by decide) at_20 rfl (fun T104 h104 X104 e104 W104 A104 => ?_)
      replace A104 := A104.full (show 1 < 4 by decide) (L' := [(.int (8 : Int32)), (.int (12 : Int32)), (.int (0 : Int32)), (.int (0 : Int32))]) rfl
      have N104 := Fr.snoc X104 N103 ge_o102
      have O104 := (O103).wr W104 ge_o102
      have F104 := OwnF.ext O104.2 F0
      show Go p e below _ (T104.setTop (mkF m 21 #[.val (.int i0), .val (.int i1), .val (.int (3 : Int32)), .val (.int (0 : Int32)), .unset, .unset, .unset] [(.ref o102)]))
      refine s_dup B X104 (pc' := 22) at_21 rfl rfl ?_
      refine s_iconst B X104 (pc' := 23) (v := (2 : Int32)) at_22 rfl rfl ?_
      refine s_bipush B X104 (pc' := 25) (v := (10 : Int32)) at_23 rfl rfl ?_
      refine s_stI B X104 (pc' := 26) (jn := 2) e104 A104  (by decide) (by decide) (by decide) at_25 rfl (fun T105 h105 X105 e105 W105 A105 => ?_)
      replace A105 := A105.full (show 2 < 4 by decide) (L' := [(.int (8 : Int32)), (.int (12 : Int32)), (.int (10 : Int32)), (.int (0 : Int32))]) rfl
      have N105 := Fr.snoc X105 N104 ge_o102
      have O105 := (O104).wr W105 ge_o102
      have F105 := OwnF.ext O105.2 F0
      show Go p e below _ (T105.setTop (mkF m 26 #[.val (.int i0), .val (.int i1), .val (.int (3 : Int32)), .val (.int (0 : Int32)), .unset, .unset, .unset] [(.ref o102)]))
      refine s_dup B X105 (pc' := 27) at_26 rfl rfl ?_
      refine s_iconst B X105 (pc' := 28) (v := (3 : Int32)) at_27 rfl rfl ?_
      refine s_bipush B X105 (pc' := 30) (v := (15 : Int32)) at_28 rfl rfl ?_
      refine s_stI B X105 (pc' := 31) (jn := 3) e105 A105  (by decide) (by decide) (by decide) at_30 rfl (fun T106 h106 X106 e106 W106 A106 => ?_)
      replace A106 := A106.full (show 3 < 4 by decide) (L' := [(.int (8 : Int32)), (.int (12 : Int32)), (.int (10 : Int32)), (.int (15 : Int32))]) rfl
      have N106 := Fr.snoc X106 N105 ge_o102
      have O106 := (O105).wr W106 ge_o102
      have F106 := OwnF.ext O106.2 F0
      show Go p e below _ (T106.setTop (mkF m 31 #[.val (.int i0), .val (.int i1), .val (.int (3 : Int32)), .val (.int (0 : Int32)), .unset, .unset, .unset] [(.ref o102)]))
      refine s_astore B X106 (pc' := 33) (Ls' := #[.val (.int i0), .val (.int i1), .val (.int (3 : Int32)), .val (.int (0 : Int32)), .val (.ref o102), .unset, .unset]) at_31 rfl rfl rfl ?_
      refine s_aload B X106 (pc' := 35) at_33 rfl rfl rfl ?_
      refine s_iloadN B X106 (pc' := 36) at_35 rfl rfl ?_
      refine s_ldI B X106 (pc' := 37) (jn := 3) (v := (.int (15 : Int32))) e106 A106 (by decide) (by decide) (by decide) rfl at_36 rfl ?_
      refine s_iloadN B X106 (pc' := 38) at_37 rfl rfl ?_
      refine s_ishr B X106 (pc' := 39) (v := (15 : Int32)) at_38 (by decide +kernel) rfl ?_
      refine s_iconst B X106 (pc' := 40) (v := (1 : Int32)) at_39 rfl rfl ?_
      refine s_iand B X106 (pc' := 41) (v := (1 : Int32)) at_40 rfl rfl ?_
      refine s_ifN B X106 (pc' := 44) at_41 (by decide) rfl ?_
      refine s_iconst B X106 (pc' := 45) (v := (1 : Int32)) at_44 rfl rfl ?_
      refine s_goto B X106 (pc' := 49) at_45 (by decide) (by decide) ?_
      refine s_istore B X106 (pc' := 51) (Ls' := #[.val (.int i0), .val (.int i1), .val (.int (3 : Int32)), .val (.int (0 : Int32)), .val (.ref o102), .val (.int (1 : Int32)), .unset]) at_49 rfl rfl ?_
      refine s_iloadN B X106 (pc' := 52) at_51 rfl rfl ?_
      refine p_static B X106 (y := mn0) (pc' := 55) (argsL := [(.int (3 : Int32))]) (under := []) (W := 0) e106 (tw1 hw) (tw2 hw) (tw4 hw) (tw3 hw) (by decide) (rm1_6 l Z a0 hw  w_SHARED w_WRITE w_MEMBERSHIP w_READ h106 F106 ) (lenOf pd_0 rfl) rfl rfl (by decide) (by decide) rfl rfl (by decide) (by decide) rfl at_52 rfl (fun T107 X107 e107 => ?_)
      show Go p e below _ (T107.setTop (mkF m 55 #[.val (.int i0), .val (.int i1), .val (.int (3 : Int32)), .val (.int (0 : Int32)), .val (.ref o102), .val (.int (1 : Int32)), .unset] [(.ref w_WRITE)]))
      refine s_iloadN B X107 (pc' := 56) at_55 rfl rfl ?_
      refine p_static B X107 (y := mn0) (pc' := 59) (argsL := [(.int (0 : Int32))]) (under := [(.ref w_WRITE)]) (W := 1) e107 (tw1 hw) (tw2 hw) (tw4 hw) (tw3 hw) (by decide) (rm1_0 l Z a0 hw  w_SHARED w_WRITE w_MEMBERSHIP w_READ h106 F106 ) (lenOf pd_0 rfl) rfl rfl (by decide) (by decide) rfl rfl (by decide) (by decide) rfl at_56 rfl (fun T108 X108 e108 => ?_)
      show Go p e below _ (T108.setTop (mkF m 59 #[.val (.int i0), .val (.int i1), .val (.int (3 : Int32)), .val (.int (0 : Int32)), .val (.ref o102), .val (.int (1 : Int32)), .unset] [(.ref w_SHARED), (.ref w_WRITE)]))
      obtain ⟨S_SHARED, E_SHARED, S_WRITE, E_WRITE, S_MEMBERSHIP, E_MEMBERSHIP, S_READ, E_READ, F_SHARED_ordinal, F_WRITE_ordinal, F_MEMBERSHIP_ordinal, F_READ_ordinal⟩ := id F106
      refine p_virtual B X108 (y := mn1) (pc' := 62) (argsL := [(.ref w_SHARED)]) (under := []) (W := 0) e108 (tw10 hw) (tw11 hw) (tw13 hw) (tw12 hw) (tw14 hw) (tw6 hw) (by decide) (rm2_16 l Z a0 hw  w_SHARED w_WRITE w_MEMBERSHIP w_READ h106 F106 ) E_WRITE (lenOf pd_1 rfl) rfl rfl (by decide) (by decide) rfl rfl (by decide) (by decide) rfl at_59 rfl (fun T109 X109 e109 => ?_)
      show Go p e below _ (T109.setTop (mkF m 62 #[.val (.int i0), .val (.int i1), .val (.int (3 : Int32)), .val (.int (0 : Int32)), .val (.ref o102), .val (.int (1 : Int32)), .unset] [(.int (1 : Int32))]))
      refine s_istore B X109 (pc' := 64) (Ls' := #[.val (.int i0), .val (.int i1), .val (.int (3 : Int32)), .val (.int (0 : Int32)), .val (.ref o102), .val (.int (1 : Int32)), .val (.int (1 : Int32))]) at_62 rfl rfl ?_
      refine s_iload B X109 (pc' := 66) at_64 rfl rfl ?_
      refine s_iload B X109 (pc' := 68) at_66 rfl rfl ?_
      refine s_icmpN B X109 (pc' := 71) at_68 (by decide) rfl ?_
      refine s_iconst B X109 (pc' := 72) (v := (1 : Int32)) at_71 rfl rfl ?_
      refine s_goto B X109 (pc' := 76) at_72 (by decide) (by decide) ?_
      exact r_nar B X109 (t := .boolean) (by simp) rfl at_76 ⟨rfl, N106⟩ (by decide) (by decide)
    · refine s_iloadN B X0 (pc' := 1) at_0 rfl rfl ?_
      refine s_iconst B X0 (pc' := 2) (v := (3 : Int32)) at_1 rfl rfl ?_
      refine s_iand B X0 (pc' := 3) (v := (3 : Int32)) at_2 (hv1) rfl ?_
      refine s_istoreN B X0 (pc' := 4) (Ls' := #[.val (.int i0), .val (.int i1), .val (.int (3 : Int32)), .unset, .unset, .unset, .unset]) at_3 rfl rfl ?_
      refine s_iloadN B X0 (pc' := 5) at_4 rfl rfl ?_
      refine s_iconst B X0 (pc' := 6) (v := (3 : Int32)) at_5 rfl rfl ?_
      refine s_iand B X0 (pc' := 7) (v := (1 : Int32)) at_6 (hv101) rfl ?_
      refine s_istoreN B X0 (pc' := 8) (Ls' := #[.val (.int i0), .val (.int i1), .val (.int (3 : Int32)), .val (.int (1 : Int32)), .unset, .unset, .unset]) at_7 rfl rfl ?_
      refine s_iconst B X0 (pc' := 9) (v := (4 : Int32)) at_8 rfl rfl ?_
      refine s_newP B X0 (pc' := 11) (aty := .int) (N := 4) (cap := 4) e0 (tw0 hw) (by decide) (by decide) (by decide) (by decide) (by decide) (by decide) at_9 rfl (fun T110 h110 o110 k110 g110 X110 e110 E110 A110 => ?_)
      have ge_o110 : Z.heap.size ≤ o110 := g110 ▸ old_le (Old.start Z)
      replace A110 : Ary Z h110 o110 k110 .int 4 (lst [(.int (0 : Int32)), (.int (0 : Int32)), (.int (0 : Int32)), (.int (0 : Int32))] (.int (0 : Int32))) := A110.congr (own_rep 4)
      have O110 := ((Old.start Z)).ext E110
      have F110 := OwnF.ext O110.2 F0
      show Go p e below _ (T110.setTop (mkF m 11 #[.val (.int i0), .val (.int i1), .val (.int (3 : Int32)), .val (.int (1 : Int32)), .unset, .unset, .unset] [(.ref o110)]))
      refine s_dup B X110 (pc' := 12) at_11 rfl rfl ?_
      refine s_iconst B X110 (pc' := 13) (v := (0 : Int32)) at_12 rfl rfl ?_
      refine s_bipush B X110 (pc' := 15) (v := (8 : Int32)) at_13 rfl rfl ?_
      refine s_stI B X110 (pc' := 16) (jn := 0) e110 A110  (by decide) (by decide) (by decide) at_15 rfl (fun T111 h111 X111 e111 W111 A111 => ?_)
      replace A111 := A111.full (show 0 < 4 by decide) (L' := [(.int (8 : Int32)), (.int (0 : Int32)), (.int (0 : Int32)), (.int (0 : Int32))]) rfl
      have N111 := Fr.snoc X111 (Fr.nil _) ge_o110
      have O111 := (O110).wr W111 ge_o110
      have F111 := OwnF.ext O111.2 F0
      show Go p e below _ (T111.setTop (mkF m 16 #[.val (.int i0), .val (.int i1), .val (.int (3 : Int32)), .val (.int (1 : Int32)), .unset, .unset, .unset] [(.ref o110)]))
      refine s_dup B X111 (pc' := 17) at_16 rfl rfl ?_
      refine s_iconst B X111 (pc' := 18) (v := (1 : Int32)) at_17 rfl rfl ?_
      refine s_bipush B X111 (pc' := 20) (v := (12 : Int32)) at_18 rfl rfl ?_
      refine s_stI B X111 (pc' := 21) (jn := 1) e111 A111  (by decide) (by decide) (by decide) at_20 rfl (fun T112 h112 X112 e112 W112 A112 => ?_)
      replace A112 := A112.full (show 1 < 4 by decide) (L' := [(.int (8 : Int32)), (.int (12 : Int32)), (.int (0 : Int32)), (.int (0 : Int32))]) rfl
      have N112 := Fr.snoc X112 N111 ge_o110
      have O112 := (O111).wr W112 ge_o110
      have F112 := OwnF.ext O112.2 F0
      show Go p e below _ (T112.setTop (mkF m 21 #[.val (.int i0), .val (.int i1), .val (.int (3 : Int32)), .val (.int (1 : Int32)), .unset, .unset, .unset] [(.ref o110)]))
      refine s_dup B X112 (pc' := 22) at_21 rfl rfl ?_
      refine s_iconst B X112 (pc' := 23) (v := (2 : Int32)) at_22 rfl rfl ?_
      refine s_bipush B X112 (pc' := 25) (v := (10 : Int32)) at_23 rfl rfl ?_
      refine s_stI B X112 (pc' := 26) (jn := 2) e112 A112  (by decide) (by decide) (by decide) at_25 rfl (fun T113 h113 X113 e113 W113 A113 => ?_)
      replace A113 := A113.full (show 2 < 4 by decide) (L' := [(.int (8 : Int32)), (.int (12 : Int32)), (.int (10 : Int32)), (.int (0 : Int32))]) rfl
      have N113 := Fr.snoc X113 N112 ge_o110
      have O113 := (O112).wr W113 ge_o110
      have F113 := OwnF.ext O113.2 F0
      show Go p e below _ (T113.setTop (mkF m 26 #[.val (.int i0), .val (.int i1), .val (.int (3 : Int32)), .val (.int (1 : Int32)), .unset, .unset, .unset] [(.ref o110)]))
      refine s_dup B X113 (pc' := 27) at_26 rfl rfl ?_
      refine s_iconst B X113 (pc' := 28) (v := (3 : Int32)) at_27 rfl rfl ?_
      refine s_bipush B X113 (pc' := 30) (v := (15 : Int32)) at_28 rfl rfl ?_
      refine s_stI B X113 (pc' := 31) (jn := 3) e113 A113  (by decide) (by decide) (by decide) at_30 rfl (fun T114 h114 X114 e114 W114 A114 => ?_)
      replace A114 := A114.full (show 3 < 4 by decide) (L' := [(.int (8 : Int32)), (.int (12 : Int32)), (.int (10 : Int32)), (.int (15 : Int32))]) rfl
      have N114 := Fr.snoc X114 N113 ge_o110
      have O114 := (O113).wr W114 ge_o110
      have F114 := OwnF.ext O114.2 F0
      show Go p e below _ (T114.setTop (mkF m 31 #[.val (.int i0), .val (.int i1), .val (.int (3 : Int32)), .val (.int (1 : Int32)), .unset, .unset, .unset] [(.ref o110)]))
      refine s_astore B X114 (pc' := 33) (Ls' := #[.val (.int i0), .val (.int i1), .val (.int (3 : Int32)), .val (.int (1 : Int32)), .val (.ref o110), .unset, .unset]) at_31 rfl rfl rfl ?_
      refine s_aload B X114 (pc' := 35) at_33 rfl rfl rfl ?_
      refine s_iloadN B X114 (pc' := 36) at_35 rfl rfl ?_
      refine s_ldI B X114 (pc' := 37) (jn := 3) (v := (.int (15 : Int32))) e114 A114 (by decide) (by decide) (by decide) rfl at_36 rfl ?_
      refine s_iloadN B X114 (pc' := 38) at_37 rfl rfl ?_
      refine s_ishr B X114 (pc' := 39) (v := (7 : Int32)) at_38 (by decide +kernel) rfl ?_
      refine s_iconst B X114 (pc' := 40) (v := (1 : Int32)) at_39 rfl rfl ?_
      refine s_iand B X114 (pc' := 41) (v := (1 : Int32)) at_40 rfl rfl ?_
      refine s_ifN B X114 (pc' := 44) at_41 (by decide) rfl ?_
      refine s_iconst B X114 (pc' := 45) (v := (1 : Int32)) at_44 rfl rfl ?_
      refine s_goto B X114 (pc' := 49) at_45 (by decide) (by decide) ?_
      refine s_istore B X114 (pc' := 51) (Ls' := #[.val (.int i0), .val (.int i1), .val (.int (3 : Int32)), .val (.int (1 : Int32)), .val (.ref o110), .val (.int (1 : Int32)), .unset]) at_49 rfl rfl ?_
      refine s_iloadN B X114 (pc' := 52) at_51 rfl rfl ?_
      refine p_static B X114 (y := mn0) (pc' := 55) (argsL := [(.int (3 : Int32))]) (under := []) (W := 0) e114 (tw1 hw) (tw2 hw) (tw4 hw) (tw3 hw) (by decide) (rm1_6 l Z a0 hw  w_SHARED w_WRITE w_MEMBERSHIP w_READ h114 F114 ) (lenOf pd_0 rfl) rfl rfl (by decide) (by decide) rfl rfl (by decide) (by decide) rfl at_52 rfl (fun T115 X115 e115 => ?_)
      show Go p e below _ (T115.setTop (mkF m 55 #[.val (.int i0), .val (.int i1), .val (.int (3 : Int32)), .val (.int (1 : Int32)), .val (.ref o110), .val (.int (1 : Int32)), .unset] [(.ref w_WRITE)]))
      refine s_iloadN B X115 (pc' := 56) at_55 rfl rfl ?_
      refine p_static B X115 (y := mn0) (pc' := 59) (argsL := [(.int (1 : Int32))]) (under := [(.ref w_WRITE)]) (W := 1) e115 (tw1 hw) (tw2 hw) (tw4 hw) (tw3 hw) (by decide) (rm1_2 l Z a0 hw  w_SHARED w_WRITE w_MEMBERSHIP w_READ h114 F114 ) (lenOf pd_0 rfl) rfl rfl (by decide) (by decide) rfl rfl (by decide) (by decide) rfl at_56 rfl (fun T116 X116 e116 => ?_)
      show Go p e below _ (T116.setTop (mkF m 59 #[.val (.int i0), .val (.int i1), .val (.int (3 : Int32)), .val (.int (1 : Int32)), .val (.ref o110), .val (.int (1 : Int32)), .unset] [(.ref w_READ), (.ref w_WRITE)]))
      obtain ⟨S_SHARED, E_SHARED, S_WRITE, E_WRITE, S_MEMBERSHIP, E_MEMBERSHIP, S_READ, E_READ, F_SHARED_ordinal, F_WRITE_ordinal, F_MEMBERSHIP_ordinal, F_READ_ordinal⟩ := id F114
      refine p_virtual B X116 (y := mn1) (pc' := 62) (argsL := [(.ref w_READ)]) (under := []) (W := 0) e116 (tw10 hw) (tw11 hw) (tw13 hw) (tw12 hw) (tw14 hw) (tw6 hw) (by decide) (rm2_17 l Z a0 hw  w_SHARED w_WRITE w_MEMBERSHIP w_READ h114 F114 ) E_WRITE (lenOf pd_1 rfl) rfl rfl (by decide) (by decide) rfl rfl (by decide) (by decide) rfl at_59 rfl (fun T117 X117 e117 => ?_)
      show Go p e below _ (T117.setTop (mkF m 62 #[.val (.int i0), .val (.int i1), .val (.int (3 : Int32)), .val (.int (1 : Int32)), .val (.ref o110), .val (.int (1 : Int32)), .unset] [(.int (1 : Int32))]))
      refine s_istore B X117 (pc' := 64) (Ls' := #[.val (.int i0), .val (.int i1), .val (.int (3 : Int32)), .val (.int (1 : Int32)), .val (.ref o110), .val (.int (1 : Int32)), .val (.int (1 : Int32))]) at_62 rfl rfl ?_
      refine s_iload B X117 (pc' := 66) at_64 rfl rfl ?_
      refine s_iload B X117 (pc' := 68) at_66 rfl rfl ?_
      refine s_icmpN B X117 (pc' := 71) at_68 (by decide) rfl ?_
      refine s_iconst B X117 (pc' := 72) (v := (1 : Int32)) at_71 rfl rfl ?_
      refine s_goto B X117 (pc' := 76) at_72 (by decide) (by decide) ?_
      exact r_nar B X117 (t := .boolean) (by simp) rfl at_76 ⟨rfl, N114⟩ (by decide) (by decide)
    · refine s_iloadN B X0 (pc' := 1) at_0 rfl rfl ?_
      refine s_iconst B X0 (pc' := 2) (v := (3 : Int32)) at_1 rfl rfl ?_
      refine s_iand B X0 (pc' := 3) (v := (3 : Int32)) at_2 (hv1) rfl ?_
      refine s_istoreN B X0 (pc' := 4) (Ls' := #[.val (.int i0), .val (.int i1), .val (.int (3 : Int32)), .unset, .unset, .unset, .unset]) at_3 rfl rfl ?_
      refine s_iloadN B X0 (pc' := 5) at_4 rfl rfl ?_
      refine s_iconst B X0 (pc' := 6) (v := (3 : Int32)) at_5 rfl rfl ?_
      refine s_iand B X0 (pc' := 7) (v := (2 : Int32)) at_6 (hv101) rfl ?_
      refine s_istoreN B X0 (pc' := 8) (Ls' := #[.val (.int i0), .val (.int i1), .val (.int (3 : Int32)), .val (.int (2 : Int32)), .unset, .unset, .unset]) at_7 rfl rfl ?_
      refine s_iconst B X0 (pc' := 9) (v := (4 : Int32)) at_8 rfl rfl ?_
      refine s_newP B X0 (pc' := 11) (aty := .int) (N := 4) (cap := 4) e0 (tw0 hw) (by decide) (by decide) (by decide) (by decide) (by decide) (by decide) at_9 rfl (fun T118 h118 o118 k118 g118 X118 e118 E118 A118 => ?_)
      have ge_o118 : Z.heap.size ≤ o118 := g118 ▸ old_le (Old.start Z)
      replace A118 : Ary Z h118 o118 k118 .int 4 (lst [(.int (0 : Int32)), (.int (0 : Int32)), (.int (0 : Int32)), (.int (0 : Int32))] (.int (0 : Int32))) := A118.congr (own_rep 4)
      have O118 := ((Old.start Z)).ext E118
      have F118 := OwnF.ext O118.2 F0
      show Go p e below _ (T118.setTop (mkF m 11 #[.val (.int i0), .val (.int i1), .val (.int (3 : Int32)), .val (.int (2 : Int32)), .unset, .unset, .unset] [(.ref o118)]))
      refine s_dup B X118 (pc' := 12) at_11 rfl rfl ?_
      refine s_iconst B X118 (pc' := 13) (v := (0 : Int32)) at_12 rfl rfl ?_
      refine s_bipush B X118 (pc' := 15) (v := (8 : Int32)) at_13 rfl rfl ?_
      refine s_stI B X118 (pc' := 16) (jn := 0) e118 A118  (by decide) (by decide) (by decide) at_15 rfl (fun T119 h119 X119 e119 W119 A119 => ?_)
      replace A119 := A119.full (show 0 < 4 by decide) (L' := [(.int (8 : Int32)), (.int (0 : Int32)), (.int (0 : Int32)), (.int (0 : Int32))]) rfl
      have N119 := Fr.snoc X119 (Fr.nil _) ge_o118
      have O119 := (O118).wr W119 ge_o118
      have F119 := OwnF.ext O119.2 F0
      show Go p e below _ (T119.setTop (mkF m 16 #[.val (.int i0), .val (.int i1), .val (.int (3 : Int32)), .val (.int (2 : Int32)), .unset, .unset, .unset] [(.ref o118)]))
      refine s_dup B X119 (pc' := 17) at_16 rfl rfl ?_
      refine s_iconst B X119 (pc' := 18) (v := (1 : Int32)) at_17 rfl rfl ?_
      refine s_bipush B X119 (pc' := 20) (v := (12 : Int32)) at_18 rfl rfl ?_
      refine s_stI B X119 (pc' := 21) (jn := 1) e119 A119  (by decide) (by decide) (by decide) at_20 rfl (fun T120 h120 X120 e120 W120 A120 => ?_)
      replace A120 := A120.full (show 1 < 4 by decide) (L' := [(.int (8 : Int32)), (.int (12 : Int32)), (.int (0 : Int32)), (.int (0 : Int32))]) rfl
      have N120 := Fr.snoc X120 N119 ge_o118
      have O120 := (O119).wr W120 ge_o118
      have F120 := OwnF.ext O120.2 F0
      show Go p e below _ (T120.setTop (mkF m 21 #[.val (.int i0), .val (.int i1), .val (.int (3 : Int32)), .val (.int (2 : Int32)), .unset, .unset, .unset] [(.ref o118)]))
      refine s_dup B X120 (pc' := 22) at_21 rfl rfl ?_
      refine s_iconst B X120 (pc' := 23) (v := (2 : Int32)) at_22 rfl rfl ?_
      refine s_bipush B X120 (pc' := 25) (v := (10 : Int32)) at_23 rfl rfl ?_
      refine s_stI B X120 (pc' := 26) (jn := 2) e120 A120  (by decide) (by decide) (by decide) at_25 rfl (fun T121 h121 X121 e121 W121 A121 => ?_)
      replace A121 := A121.full (show 2 < 4 by decide) (L' := [(.int (8 : Int32)), (.int (12 : Int32)), (.int (10 : Int32)), (.int (0 : Int32))]) rfl
      have N121 := Fr.snoc X121 N120 ge_o118
      have O121 := (O120).wr W121 ge_o118
      have F121 := OwnF.ext O121.2 F0
      show Go p e below _ (T121.setTop (mkF m 26 #[.val (.int i0), .val (.int i1), .val (.int (3 : Int32)), .val (.int (2 : Int32)), .unset, .unset, .unset] [(.ref o118)]))
      refine s_dup B X121 (pc' := 27) at_26 rfl rfl ?_
      refine s_iconst B X121 (pc' := 28) (v := (3 : Int32)) at_27 rfl rfl ?_
      refine s_bipush B X121 (pc' := 30) (v := (15 : Int32)) at_28 rfl rfl ?_
      refine s_stI B X121 (pc' := 31) (jn := 3) e121 A121  (by decide) (by decide) (by decide) at_30 rfl (fun T122 h122 X122 e122 W122 A122 => ?_)
      replace A122 := A122.full (show 3 < 4 by decide) (L' := [(.int (8 : Int32)), (.int (12 : Int32)), (.int (10 : Int32)), (.int (15 : Int32))]) rfl
      have N122 := Fr.snoc X122 N121 ge_o118
      have O122 := (O121).wr W122 ge_o118
      have F122 := OwnF.ext O122.2 F0
      show Go p e below _ (T122.setTop (mkF m 31 #[.val (.int i0), .val (.int i1), .val (.int (3 : Int32)), .val (.int (2 : Int32)), .unset, .unset, .unset] [(.ref o118)]))
      refine s_astore B X122 (pc' := 33) (Ls' := #[.val (.int i0), .val (.int i1), .val (.int (3 : Int32)), .val (.int (2 : Int32)), .val (.ref o118), .unset, .unset]) at_31 rfl rfl rfl ?_
      refine s_aload B X122 (pc' := 35) at_33 rfl rfl rfl ?_
      refine s_iloadN B X122 (pc' := 36) at_35 rfl rfl ?_
      refine s_ldI B X122 (pc' := 37) (jn := 3) (v := (.int (15 : Int32))) e122 A122 (by decide) (by decide) (by decide) rfl at_36 rfl ?_
      refine s_iloadN B X122 (pc' := 38) at_37 rfl rfl ?_
      refine s_ishr B X122 (pc' := 39) (v := (3 : Int32)) at_38 (by decide +kernel) rfl ?_
      refine s_iconst B X122 (pc' := 40) (v := (1 : Int32)) at_39 rfl rfl ?_
      refine s_iand B X122 (pc' := 41) (v := (1 : Int32)) at_40 rfl rfl ?_
      refine s_ifN B X122 (pc' := 44) at_41 (by decide) rfl ?_
      refine s_iconst B X122 (pc' := 45) (v := (1 : Int32)) at_44 rfl rfl ?_
      refine s_goto B X122 (pc' := 49) at_45 (by decide) (by decide) ?_
      refine s_istore B X122 (pc' := 51) (Ls' := #[.val (.int i0), .val (.int i1), .val (.int (3 : Int32)), .val (.int (2 : Int32)), .val (.ref o118), .val (.int (1 : Int32)), .unset]) at_49 rfl rfl ?_
      refine s_iloadN B X122 (pc' := 52) at_51 rfl rfl ?_
      refine p_static B X122 (y := mn0) (pc' := 55) (argsL := [(.int (3 : Int32))]) (under := []) (W := 0) e122 (tw1 hw) (tw2 hw) (tw4 hw) (tw3 hw) (by decide) (rm1_6 l Z a0 hw  w_SHARED w_WRITE w_MEMBERSHIP w_READ h122 F122 ) (lenOf pd_0 rfl) rfl rfl (by decide) (by decide) rfl rfl (by decide) (by decide) rfl at_52 rfl (fun T123 X123 e123 => ?_)
      show Go p e below _ (T123.setTop (mkF m 55 #[.val (.int i0), .val (.int i1), .val (.int (3 : Int32)), .val (.int (2 : Int32)), .val (.ref o118), .val (.int (1 : Int32)), .unset] [(.ref w_WRITE)]))
      refine s_iloadN B X123 (pc' := 56) at_55 rfl rfl ?_
      refine p_static B X123 (y := mn0) (pc' := 59) (argsL := [(.int (2 : Int32))]) (under := [(.ref w_WRITE)]) (W := 1) e123 (tw1 hw) (tw2 hw) (tw4 hw) (tw3 hw) (by decide) (rm1_4 l Z a0 hw  w_SHARED w_WRITE w_MEMBERSHIP w_READ h122 F122 ) (lenOf pd_0 rfl) rfl rfl (by decide) (by decide) rfl rfl (by decide) (by decide) rfl at_56 rfl (fun T124 X124 e124 => ?_)
      show Go p e below _ (T124.setTop (mkF m 59 #[.val (.int i0), .val (.int i1), .val (.int (3 : Int32)), .val (.int (2 : Int32)), .val (.ref o118), .val (.int (1 : Int32)), .unset] [(.ref w_MEMBERSHIP), (.ref w_WRITE)]))
      obtain ⟨S_SHARED, E_SHARED, S_WRITE, E_WRITE, S_MEMBERSHIP, E_MEMBERSHIP, S_READ, E_READ, F_SHARED_ordinal, F_WRITE_ordinal, F_MEMBERSHIP_ordinal, F_READ_ordinal⟩ := id F122
      refine p_virtual B X124 (y := mn1) (pc' := 62) (argsL := [(.ref w_MEMBERSHIP)]) (under := []) (W := 0) e124 (tw10 hw) (tw11 hw) (tw13 hw) (tw12 hw) (tw14 hw) (tw6 hw) (by decide) (rm2_18 l Z a0 hw  w_SHARED w_WRITE w_MEMBERSHIP w_READ h122 F122 ) E_WRITE (lenOf pd_1 rfl) rfl rfl (by decide) (by decide) rfl rfl (by decide) (by decide) rfl at_59 rfl (fun T125 X125 e125 => ?_)
      show Go p e below _ (T125.setTop (mkF m 62 #[.val (.int i0), .val (.int i1), .val (.int (3 : Int32)), .val (.int (2 : Int32)), .val (.ref o118), .val (.int (1 : Int32)), .unset] [(.int (1 : Int32))]))
      refine s_istore B X125 (pc' := 64) (Ls' := #[.val (.int i0), .val (.int i1), .val (.int (3 : Int32)), .val (.int (2 : Int32)), .val (.ref o118), .val (.int (1 : Int32)), .val (.int (1 : Int32))]) at_62 rfl rfl ?_
      refine s_iload B X125 (pc' := 66) at_64 rfl rfl ?_
      refine s_iload B X125 (pc' := 68) at_66 rfl rfl ?_
      refine s_icmpN B X125 (pc' := 71) at_68 (by decide) rfl ?_
      refine s_iconst B X125 (pc' := 72) (v := (1 : Int32)) at_71 rfl rfl ?_
      refine s_goto B X125 (pc' := 76) at_72 (by decide) (by decide) ?_
      exact r_nar B X125 (t := .boolean) (by simp) rfl at_76 ⟨rfl, N122⟩ (by decide) (by decide)
    · refine s_iloadN B X0 (pc' := 1) at_0 rfl rfl ?_
      refine s_iconst B X0 (pc' := 2) (v := (3 : Int32)) at_1 rfl rfl ?_
      refine s_iand B X0 (pc' := 3) (v := (3 : Int32)) at_2 (hv1) rfl ?_
      refine s_istoreN B X0 (pc' := 4) (Ls' := #[.val (.int i0), .val (.int i1), .val (.int (3 : Int32)), .unset, .unset, .unset, .unset]) at_3 rfl rfl ?_
      refine s_iloadN B X0 (pc' := 5) at_4 rfl rfl ?_
      refine s_iconst B X0 (pc' := 6) (v := (3 : Int32)) at_5 rfl rfl ?_
      refine s_iand B X0 (pc' := 7) (v := (3 : Int32)) at_6 (hv101) rfl ?_
      refine s_istoreN B X0 (pc' := 8) (Ls' := #[.val (.int i0), .val (.int i1), .val (.int (3 : Int32)), .val (.int (3 : Int32)), .unset, .unset, .unset]) at_7 rfl rfl ?_
      refine s_iconst B X0 (pc' := 9) (v := (4 : Int32)) at_8 rfl rfl ?_
      refine s_newP B X0 (pc' := 11) (aty := .int) (N := 4) (cap := 4) e0 (tw0 hw) (by decide) (by decide) (by decide) (by decide) (by decide) (by decide) at_9 rfl (fun T126 h126 o126 k126 g126 X126 e126 E126 A126 => ?_)
      have ge_o126 : Z.heap.size ≤ o126 := g126 ▸ old_le (Old.start Z)
      replace A126 : Ary Z h126 o126 k126 .int 4 (lst [(.int (0 : Int32)), (.int (0 : Int32)), (.int (0 : Int32)), (.int (0 : Int32))] (.int (0 : Int32))) := A126.congr (own_rep 4)
      have O126 := ((Old.start Z)).ext E126
      have F126 := OwnF.ext O126.2 F0
      show Go p e below _ (T126.setTop (mkF m 11 #[.val (.int i0), .val (.int i1), .val (.int (3 : Int32)), .val (.int (3 : Int32)), .unset, .unset, .unset] [(.ref o126)]))
      refine s_dup B X126 (pc' := 12) at_11 rfl rfl ?_
      refine s_iconst B X126 (pc' := 13) (v := (0 : Int32)) at_12 rfl rfl ?_
      refine s_bipush B X126 (pc' := 15) (v := (8 : Int32)) at_13 rfl rfl ?_
      refine s_stI B X126 (pc' := 16) (jn := 0) e126 A126  (by decide) (by decide) (by decide) at_15 rfl (fun T127 h127 X127 e127 W127 A127 => ?_)
      replace A127 := A127.full (show 0 < 4 by decide) (L' := [(.int (8 : Int32)), (.int (0 : Int32)), (.int (0 : Int32)), (.int (0 : Int32))]) rfl
      have N127 := Fr.snoc X127 (Fr.nil _) ge_o126
      have O127 := (O126).wr W127 ge_o126
      have F127 := OwnF.ext O127.2 F0
      show Go p e below _ (T127.setTop (mkF m 16 #[.val (.int i0), .val (.int i1), .val (.int (3 : Int32)), .val (.int (3 : Int32)), .unset, .unset, .unset] [(.ref o126)]))
      refine s_dup B X127 (pc' := 17) at_16 rfl rfl ?_
      refine s_iconst B X127 (pc' := 18) (v := (1 : Int32)) at_17 rfl rfl ?_
      refine s_bipush B X127 (pc' := 20) (v := (12 : Int32)) at_18 rfl rfl ?_
      refine s_stI B X127 (pc' := 21) (jn := 1) e127 A127  (by decide) (by decide) (by decide) at_20 rfl (fun T128 h128 X128 e128 W128 A128 => ?_)
      replace A128 := A128.full (show 1 < 4 by decide) (L' := [(.int (8 : Int32)), (.int (12 : Int32)), (.int (0 : Int32)), (.int (0 : Int32))]) rfl
      have N128 := Fr.snoc X128 N127 ge_o126
      have O128 := (O127).wr W128 ge_o126
      have F128 := OwnF.ext O128.2 F0
      show Go p e below _ (T128.setTop (mkF m 21 #[.val (.int i0), .val (.int i1), .val (.int (3 : Int32)), .val (.int (3 : Int32)), .unset, .unset, .unset] [(.ref o126)]))
      refine s_dup B X128 (pc' := 22) at_21 rfl rfl ?_
      refine s_iconst B X128 (pc' := 23) (v := (2 : Int32)) at_22 rfl rfl ?_
      refine s_bipush B X128 (pc' := 25) (v := (10 : Int32)) at_23 rfl rfl ?_
      refine s_stI B X128 (pc' := 26) (jn := 2) e128 A128  (by decide) (by decide) (by decide) at_25 rfl (fun T129 h129 X129 e129 W129 A129 => ?_)
      replace A129 := A129.full (show 2 < 4 by decide) (L' := [(.int (8 : Int32)), (.int (12 : Int32)), (.int (10 : Int32)), (.int (0 : Int32))]) rfl
      have N129 := Fr.snoc X129 N128 ge_o126
      have O129 := (O128).wr W129 ge_o126
      have F129 := OwnF.ext O129.2 F0
      show Go p e below _ (T129.setTop (mkF m 26 #[.val (.int i0), .val (.int i1), .val (.int (3 : Int32)), .val (.int (3 : Int32)), .unset, .unset, .unset] [(.ref o126)]))
      refine s_dup B X129 (pc' := 27) at_26 rfl rfl ?_
      refine s_iconst B X129 (pc' := 28) (v := (3 : Int32)) at_27 rfl rfl ?_
      refine s_bipush B X129 (pc' := 30) (v := (15 : Int32)) at_28 rfl rfl ?_
      refine s_stI B X129 (pc' := 31) (jn := 3) e129 A129  (by decide) (by decide) (by decide) at_30 rfl (fun T130 h130 X130 e130 W130 A130 => ?_)
      replace A130 := A130.full (show 3 < 4 by decide) (L' := [(.int (8 : Int32)), (.int (12 : Int32)), (.int (10 : Int32)), (.int (15 : Int32))]) rfl
      have N130 := Fr.snoc X130 N129 ge_o126
      have O130 := (O129).wr W130 ge_o126
      have F130 := OwnF.ext O130.2 F0
      show Go p e below _ (T130.setTop (mkF m 31 #[.val (.int i0), .val (.int i1), .val (.int (3 : Int32)), .val (.int (3 : Int32)), .unset, .unset, .unset] [(.ref o126)]))
      refine s_astore B X130 (pc' := 33) (Ls' := #[.val (.int i0), .val (.int i1), .val (.int (3 : Int32)), .val (.int (3 : Int32)), .val (.ref o126), .unset, .unset]) at_31 rfl rfl rfl ?_
      refine s_aload B X130 (pc' := 35) at_33 rfl rfl rfl ?_
      refine s_iloadN B X130 (pc' := 36) at_35 rfl rfl ?_
      refine s_ldI B X130 (pc' := 37) (jn := 3) (v := (.int (15 : Int32))) e130 A130 (by decide) (by decide) (by decide) rfl at_36 rfl ?_
      refine s_iloadN B X130 (pc' := 38) at_37 rfl rfl ?_
      refine s_ishr B X130 (pc' := 39) (v := (1 : Int32)) at_38 (by decide +kernel) rfl ?_
      refine s_iconst B X130 (pc' := 40) (v := (1 : Int32)) at_39 rfl rfl ?_
      refine s_iand B X130 (pc' := 41) (v := (1 : Int32)) at_40 rfl rfl ?_
      refine s_ifN B X130 (pc' := 44) at_41 (by decide) rfl ?_
      refine s_iconst B X130 (pc' := 45) (v := (1 : Int32)) at_44 rfl rfl ?_
      refine s_goto B X130 (pc' := 49) at_45 (by decide) (by decide) ?_
      refine s_istore B X130 (pc' := 51) (Ls' := #[.val (.int i0), .val (.int i1), .val (.int (3 : Int32)), .val (.int (3 : Int32)), .val (.ref o126), .val (.int (1 : Int32)), .unset]) at_49 rfl rfl ?_
      refine s_iloadN B X130 (pc' := 52) at_51 rfl rfl ?_
      refine p_static B X130 (y := mn0) (pc' := 55) (argsL := [(.int (3 : Int32))]) (under := []) (W := 0) e130 (tw1 hw) (tw2 hw) (tw4 hw) (tw3 hw) (by decide) (rm1_6 l Z a0 hw  w_SHARED w_WRITE w_MEMBERSHIP w_READ h130 F130 ) (lenOf pd_0 rfl) rfl rfl (by decide) (by decide) rfl rfl (by decide) (by decide) rfl at_52 rfl (fun T131 X131 e131 => ?_)
      show Go p e below _ (T131.setTop (mkF m 55 #[.val (.int i0), .val (.int i1), .val (.int (3 : Int32)), .val (.int (3 : Int32)), .val (.ref o126), .val (.int (1 : Int32)), .unset] [(.ref w_WRITE)]))
      refine s_iloadN B X131 (pc' := 56) at_55 rfl rfl ?_
      refine p_static B X131 (y := mn0) (pc' := 59) (argsL := [(.int (3 : Int32))]) (under := [(.ref w_WRITE)]) (W := 1) e131 (tw1 hw) (tw2 hw) (tw4 hw) (tw3 hw) (by decide) (rm1_6 l Z a0 hw  w_SHARED w_WRITE w_MEMBERSHIP w_READ h130 F130 ) (lenOf pd_0 rfl) rfl rfl (by decide) (by decide) rfl rfl (by decide) (by decide) rfl at_56 rfl (fun T132 X132 e132 => ?_)
      show Go p e below _ (T132.setTop (mkF m 59 #[.val (.int i0), .val (.int i1), .val (.int (3 : Int32)), .val (.int (3 : Int32)), .val (.ref o126), .val (.int (1 : Int32)), .unset] [(.ref w_WRITE), (.ref w_WRITE)]))
      obtain ⟨S_SHARED, E_SHARED, S_WRITE, E_WRITE, S_MEMBERSHIP, E_MEMBERSHIP, S_READ, E_READ, F_SHARED_ordinal, F_WRITE_ordinal, F_MEMBERSHIP_ordinal, F_READ_ordinal⟩ := id F130
      refine p_virtual B X132 (y := mn1) (pc' := 62) (argsL := [(.ref w_WRITE)]) (under := []) (W := 0) e132 (tw10 hw) (tw11 hw) (tw13 hw) (tw12 hw) (tw14 hw) (tw6 hw) (by decide) (rm2_19 l Z a0 hw  w_SHARED w_WRITE w_MEMBERSHIP w_READ h130 F130 ) E_WRITE (lenOf pd_1 rfl) rfl rfl (by decide) (by decide) rfl rfl (by decide) (by decide) rfl at_59 rfl (fun T133 X133 e133 => ?_)
      show Go p e below _ (T133.setTop (mkF m 62 #[.val (.int i0), .val (.int i1), .val (.int (3 : Int32)), .val (.int (3 : Int32)), .val (.ref o126), .val (.int (1 : Int32)), .unset] [(.int (1 : Int32))]))
      refine s_istore B X133 (pc' := 64) (Ls' := #[.val (.int i0), .val (.int i1), .val (.int (3 : Int32)), .val (.int (3 : Int32)), .val (.ref o126), .val (.int (1 : Int32)), .val (.int (1 : Int32))]) at_62 rfl rfl ?_
      refine s_iload B X133 (pc' := 66) at_64 rfl rfl ?_
      refine s_iload B X133 (pc' := 68) at_66 rfl rfl ?_
      refine s_icmpN B X133 (pc' := 71) at_68 (by decide) rfl ?_
      refine s_iconst B X133 (pc' := 72) (v := (1 : Int32)) at_71 rfl rfl ?_
      refine s_goto B X133 (pc' := 76) at_72 (by decide) (by decide) ?_
      exact r_nar B X133 (t := .boolean) (by simp) rfl at_76 ⟨rfl, N130⟩ (by decide) (by decide)
set_option maxRecDepth 65536 in
set_option maxHeartbeats 40000000 in
theorem comes_1 {Post : Tables → Env → Array Value → State → Outcome → State → Prop} (hpost : ∀ tb e args s v u, (limb_1_1.after args s (.returned v) u = true ∧ limb_1_2.after args s (.returned v) u = true ∧ True) → FrameEnd s (.returned v) u (Jvm.fieldLocs frame_1_writes args s ++ Jvm.arrayLocs frame_1_arrays args s ++ Jvm.staticLocs frame_1_statics s) 16 128 → Post tb e args s (.returned v) u) :
    ArmFor flags0 classFile x code maxLocals ret World_1 tables_1 room_1 Calls_1 rest_1 Pre_1 Post := by
  intro l hfl _ _ p e ha hc hk s m args below hf hA hF happ hP
  obtain ⟨hcalls, hrest, hpre⟩ := hP
  obtain ⟨-, -, -, hnamed, -, -, -, hat⟩ := (Spec.applies_iff hf).mp happ
  obtain ⟨hg, hn⟩ := and_e (Cond.before_iff.mp (show (Jvm.Cond.and given_1 narrow_1).before args s = true from hpre))
  obtain ⟨h1, hg⟩ := and_e hg
  obtain ⟨w0, w1, rfl⟩ : ∃ w0 w1 : Value, args = #[w0, w1] := by
    have hs : args.size = 2 := by simpa [Cond.value, given_1] using h1
    obtain ⟨L⟩ := args
    match L, hs with
    | [w0, w1], _ => exact ⟨w0, w1, rfl⟩
  have hw := fun d (hd : d ∈ tables_1) => atoms_spec (ws := Jvm.Cond.code x code maxLocals ret :: tables_1) hat d (List.mem_cons_of_mem _ hd)
  have hfit : Fit s := fun {y c} hc i hi => by
    obtain ⟨ha, rfl⟩ := Array.getElem?_eq_some_iff.mp hc
    have q := List.all_eq_true.mp ((Array.all_eq_true_iff_forall_mem.mp hF) _ (Array.getElem_mem ha)) i (List.mem_range.mpr hi)
    simpa [Array.getElem?_eq_getElem hi] using q
  obtain ⟨hg0, hg⟩ := and_e hg
  have hg1 := hg
  obtain ⟨i0, ei0⟩ := is_v hg0
  obtain rfl : w0 = (.int i0) := Option.some.inj ei0
  obtain ⟨i1, ei1⟩ := is_v hg1
  obtain rfl : w1 = (.int i1) := Option.some.inj ei1
  obtain ⟨hn0, hn⟩ := and_e hn
  obtain ⟨hn1, hn⟩ := and_e hn
  obtain ⟨hn2, hn⟩ := and_e hn
  obtain ⟨hn3, hn⟩ := and_e hn
  obtain ⟨hn4, hn⟩ := and_e hn
  obtain ⟨hn5, hn⟩ := and_e hn
  obtain ⟨hn6, hn⟩ := and_e hn
  have hn7 := hn
  obtain ⟨w_SHARED, v_SHARED⟩ := exa_v hn0
  have S_SHARED := Sta.start v_SHARED (Or.inr ⟨(tw6 hw), (tw7 hw)⟩)
  have E_SHARED := Exa.start v_SHARED hn0
  obtain ⟨w_WRITE, v_WRITE⟩ := exa_v hn1
  have S_WRITE := Sta.start v_WRITE (Or.inr ⟨(tw6 hw), (tw9 hw)⟩)
  have E_WRITE := Exa.start v_WRITE hn1
  obtain ⟨w_MEMBERSHIP, v_MEMBERSHIP⟩ := exa_v hn4
  have S_MEMBERSHIP := Sta.start v_MEMBERSHIP (Or.inr ⟨(tw6 hw), (tw17 hw)⟩)
  have E_MEMBERSHIP := Exa.start v_MEMBERSHIP hn4
  obtain ⟨w_READ, v_READ⟩ := exa_v hn5
  have S_READ := Sta.start v_READ (Or.inr ⟨(tw6 hw), (tw19 hw)⟩)
  have E_READ := Exa.start v_READ hn5
  have F_SHARED_ordinal := Fld.start ((fld_at v_SHARED).symm.trans (eqI_v hn2))
  have F_WRITE_ordinal := Fld.start ((fld_at v_WRITE).symm.trans (eqI_v hn3))
  have F_MEMBERSHIP_ordinal := Fld.start ((fld_at v_MEMBERSHIP).symm.trans (eqI_v hn6))
  have F_READ_ordinal := Fld.start ((fld_at v_READ).symm.trans (eqI_v hn7))
  obtain ⟨n, o, h1, h2, h3, _, L, rfl, ⟨rfl, N⟩, hq⟩ := rm_law l s _ hw i0 i1 w_SHARED w_WRITE w_MEMBERSHIP w_READ ⟨S_SHARED, E_SHARED, S_WRITE, E_WRITE, S_MEMBERSHIP, E_MEMBERSHIP, S_READ, E_READ, F_SHARED_ordinal, F_WRITE_ordinal, F_MEMBERSHIP_ordinal, F_READ_ordinal⟩ p e ha hc hk s m _ below hf ((Spec.applies_iff_loose hf).mp happ).1 ⟨rfl, State.Warmed39.refl s, rfl⟩ trivial
  refine ⟨n, _, h1, h2, h3, hpost _ _ _ _ _ _ ⟨Cond.after_iff.mpr rfl, Cond.after_iff.mpr (eq_i res_at (Term.int_eval (1)) rfl), trivial⟩ ⟨hq.1, hq.2.1, (hq.2.2.sift fun y hy => Or.inr (N y hy)).mono (by decide) (by decide)⟩⟩
theorem main_1_1 : Claimed_1_1 := comes_1 fun _ _ _ _ _ _ h hF => ⟨h.1, hF⟩
theorem main_1_2 : Claimed_1_2 := comes_1 fun _ _ _ _ _ _ h hF => ⟨h.2.1, hF⟩
end Jvm.Pilot.@@N@@
namespace Jvm.Pilot.@@N@@
open Jvm Jvm.ClassFile Sem Op Lib Jvm.Free Jvm.Stand Jvm.Pilot.@@N@@.Jvm.D
/-! MADE BY PROGRAM (witnessworld.py) out of the Statement's table words and the real class files: 12 classes; the members and pool entries that the words name. The judged class is class 1, her method 2. -/
namespace start1
open Jvm.ClassFile
def u (s : String) : CpInfo := .utf8 (stringToUtf16 s)
/-- a pool by its gaps: so many unusable entries, then the entry; so many at the end -/
def gap : Nat → List CpInfo → List CpInfo
  | 0, r => r
  | n + 1, r => .unusable :: gap n r
def poolList (es : List (Nat × CpInfo)) (last : Nat) : List CpInfo := es.foldr (fun e r => gap e.1 (e.2 :: r)) (gap last [])
def pool (es : List (Nat × CpInfo)) (last : Nat) : Array CpInfo := ⟨poolList es last⟩
def fileOf (pool : Array CpInfo) (this : Nat) (attrs : Array Attribute := #[]) (ms : Array MethodInfo := #[]) (fl : Nat := 33) (sup : Nat := 0) (ifs : Array Nat := #[]) (fds : Array FieldInfo := #[]) : ClassFile where
  minorVersion := 0
  majorVersion := 65
  constantPool := pool
  accessFlags := fl
  thisClass := this
  superClass := sup
  interfaces := ifs
  fields := fds
  methods := ms
  attributes := attrs
def plain (name : String) (sup : Option ClassId) : Class where
  name := name
  kind := .ordinary
  loader := none
  accessFlags := 33
  super := sup
  interfaces := #[]
  cf := none
  fields := #[]
  methods := #[]
  instanceTypes := #[]
  staticTypes := #[]
  resolved := #[]
  callSites := []
  init := .initialized
  statics := none
  mirror := none

def pool0 : Array CpInfo := pool [(5, u "<init>"), (0, u "()V"), (1, .class_ 10), (1, u "java/lang/Object")] 113

def k0m0 : Method := { name := "<init>", desc := "()V", sig := { parameters := [], returnType := none }, accessFlags := 1, code := none }
/-- java/lang/Object -/
def k0 : Class := { plain "java/lang/Object" none with
  accessFlags := 33
  interfaces := #[]
  cf := some (fileOf pool0 8 #[] #[{ accessFlags := 1, nameIndex := 5, descriptorIndex := 6, attributes := #[] }] 33 0 #[] #[])
  fields := #[]
  methods := #[k0m0]
  instanceTypes := #[]
  staticTypes := #[]
  resolved := Array.replicate 124 none
  statics := none }

def pool1 : Array CpInfo := pool [(2, .class_ 4), (1, u "java/lang/Object"), (0, u "<init>"), (0, u "()V"), (0, .fieldref 8 9), (0, .class_ 10), (0, .nameAndType 11 12), (0, u "com/example/isolation/isolation/LockMode"), (0, u "SHARED"), (0, u "Lcom/example/isolation/isolation/LockMode;"), (0, .fieldref 8 14), (0, .nameAndType 15 12), (0, u "READ"), (0, .fieldref 8 17), (0, .nameAndType 18 12), (0, u "MEMBERSHIP"), (0, .fieldref 8 20), (0, .nameAndType 21 12), (0, u "WRITE"), (0, .methodref 23 24), (0, .class_ 25), (0, .nameAndType 26 27), (0, u "com/example/isolation/isolation/LockModeConflictsWithPinLaw"), (0, u "mode"), (0, u "(I)Lcom/example/isolation/isolation/LockMode;"), (0, .methodref 8 29), (0, .nameAndType 30 31), (0, u "conflictsWith"), (0, u "(Lcom/example/isolation/isolation/LockMode;)Z"), (3, u "law"), (0, u "(II)Z")] 4

def k1m0 : Method := { name := "<init>", desc := "()V", sig := { parameters := [], returnType := none }, accessFlags := 1, code := none }
def k1c1 : Code := { maxStack := 2, maxLocals := 1, code := method_2_code, exceptionTable := #[], attributes := #[] }
def k1m1 : Method := { name := "mode", desc := "(I)Lcom/example/isolation/isolation/LockMode;", sig := { parameters := [.int], returnType := some (.object "com/example/isolation/isolation/LockMode") }, accessFlags := 10, code := some k1c1 }
def k1c2 : Code := { maxStack := 4, maxLocals := 7, code := code, exceptionTable := #[], attributes := #[] }
def k1m2 : Method := { name := "law", desc := "(II)Z", sig := { parameters := [.int, .int], returnType := some .boolean }, accessFlags := 9, code := some k1c2 }
/-- com/example/isolation/isolation/LockModeConflictsWithPinLaw -/
def k1 : Class := { plain "com/example/isolation/isolation/LockModeConflictsWithPinLaw" (some 0) with
  accessFlags := 49
  interfaces := #[]
  cf := some (fileOf pool1 23 #[] #[{ accessFlags := 1, nameIndex := 5, descriptorIndex := 6, attributes := #[] }, { accessFlags := 10, nameIndex := 26, descriptorIndex := 27, attributes := #[] }, { accessFlags := 9, nameIndex := 35, descriptorIndex := 36, attributes := #[] }] 49 2 #[] #[])
  fields := #[]
  methods := #[k1m0, k1m1, k1m2]
  instanceTypes := #[]
  staticTypes := #[]
  resolved := Array.replicate 41 none
  statics := none }

def pool2 : Array CpInfo := pool [(1, .class_ 2), (0, u "java/lang/constant/Constable"), (0, .class_ 4), (0, u "java/lang/Object")] 6

/-- java/lang/constant/Constable -/
def k2 : Class := { plain "java/lang/constant/Constable" (some 0) with
  accessFlags := 1537
  interfaces := #[]
  cf := some (fileOf pool2 1 #[] #[] 1537 3 #[] #[])
  fields := #[]
  methods := #[]
  instanceTypes := #[]
  staticTypes := #[]
  resolved := Array.replicate 11 none
  statics := none }

def pool3 : Array CpInfo := pool [(1, .class_ 2), (0, u "java/lang/Comparable"), (0, .class_ 4), (0, u "java/lang/Object")] 7

/-- java/lang/Comparable -/
def k3 : Class := { plain "java/lang/Comparable" (some 0) with
  accessFlags := 1537
  interfaces := #[]
  cf := some (fileOf pool3 1 #[] #[] 1537 3 #[] #[])
  fields := #[]
  methods := #[]
  instanceTypes := #[]
  staticTypes := #[]
  resolved := Array.replicate 12 none
  statics := none }

def pool4 : Array CpInfo := pool [(1, .class_ 2), (0, u "java/io/Serializable"), (0, .class_ 4), (0, u "java/lang/Object")] 2

/-- java/io/Serializable -/
def k4 : Class := { plain "java/io/Serializable" (some 0) with
  accessFlags := 1537
  interfaces := #[]
  cf := some (fileOf pool4 1 #[] #[] 1537 3 #[] #[])
  fields := #[]
  methods := #[]
  instanceTypes := #[]
  staticTypes := #[]
  resolved := Array.replicate 7 none
  statics := none }

def pool5 : Array CpInfo := pool [(2, .class_ 4), (1, u "java/lang/Enum"), (0, u "name"), (0, u "Ljava/lang/String;"), (2, u "ordinal"), (0, u "I"), (1, .class_ 14), (1, u "java/lang/Object"), (4, u "hash"), (86, .class_ 108), (1, u "java/lang/Enum$EnumDesc"), (2, .class_ 112), (0, u "java/lang/constant/Constable"), (0, .class_ 114), (0, u "java/lang/Comparable"), (0, .class_ 116), (0, u "java/io/Serializable")] 87

/-- java/lang/Enum -/
def k5 : Class := { plain "java/lang/Enum" (some 0) with
  accessFlags := 1057
  interfaces := #[2, 3, 4]
  cf := some (fileOf pool5 2 #[.nestMembers #[106]] #[] 1057 12 #[111, 113, 115] #[{ accessFlags := 18, nameIndex := 5, descriptorIndex := 6, attributes := #[] }, { accessFlags := 18, nameIndex := 9, descriptorIndex := 10, attributes := #[] }, { accessFlags := 2, nameIndex := 19, descriptorIndex := 10, attributes := #[] }])
  fields := #[{ name := "name", type := (.object "java/lang/String"), accessFlags := 18, slot := 0, constantValue := 0 }, { name := "ordinal", type := .int, accessFlags := 18, slot := 1, constantValue := 0 }, { name := "hash", type := .int, accessFlags := 2, slot := 2, constantValue := 0 }]
  methods := #[]
  instanceTypes := #[(.object "java/lang/String"), .int, .int]
  staticTypes := #[]
  resolved := Array.replicate 204 none
  statics := none }

def pool6 : Array CpInfo := pool [(1, .class_ 2), (0, u "com/example/isolation/isolation/LockMode"), (0, .fieldref 1 4), (0, .nameAndType 5 6), (0, u "SHARED"), (0, u "Lcom/example/isolation/isolation/LockMode;"), (2, u "READ"), (2, u "MEMBERSHIP"), (0, .fieldref 1 14), (0, .nameAndType 15 6), (0, u "WRITE"), (2, u "$VALUES"), (0, u "[Lcom/example/isolation/isolation/LockMode;"), (6, .class_ 28), (1, u "java/lang/Enum"), (45, u "conflictsWith"), (0, u "(Lcom/example/isolation/isolation/LockMode;)Z")] 23

def k6c0 : Code := { maxStack := 2, maxLocals := 3, code := prog_29_method_4_code, exceptionTable := #[], attributes := #[] }
def k6m0 : Method := { name := "conflictsWith", desc := "(Lcom/example/isolation/isolation/LockMode;)Z", sig := { parameters := [(.object "com/example/isolation/isolation/LockMode")], returnType := some .boolean }, accessFlags := 0, code := some k6c0 }
/-- com/example/isolation/isolation/LockMode -/
def k6 : Class := { plain "com/example/isolation/isolation/LockMode" (some 5) with
  accessFlags := 16433
  interfaces := #[]
  cf := some (fileOf pool6 1 #[] #[{ accessFlags := 0, nameIndex := 74, descriptorIndex := 75, attributes := #[] }] 16433 26 #[] #[{ accessFlags := 16409, nameIndex := 5, descriptorIndex := 6, attributes := #[] }, { accessFlags := 16409, nameIndex := 9, descriptorIndex := 6, attributes := #[] }, { accessFlags := 16409, nameIndex := 12, descriptorIndex := 6, attributes := #[] }, { accessFlags := 16409, nameIndex := 15, descriptorIndex := 6, attributes := #[] }, { accessFlags := 4122, nameIndex := 18, descriptorIndex := 19, attributes := #[] }])
  fields := #[{ name := "SHARED", type := (.object "com/example/isolation/isolation/LockMode"), accessFlags := 16409, slot := 0, constantValue := 0 }, { name := "READ", type := (.object "com/example/isolation/isolation/LockMode"), accessFlags := 16409, slot := 1, constantValue := 0 }, { name := "MEMBERSHIP", type := (.object "com/example/isolation/isolation/LockMode"), accessFlags := 16409, slot := 2, constantValue := 0 }, { name := "WRITE", type := (.object "com/example/isolation/isolation/LockMode"), accessFlags := 16409, slot := 3, constantValue := 0 }, { name := "$VALUES", type := (.array (.object "com/example/isolation/isolation/LockMode")), accessFlags := 4122, slot := 4, constantValue := 0 }]
  methods := #[k6m0]
  instanceTypes := #[(.object "java/lang/String"), .int, .int]
  staticTypes := #[(.object "com/example/isolation/isolation/LockMode"), (.object "com/example/isolation/isolation/LockMode"), (.object "com/example/isolation/isolation/LockMode"), (.object "com/example/isolation/isolation/LockMode"), (.array (.object "com/example/isolation/isolation/LockMode"))]
  resolved := Array.replicate 99 none
  statics := some 0 }

def pool7 : Array CpInfo := pool [(1, u "java/lang/Cloneable"), (0, .class_ 1), (0, u "java/lang/Object"), (0, .class_ 3)] 3

/-- java/lang/Cloneable -/
def k7 : Class := { plain "java/lang/Cloneable" (some 0) with
  accessFlags := 1537
  interfaces := #[]
  cf := some (fileOf pool7 2 #[] #[] 1537 4 #[] #[])
  fields := #[]
  methods := #[]
  instanceTypes := #[]
  staticTypes := #[]
  resolved := Array.replicate 8 none
  statics := none }

/-- the primitive byte -/
def k8 : Class := { plain "byte" none with kind := .primitive 'B', accessFlags := 0x411 }
/-- [B -/
def k9 : Class := { plain "[B" (some 0) with kind := .array 8 .byte, interfaces := #[7, 4], accessFlags := 1041 }

/-- the primitive int -/
def k10 : Class := { plain "int" none with kind := .primitive 'I', accessFlags := 0x411 }
/-- [I -/
def k11 : Class := { plain "[I" (some 0) with kind := .array 10 .int, interfaces := #[7, 4], accessFlags := 1041 }

def heap : Heap := #[{ cls := 6, slots := #[.ref 1, .ref 4, .ref 3, .ref 2, .null], vm := .statics 6 },
  { cls := 6, slots := #[.null, .int 0, .int 0], vm := .none },
  { cls := 6, slots := #[.null, .int 3, .int 0], vm := .none },
  { cls := 6, slots := #[.null, .int 2, .int 0], vm := .none },
  { cls := 6, slots := #[.null, .int 1, .int 0], vm := .none }]
def classes : Array Class := #[k0, k1, k2, k3, k4, k5, k6, k7, k8, k9, k10, k11]
def interned : List (Array UInt16 × Addr) := []
def slotsUsed : Nat := 17
def theMethod : MethodId := ⟨1, 2⟩
def args0 : Array Value := #[.int 5, .int 6]
def aboutOver (below : List Frame) : State where
  vm := { classes := classes, interned := interned.toArray }
  heap := heap
  slotsUsed := slotsUsed
  threads := #[{ frames := .invoking theMethod args0 :: below }]
def below0 : List Frame := [.native { method := ⟨0, 0⟩, args := #[] }]
def about1 : State := aboutOver below0
def p0 : Program := .bare "" "" ""
def e0 : Env := launch0.env 0 0 0
theorem w_frames : about1.frames = Frame.invoking theMethod args0 :: below0 := rfl
set_option maxRecDepth 65536 in
theorem w_args : argsFit about1.vm theMethod args0 = true := by decide +kernel
set_option maxRecDepth 65536 in
theorem w_heap : heapFits about1 = true := by decide +kernel
set_option maxRecDepth 65536 in
theorem w_runnable : about1.curStatus? = some .runnable := by decide +kernel
set_option maxRecDepth 65536 in
theorem w_alone : about1.alone = true := by decide +kernel
set_option maxRecDepth 65536 in
theorem w_named : about1.methodNamed? x = some theMethod := by decide +kernel
set_option maxRecDepth 65536 in
theorem w_hears : about1.hears theMethod below0 = true := by decide +kernel
set_option maxRecDepth 65536 in
theorem w_ripe : about1.ripe theMethod args0 below0 = true := by decide +kernel
theorem w_running : about1.status = .running := rfl
set_option maxRecDepth 65536 in
theorem w_room : about1.hasRoom e0.platform room_1 = true :=
  launch0.hasRoom_least _ room_1 (by decide +kernel) (by decide +kernel) (by decide +kernel) (by decide +kernel) (by decide +kernel) (by decide +kernel)
theorem allAtoms_all (ts : List Jvm.Cond) (a : Array Jvm.Value) (st : Jvm.State) : (allAtoms ts).before a st = ts.all (fun c => c.before a st) := by
  induction ts with
  | nil => rfl
  | cons c t ih =>
    show (Jvm.Cond.and c (allAtoms t)).before a st = _
    rw [Jvm.Cond.before_and, ih, List.all_cons]
def words1 : List Jvm.Cond := Jvm.Cond.code x code maxLocals ret :: tables_1
/-- a 'code' word, met by the world's own term for the bytes: nothing is compared byte by byte -/
theorem code_word {y : MethodName} {bytes : ByteArray} {mx : Nat} {rt : Option FieldType} {a : Array Value} {s : State} {m : MethodId} {meth : Method} {c : Code} (h1 : s.methodNamed? y = some m) (h2 : s.vm.method? m = some meth) (h3 : meth.code = some c) (h4 : c.code = bytes)
    (h5 : (c.maxLocals == mx && c.exceptionTable.isEmpty && decide (c.maxStack ≤ mostOperands) && decide (meth.sig.returnType = rt) && !meth.locks && decide (parseMethodDescriptor y.desc = some meth.sig)) = true) : (Jvm.Cond.code y bytes mx rt).before a s = true := by
  simp only [Bool.and_eq_true, beq_iff_eq, Bool.not_eq_true', decide_eq_true_eq] at h5
  obtain ⟨⟨⟨⟨⟨g1, g2⟩, g3⟩, g4⟩, g5⟩, g6⟩ := h5
  simp [Cond.before, Cond.holds, Cond.value, h1, h2, h3, h4, g1, g2, g3, g4, g5, g6]
def isCode : Jvm.Cond → Bool
  | .code _ _ _ _ => true
  | _ => false
theorem all_split {L : List Jvm.Cond} {P : Jvm.Cond → Bool} (h1 : L.all (fun c => isCode c || P c) = true) (h2 : ∀ c ∈ L.filter isCode, P c = true) : L.all P = true := by
  refine List.all_eq_true.mpr fun c hc => ?_
  have h := List.all_eq_true.mp h1 c hc
  rcases Bool.eq_false_or_eq_true (isCode c) with hi | hi
  · exact h2 c (List.mem_filter.mpr ⟨hc, hi⟩)
  · simpa [hi] using h
set_option maxRecDepth 65536 in
theorem w_c0 : (Jvm.Cond.code x code maxLocals ret).before args0 about1 = true := code_word (m := ⟨1, 2⟩) (meth := k1m2) (c := k1c2) (by decide +kernel) rfl rfl rfl (by decide +kernel)
set_option maxRecDepth 65536 in
theorem w_c1 : (Jvm.Cond.code ({ cls := "com/example/isolation/isolation/LockModeConflictsWithPinLaw", name := "mode", desc := "(I)Lcom/example/isolation/isolation/LockMode;" } : Jvm.MethodName) method_2_code (1 : Nat) (Option.some (Jvm.ClassFile.FieldType.object "com/example/isolation/isolation/LockMode"))).before args0 about1 = true := code_word (m := ⟨1, 1⟩) (meth := k1m1) (c := k1c1) (by decide +kernel) rfl rfl rfl (by decide +kernel)
set_option maxRecDepth 65536 in
theorem w_c2 : (Jvm.Cond.code ({ cls := "com/example/isolation/isolation/LockMode", name := "conflictsWith", desc := "(Lcom/example/isolation/isolation/LockMode;)Z" } : Jvm.MethodName) prog_29_method_4_code (3 : Nat) (Option.some Jvm.ClassFile.FieldType.boolean)).before args0 about1 = true := code_word (m := ⟨6, 0⟩) (meth := k6m0) (c := k6c0) (by decide +kernel) rfl rfl rfl (by decide +kernel)
def codes1 : List Jvm.Cond := [Jvm.Cond.code x code maxLocals ret, Jvm.Cond.code ({ cls := "com/example/isolation/isolation/LockModeConflictsWithPinLaw", name := "mode", desc := "(I)Lcom/example/isolation/isolation/LockMode;" } : Jvm.MethodName) method_2_code (1 : Nat) (Option.some (Jvm.ClassFile.FieldType.object "com/example/isolation/isolation/LockMode")), Jvm.Cond.code ({ cls := "com/example/isolation/isolation/LockMode", name := "conflictsWith", desc := "(Lcom/example/isolation/isolation/LockMode;)Z" } : Jvm.MethodName) prog_29_method_4_code (3 : Nat) (Option.some Jvm.ClassFile.FieldType.boolean)]
set_option maxRecDepth 65536 in
theorem codes_eq : words1.filter isCode = codes1 := rfl
theorem w_codes : ∀ c ∈ words1.filter isCode, c.before args0 about1 = true := by
  rw [codes_eq]
  intro c hc
  simp only [codes1, List.mem_cons, List.not_mem_nil, or_false] at hc
  rcases hc with rfl | rfl | rfl
  · exact w_c0
  · exact w_c1
  · exact w_c2
set_option maxRecDepth 65536 in
theorem w_t1 : words1.all (fun c => isCode c || c.before args0 about1) = true := by decide +kernel
theorem w_tables : (allAtoms (Jvm.Cond.code x code maxLocals ret :: tables_1)).before args0 about1 = true := by
  rw [allAtoms_all]
  show words1.all (fun c => c.before args0 about1) = true
  refine all_split ?_ w_codes
  rw [w_t1]
set_option maxRecDepth 65536 in
theorem w_case : (Jvm.Cond.and given_1 narrow_1).before args0 about1 = true := by decide +kernel
theorem w_applies : (headSpec (Jvm.Cond.code x code maxLocals ret :: tables_1) room_1).applies x e0.platform about1 = true :=
  (Spec.applies_iff w_frames).mpr ⟨w_running, w_runnable, w_alone, w_named, w_hears, w_ripe, w_room, w_tables⟩
theorem atStart : AtStart classFile x code maxLocals ret World_1 tables_1 room_1 Calls_1 rest_1 Pre_1 launch0 p0 e0 about1 theMethod args0 below0 :=
  ⟨lists_1, trivial, launch0.admits_env _ _ _, launch0.least_env, fairChoices_fair.cas, fairChoices_fair.clock, w_frames, w_args, w_heap, w_applies, trivial, trivial, w_case⟩
end start1
theorem witness_1 : WitnessClaimed_1 := ⟨start1.p0, start1.e0, start1.about1, start1.theMethod, start1.args0, start1.below0, start1.atStart⟩
end Jvm.Pilot.@@N@@
