import JvmDerived
import JvmDerived.Pilot.@@N@@Statement
import JvmDerived.Pilot.@@N@@Code
set_option linter.unusedVariables false
set_option linter.unusedSimpArgs false

namespace Jvm.OwnKit
open Sem ClassFile Op Lib Jvm.Stand Jvm.Free Jvm.LawKit Jvm.RoadKit
section Kit
variable {p : Program} {l : Launch} {e : Env} {R : Room} {s : State} {m : MethodId} {args : Array Value} {below : List Frame} {meth : Method} {c : Code} {T : State} {locs : List Loc} {cells slots : Nat} {Z : State} {a0 : Array Value} {h : Heap} {own nm : String} {bytes : ByteArray} {maxL : Nat} {ret : Option FieldType} {P : Outcome → State → Prop} {pc pc' : Nat} {Ls Ls' : Array Slot} {rest : List Value}
/-- from here the run ends, and P holds of its end -/
def Go (p : Program) (e : Env) (below : List Frame) (P : Outcome → State → Prop) (T0 : State) : Prop := ∃ t o, Steps p.tables e below T0 t ∧ t.status = .running ∧ Ended t below o ∧ P o t
theorem Go.on {T1 T2 : State} (st : ∀ t, Steps p.tables e below T2 t → Steps p.tables e below T1 t) (k : Go p e below P T2) : Go p e below P T1 := by
  obtain ⟨t, o, h1, h2⟩ := k; exact ⟨t, o, st t h1, h2⟩
/-- what a walk knows of the method that it walks -/
def Ctx (p : Program) (s : State) (m : MethodId) (meth : Method) (c : Code) (Z : State) (own nm : String) (bytes : ByteArray) (maxL : Nat) (ret : Option FieldType) : Prop :=
  p.tables.exec = Jvm.exec ∧ c.code = bytes ∧ c.maxLocals = maxL ∧ s.vm.findClass own = some m.cls ∧ meth.name = nm ∧ meth.sig.returnType = ret ∧ meth.locks = false ∧ Z.Warmed39 s.vm
/-- what a body's end says -/
def Ends (s : State) (Q : Option Value → Heap → List Loc → Prop) (k n : Nat) (o : Outcome) (t : State) : Prop := ∃ v L, o = .returned v ∧ Q v t.heap L ∧ FrameEnd s o t L k n
/-- a contract: called with the arguments 'as' at the heap h0 it returns as Q says -/
abbrev OMeets (l : Launch) (Z : State) (y : MethodName) (bytes : ByteArray) (maxL : Nat) (ret : Option FieldType) (ws : List Jvm.Cond) (rm : Room) (as : Array Value) (h0 : Heap) (Q : Option Value → Heap → List Loc → Prop) : Prop :=
  MetFree l y (head1 (Jvm.Cond.code y bytes maxL ret :: ws) rm) (fun a U => a = as ∧ Z.Warmed39 U.vm ∧ U.heap = h0) (fun _ _ _ _ _ => True) (fun _ U o U' => ∃ v L, o = .returned v ∧ Q v U'.heap L ∧ FrameEnd U o U' L rm.cells rm.slots)
/-- it returns r, writes nothing and makes nothing -/
def PureQ (r : Option Value) (h0 : Heap) (v : Option Value) (h : Heap) (L : List Loc) : Prop := v = r ∧ L = [] ∧ h = h0
theorem OMeets.of {y : MethodName} {ws : List Jvm.Cond} {rm : Room} {as : Array Value} {h0 : Heap} {Q : Option Value → Heap → List Loc → Prop} (hpn : plainName y.cls = true) (ls : Array Slot) (hent : ∀ m, entryFrame m as maxL = mkF m 0 ls [])
    (body : ∀ p e s m below meth c s₁, Ctx p s m meth c Z y.cls y.name bytes maxL ret → Stand p l e rm s m as below meth c s₁ [] 0 0 → s₁.heap = h0 → Go p e below (Ends s Q rm.cells rm.slots) (s₁.setTop (mkF m 0 ls []))) : OMeets l Z y bytes maxL ret ws rm as h0 Q := by
  refine MetFree.of_bodySF (plainFor_of_name hpn) hisR ?_
  intro p e s m args below meth c s₁ Bd hml0 hP hK
  obtain ⟨rfl, hZ, hh⟩ := hP
  have e0 : s₁.heap = h0 := by rw [← hh, Bd.state]; rfl
  have X0 := Stand.of_body Bd
  have B : Ctx p s m meth c Z y.cls y.name bytes maxL ret := ⟨Bd.exec, Bd.bytes, hml0, findClass_of_methodNamed Bd.named, (name_of_methodNamed Bd.named Bd.method).1, Bd.returns, Bd.notSynchronized, hZ⟩
  obtain ⟨t, o, h1, h2, h3, h4⟩ := body p e s m below meth c s₁ B X0 e0
  exact ⟨t, o, castTop (hent m) h1, h2, h3, h4⟩
/-! the single steps -/

theorem s_iloadN (B : Ctx p s m meth c Z own nm bytes maxL ret) (X : Stand p l e R s m args below meth c T locs cells slots) {k0 : Fin 4} {v : Int32} (hd : decode bytes pc = .ok (.iload_n k0, 1)) (hl : Ls[k0.val]? = some (.val (.int v))) (hp : pc + 1 = pc') (k : Go p e below P (T.setTop (mkF m pc' Ls (.int v :: rest)))) : Go p e below P (T.setTop (mkF m pc Ls (rest))) := by
  subst hp; exact Go.on (fun t => XS.iloadN X.here B.1 rfl (hb B.2.1 hd) hl) k
theorem s_iload (B : Ctx p s m meth c Z own nm bytes maxL ret) (X : Stand p l e R s m args below meth c T locs cells slots) {k0 : Nat} {v : Int32} (hd : decode bytes pc = .ok (.iload k0, 2)) (hl : Ls[k0]? = some (.val (.int v))) (hp : pc + 2 = pc') (k : Go p e below P (T.setTop (mkF m pc' Ls (.int v :: rest)))) : Go p e below P (T.setTop (mkF m pc Ls (rest))) := by
  subst hp; exact Go.on (fun t => XS.iload X.here B.1 rfl (hb B.2.1 hd) hl) k
theorem s_istoreN (B : Ctx p s m meth c Z own nm bytes maxL ret) (X : Stand p l e R s m args below meth c T locs cells slots) {k0 : Fin 4} {v : Int32} (hd : decode bytes pc = .ok (.istore_n k0, 1)) (hl : storeLocals Ls k0.val (.int v) = some Ls') (hp : pc + 1 = pc') (k : Go p e below P (T.setTop (mkF m pc' Ls' (rest)))) : Go p e below P (T.setTop (mkF m pc Ls (.int v :: rest))) := by
  subst hp; exact Go.on (fun t => XS.istoreN X.here B.1 rfl (hb B.2.1 hd) rfl hl) k
theorem s_istore (B : Ctx p s m meth c Z own nm bytes maxL ret) (X : Stand p l e R s m args below meth c T locs cells slots) {k0 : Nat} {v : Int32} (hd : decode bytes pc = .ok (.istore k0, 2)) (hl : storeLocals Ls k0 (.int v) = some Ls') (hp : pc + 2 = pc') (k : Go p e below P (T.setTop (mkF m pc' Ls' (rest)))) : Go p e below P (T.setTop (mkF m pc Ls (.int v :: rest))) := by
  subst hp; exact Go.on (fun t => XS.istore X.here B.1 rfl (hb B.2.1 hd) rfl hl) k
theorem s_lloadN (B : Ctx p s m meth c Z own nm bytes maxL ret) (X : Stand p l e R s m args below meth c T locs cells slots) {k0 : Fin 4} {v : Int64} (hd : decode bytes pc = .ok (.lload_n k0, 1)) (hl : Ls[k0.val]? = some (.val (.long v))) (hp : pc + 1 = pc') (k : Go p e below P (T.setTop (mkF m pc' Ls (.long v :: rest)))) : Go p e below P (T.setTop (mkF m pc Ls (rest))) := by
  subst hp; exact Go.on (fun t => XS.lloadN X.here B.1 rfl (hb B.2.1 hd) hl) k
theorem s_lload (B : Ctx p s m meth c Z own nm bytes maxL ret) (X : Stand p l e R s m args below meth c T locs cells slots) {k0 : Nat} {v : Int64} (hd : decode bytes pc = .ok (.lload k0, 2)) (hl : Ls[k0]? = some (.val (.long v))) (hp : pc + 2 = pc') (k : Go p e below P (T.setTop (mkF m pc' Ls (.long v :: rest)))) : Go p e below P (T.setTop (mkF m pc Ls (rest))) := by
  subst hp; exact Go.on (fun t => XS.lload X.here B.1 rfl (hb B.2.1 hd) hl) k
theorem s_lstoreN (B : Ctx p s m meth c Z own nm bytes maxL ret) (X : Stand p l e R s m args below meth c T locs cells slots) {k0 : Fin 4} {v : Int64} (hd : decode bytes pc = .ok (.lstore_n k0, 1)) (hl : storeLocals Ls k0.val (.long v) = some Ls') (hp : pc + 1 = pc') (k : Go p e below P (T.setTop (mkF m pc' Ls' (rest)))) : Go p e below P (T.setTop (mkF m pc Ls (.long v :: rest))) := by
  subst hp; exact Go.on (fun t => XS.lstoreN X.here B.1 rfl (hb B.2.1 hd) rfl hl) k
theorem s_lstore (B : Ctx p s m meth c Z own nm bytes maxL ret) (X : Stand p l e R s m args below meth c T locs cells slots) {k0 : Nat} {v : Int64} (hd : decode bytes pc = .ok (.lstore k0, 2)) (hl : storeLocals Ls k0 (.long v) = some Ls') (hp : pc + 2 = pc') (k : Go p e below P (T.setTop (mkF m pc' Ls' (rest)))) : Go p e below P (T.setTop (mkF m pc Ls (.long v :: rest))) := by
  subst hp; exact Go.on (fun t => XS.lstore X.here B.1 rfl (hb B.2.1 hd) rfl hl) k
theorem s_aloadN (B : Ctx p s m meth c Z own nm bytes maxL ret) (X : Stand p l e R s m args below meth c T locs cells slots) {k0 : Fin 4} {v : Value} (hd : decode bytes pc = .ok (.aload_n k0, 1)) (hl : Ls[k0.val]? = some (.val v)) (hv : v.isRef = true) (hp : pc + 1 = pc') (k : Go p e below P (T.setTop (mkF m pc' Ls (v :: rest)))) : Go p e below P (T.setTop (mkF m pc Ls (rest))) := by
  subst hp; exact Go.on (fun t => XS.aloadN X.here B.1 rfl (hb B.2.1 hd) hl hv) k
theorem s_aload (B : Ctx p s m meth c Z own nm bytes maxL ret) (X : Stand p l e R s m args below meth c T locs cells slots) {k0 : Nat} {v : Value} (hd : decode bytes pc = .ok (.aload k0, 2)) (hl : Ls[k0]? = some (.val v)) (hv : v.isRef = true) (hp : pc + 2 = pc') (k : Go p e below P (T.setTop (mkF m pc' Ls (v :: rest)))) : Go p e below P (T.setTop (mkF m pc Ls (rest))) := by
  subst hp; exact Go.on (fun t => XS.aload X.here B.1 rfl (hb B.2.1 hd) hl hv) k
theorem s_astoreN (B : Ctx p s m meth c Z own nm bytes maxL ret) (X : Stand p l e R s m args below meth c T locs cells slots) {k0 : Fin 4} {v : Value} (hd : decode bytes pc = .ok (.astore_n k0, 1)) (hv : v.isRef = true) (hl : storeLocals Ls k0.val v = some Ls') (hp : pc + 1 = pc') (k : Go p e below P (T.setTop (mkF m pc' Ls' (rest)))) : Go p e below P (T.setTop (mkF m pc Ls (v :: rest))) := by
  subst hp; exact Go.on (fun t => XS.astoreN X.here B.1 rfl (hb B.2.1 hd) rfl hv hl) k
theorem s_astore (B : Ctx p s m meth c Z own nm bytes maxL ret) (X : Stand p l e R s m args below meth c T locs cells slots) {k0 : Nat} {v : Value} (hd : decode bytes pc = .ok (.astore k0, 2)) (hv : v.isRef = true) (hl : storeLocals Ls k0 v = some Ls') (hp : pc + 2 = pc') (k : Go p e below P (T.setTop (mkF m pc' Ls' (rest)))) : Go p e below P (T.setTop (mkF m pc Ls (v :: rest))) := by
  subst hp; exact Go.on (fun t => XS.astore X.here B.1 rfl (hb B.2.1 hd) rfl hv hl) k
theorem s_iconst (B : Ctx p s m meth c Z own nm bytes maxL ret) (X : Stand p l e R s m args below meth c T locs cells slots) {i : Int} {v : Int32} (hd : decode bytes pc = .ok (.iconst i, 1)) (hv : Int32.ofInt i = v) (hp : pc + 1 = pc') (k : Go p e below P (T.setTop (mkF m pc' Ls (.int v :: rest)))) : Go p e below P (T.setTop (mkF m pc Ls (rest))) := by
  subst hp; subst hv; exact Go.on (fun t => XS.iconst X.here B.1 rfl (hb B.2.1 hd)) k
theorem s_bipush (B : Ctx p s m meth c Z own nm bytes maxL ret) (X : Stand p l e R s m args below meth c T locs cells slots) {i : Int} {v : Int32} (hd : decode bytes pc = .ok (.bipush i, 2)) (hv : (Int8.ofInt i).toInt32 = v) (hp : pc + 2 = pc') (k : Go p e below P (T.setTop (mkF m pc' Ls (.int v :: rest)))) : Go p e below P (T.setTop (mkF m pc Ls (rest))) := by
  subst hp; subst hv; exact Go.on (fun t => XS.bipush X.here B.1 rfl (hb B.2.1 hd)) k
theorem s_sipush (B : Ctx p s m meth c Z own nm bytes maxL ret) (X : Stand p l e R s m args below meth c T locs cells slots) {i : Int} {v : Int32} (hd : decode bytes pc = .ok (.sipush i, 3)) (hv : (Int16.ofInt i).toInt32 = v) (hp : pc + 3 = pc') (k : Go p e below P (T.setTop (mkF m pc' Ls (.int v :: rest)))) : Go p e below P (T.setTop (mkF m pc Ls (rest))) := by
  subst hp; subst hv; exact Go.on (fun t => XS.sipush X.here B.1 rfl (hb B.2.1 hd)) k
theorem s_lconst (B : Ctx p s m meth c Z own nm bytes maxL ret) (X : Stand p l e R s m args below meth c T locs cells slots) {i : Fin 2} {v : Int64} (hd : decode bytes pc = .ok (.lconst i, 1)) (hv : Int64.ofNat i = v) (hp : pc + 1 = pc') (k : Go p e below P (T.setTop (mkF m pc' Ls (.long v :: rest)))) : Go p e below P (T.setTop (mkF m pc Ls (rest))) := by
  subst hp; subst hv; exact Go.on (fun t => XS.lconst X.here B.1 rfl (hb B.2.1 hd)) k
theorem s_aconst_null (B : Ctx p s m meth c Z own nm bytes maxL ret) (X : Stand p l e R s m args below meth c T locs cells slots)  (hd : decode bytes pc = .ok (.aconst_null, 1))  (hp : pc + 1 = pc') (k : Go p e below P (T.setTop (mkF m pc' Ls (.null :: rest)))) : Go p e below P (T.setTop (mkF m pc Ls (rest))) := by
  subst hp; exact Go.on (fun t => XS.aconstNull X.here B.1 rfl (hb B.2.1 hd)) k
theorem s_iadd (B : Ctx p s m meth c Z own nm bytes maxL ret) (X : Stand p l e R s m args below meth c T locs cells slots) {x : Int32} {y : Int32} {v : Int32} (hd : decode bytes pc = .ok (.iadd, 1)) (hv : x + y = v)  (hp : pc + 1 = pc') (k : Go p e below P (T.setTop (mkF m pc' Ls (.int v :: rest)))) : Go p e below P (T.setTop (mkF m pc Ls (.int y :: .int x :: rest))) := by
  subst hp; subst hv; exact Go.on (fun t => XS.iadd X.here B.1 rfl (hb B.2.1 hd) rfl ) k
theorem s_isub (B : Ctx p s m meth c Z own nm bytes maxL ret) (X : Stand p l e R s m args below meth c T locs cells slots) {x : Int32} {y : Int32} {v : Int32} (hd : decode bytes pc = .ok (.isub, 1)) (hv : x - y = v)  (hp : pc + 1 = pc') (k : Go p e below P (T.setTop (mkF m pc' Ls (.int v :: rest)))) : Go p e below P (T.setTop (mkF m pc Ls (.int y :: .int x :: rest))) := by
  subst hp; subst hv; exact Go.on (fun t => XS.isub X.here B.1 rfl (hb B.2.1 hd) rfl ) k
theorem s_imul (B : Ctx p s m meth c Z own nm bytes maxL ret) (X : Stand p l e R s m args below meth c T locs cells slots) {x : Int32} {y : Int32} {v : Int32} (hd : decode bytes pc = .ok (.imul, 1)) (hv : x * y = v)  (hp : pc + 1 = pc') (k : Go p e below P (T.setTop (mkF m pc' Ls (.int v :: rest)))) : Go p e below P (T.setTop (mkF m pc Ls (.int y :: .int x :: rest))) := by
  subst hp; subst hv; exact Go.on (fun t => XS.imul X.here B.1 rfl (hb B.2.1 hd) rfl ) k
theorem s_iand (B : Ctx p s m meth c Z own nm bytes maxL ret) (X : Stand p l e R s m args below meth c T locs cells slots) {x : Int32} {y : Int32} {v : Int32} (hd : decode bytes pc = .ok (.iand, 1)) (hv : x &&& y = v)  (hp : pc + 1 = pc') (k : Go p e below P (T.setTop (mkF m pc' Ls (.int v :: rest)))) : Go p e below P (T.setTop (mkF m pc Ls (.int y :: .int x :: rest))) := by
  subst hp; subst hv; exact Go.on (fun t => XS.iand X.here B.1 rfl (hb B.2.1 hd) rfl ) k
theorem s_ior (B : Ctx p s m meth c Z own nm bytes maxL ret) (X : Stand p l e R s m args below meth c T locs cells slots) {x : Int32} {y : Int32} {v : Int32} (hd : decode bytes pc = .ok (.ior, 1)) (hv : x ||| y = v)  (hp : pc + 1 = pc') (k : Go p e below P (T.setTop (mkF m pc' Ls (.int v :: rest)))) : Go p e below P (T.setTop (mkF m pc Ls (.int y :: .int x :: rest))) := by
  subst hp; subst hv; exact Go.on (fun t => XS.ior X.here B.1 rfl (hb B.2.1 hd) rfl ) k
theorem s_ixor (B : Ctx p s m meth c Z own nm bytes maxL ret) (X : Stand p l e R s m args below meth c T locs cells slots) {x : Int32} {y : Int32} {v : Int32} (hd : decode bytes pc = .ok (.ixor, 1)) (hv : x ^^^ y = v)  (hp : pc + 1 = pc') (k : Go p e below P (T.setTop (mkF m pc' Ls (.int v :: rest)))) : Go p e below P (T.setTop (mkF m pc Ls (.int y :: .int x :: rest))) := by
  subst hp; subst hv; exact Go.on (fun t => XS.ixor X.here B.1 rfl (hb B.2.1 hd) rfl ) k
theorem s_ladd (B : Ctx p s m meth c Z own nm bytes maxL ret) (X : Stand p l e R s m args below meth c T locs cells slots) {x : Int64} {y : Int64} {v : Int64} (hd : decode bytes pc = .ok (.ladd, 1)) (hv : x + y = v)  (hp : pc + 1 = pc') (k : Go p e below P (T.setTop (mkF m pc' Ls (.long v :: rest)))) : Go p e below P (T.setTop (mkF m pc Ls (.long y :: .long x :: rest))) := by
  subst hp; subst hv; exact Go.on (fun t => XS.ladd X.here B.1 rfl (hb B.2.1 hd) rfl ) k
theorem s_lsub (B : Ctx p s m meth c Z own nm bytes maxL ret) (X : Stand p l e R s m args below meth c T locs cells slots) {x : Int64} {y : Int64} {v : Int64} (hd : decode bytes pc = .ok (.lsub, 1)) (hv : x - y = v)  (hp : pc + 1 = pc') (k : Go p e below P (T.setTop (mkF m pc' Ls (.long v :: rest)))) : Go p e below P (T.setTop (mkF m pc Ls (.long y :: .long x :: rest))) := by
  subst hp; subst hv; exact Go.on (fun t => XS.lsub X.here B.1 rfl (hb B.2.1 hd) rfl ) k
theorem s_lmul (B : Ctx p s m meth c Z own nm bytes maxL ret) (X : Stand p l e R s m args below meth c T locs cells slots) {x : Int64} {y : Int64} {v : Int64} (hd : decode bytes pc = .ok (.lmul, 1)) (hv : x * y = v)  (hp : pc + 1 = pc') (k : Go p e below P (T.setTop (mkF m pc' Ls (.long v :: rest)))) : Go p e below P (T.setTop (mkF m pc Ls (.long y :: .long x :: rest))) := by
  subst hp; subst hv; exact Go.on (fun t => XS.lmul X.here B.1 rfl (hb B.2.1 hd) rfl ) k
theorem s_land (B : Ctx p s m meth c Z own nm bytes maxL ret) (X : Stand p l e R s m args below meth c T locs cells slots) {x : Int64} {y : Int64} {v : Int64} (hd : decode bytes pc = .ok (.land, 1)) (hv : x &&& y = v)  (hp : pc + 1 = pc') (k : Go p e below P (T.setTop (mkF m pc' Ls (.long v :: rest)))) : Go p e below P (T.setTop (mkF m pc Ls (.long y :: .long x :: rest))) := by
  subst hp; subst hv; exact Go.on (fun t => XS.land X.here B.1 rfl (hb B.2.1 hd) rfl ) k
theorem s_lor (B : Ctx p s m meth c Z own nm bytes maxL ret) (X : Stand p l e R s m args below meth c T locs cells slots) {x : Int64} {y : Int64} {v : Int64} (hd : decode bytes pc = .ok (.lor, 1)) (hv : x ||| y = v)  (hp : pc + 1 = pc') (k : Go p e below P (T.setTop (mkF m pc' Ls (.long v :: rest)))) : Go p e below P (T.setTop (mkF m pc Ls (.long y :: .long x :: rest))) := by
  subst hp; subst hv; exact Go.on (fun t => XS.lor X.here B.1 rfl (hb B.2.1 hd) rfl ) k
theorem s_lxor (B : Ctx p s m meth c Z own nm bytes maxL ret) (X : Stand p l e R s m args below meth c T locs cells slots) {x : Int64} {y : Int64} {v : Int64} (hd : decode bytes pc = .ok (.lxor, 1)) (hv : x ^^^ y = v)  (hp : pc + 1 = pc') (k : Go p e below P (T.setTop (mkF m pc' Ls (.long v :: rest)))) : Go p e below P (T.setTop (mkF m pc Ls (.long y :: .long x :: rest))) := by
  subst hp; subst hv; exact Go.on (fun t => XS.lxor X.here B.1 rfl (hb B.2.1 hd) rfl ) k
theorem s_idiv (B : Ctx p s m meth c Z own nm bytes maxL ret) (X : Stand p l e R s m args below meth c T locs cells slots) {x : Int32} {y : Int32} {v : Int32} (hd : decode bytes pc = .ok (.idiv, 1)) (hv : x / y = v) (hy : y ≠ 0) (hp : pc + 1 = pc') (k : Go p e below P (T.setTop (mkF m pc' Ls (.int v :: rest)))) : Go p e below P (T.setTop (mkF m pc Ls (.int y :: .int x :: rest))) := by
  subst hp; subst hv; exact Go.on (fun t => XS.idiv X.here B.1 rfl (hb B.2.1 hd) rfl hy) k
theorem s_ldiv (B : Ctx p s m meth c Z own nm bytes maxL ret) (X : Stand p l e R s m args below meth c T locs cells slots) {x : Int64} {y : Int64} {v : Int64} (hd : decode bytes pc = .ok (.ldiv, 1)) (hv : x / y = v) (hy : y ≠ 0) (hp : pc + 1 = pc') (k : Go p e below P (T.setTop (mkF m pc' Ls (.long v :: rest)))) : Go p e below P (T.setTop (mkF m pc Ls (.long y :: .long x :: rest))) := by
  subst hp; subst hv; exact Go.on (fun t => XS.ldiv X.here B.1 rfl (hb B.2.1 hd) rfl hy) k
theorem s_irem (B : Ctx p s m meth c Z own nm bytes maxL ret) (X : Stand p l e R s m args below meth c T locs cells slots) {x y v : Int32} (hd : decode bytes pc = .ok (.irem, 1)) (hv : x % y = v) (hy : y ≠ 0) (hp : pc + 1 = pc') (k : Go p e below P (T.setTop (mkF m pc' Ls (.int v :: rest)))) : Go p e below P (T.setTop (mkF m pc Ls (.int y :: .int x :: rest))) := by
  subst hp; subst hv; exact Go.on (fun t => iremM X B.1 rfl (hb B.2.1 hd) rfl hy) k
theorem s_ishl (B : Ctx p s m meth c Z own nm bytes maxL ret) (X : Stand p l e R s m args below meth c T locs cells slots) {x : Int32} {y : Int32} {v : Int32} (hd : decode bytes pc = .ok (.ishl, 1)) (hv : x <<< (y &&& 31) = v)  (hp : pc + 1 = pc') (k : Go p e below P (T.setTop (mkF m pc' Ls (.int v :: rest)))) : Go p e below P (T.setTop (mkF m pc Ls (.int y :: .int x :: rest))) := by
  subst hp; subst hv; exact Go.on (fun t => XS.ishl X.here B.1 rfl (hb B.2.1 hd) rfl ) k
theorem s_ishr (B : Ctx p s m meth c Z own nm bytes maxL ret) (X : Stand p l e R s m args below meth c T locs cells slots) {x : Int32} {y : Int32} {v : Int32} (hd : decode bytes pc = .ok (.ishr, 1)) (hv : x >>> (y &&& 31) = v)  (hp : pc + 1 = pc') (k : Go p e below P (T.setTop (mkF m pc' Ls (.int v :: rest)))) : Go p e below P (T.setTop (mkF m pc Ls (.int y :: .int x :: rest))) := by
  subst hp; subst hv; exact Go.on (fun t => XS.ishr X.here B.1 rfl (hb B.2.1 hd) rfl ) k
theorem s_iushr (B : Ctx p s m meth c Z own nm bytes maxL ret) (X : Stand p l e R s m args below meth c T locs cells slots) {x : Int32} {y : Int32} {v : Int32} (hd : decode bytes pc = .ok (.iushr, 1)) (hv : (x.toUInt32 >>> (y &&& 31).toUInt32).toInt32 = v)  (hp : pc + 1 = pc') (k : Go p e below P (T.setTop (mkF m pc' Ls (.int v :: rest)))) : Go p e below P (T.setTop (mkF m pc Ls (.int y :: .int x :: rest))) := by
  subst hp; subst hv; exact Go.on (fun t => XS.iushr X.here B.1 rfl (hb B.2.1 hd) rfl ) k
theorem s_lshl (B : Ctx p s m meth c Z own nm bytes maxL ret) (X : Stand p l e R s m args below meth c T locs cells slots) {x : Int64} {y : Int32} {v : Int64} (hd : decode bytes pc = .ok (.lshl, 1)) (hv : x <<< (y &&& 0x3f).toInt64 = v)  (hp : pc + 1 = pc') (k : Go p e below P (T.setTop (mkF m pc' Ls (.long v :: rest)))) : Go p e below P (T.setTop (mkF m pc Ls (.int y :: .long x :: rest))) := by
  subst hp; subst hv; exact Go.on (fun t => XS.lshl X.here B.1 rfl (hb B.2.1 hd) rfl ) k
theorem s_lshr (B : Ctx p s m meth c Z own nm bytes maxL ret) (X : Stand p l e R s m args below meth c T locs cells slots) {x : Int64} {y : Int32} {v : Int64} (hd : decode bytes pc = .ok (.lshr, 1)) (hv : x >>> (y &&& 0x3f).toInt64 = v)  (hp : pc + 1 = pc') (k : Go p e below P (T.setTop (mkF m pc' Ls (.long v :: rest)))) : Go p e below P (T.setTop (mkF m pc Ls (.int y :: .long x :: rest))) := by
  subst hp; subst hv; exact Go.on (fun t => XS.lshr X.here B.1 rfl (hb B.2.1 hd) rfl ) k
theorem s_lushr (B : Ctx p s m meth c Z own nm bytes maxL ret) (X : Stand p l e R s m args below meth c T locs cells slots) {x : Int64} {y : Int32} {v : Int64} (hd : decode bytes pc = .ok (.lushr, 1)) (hv : (x.toUInt64 >>> (y &&& 0x3f).toInt64.toUInt64).toInt64 = v)  (hp : pc + 1 = pc') (k : Go p e below P (T.setTop (mkF m pc' Ls (.long v :: rest)))) : Go p e below P (T.setTop (mkF m pc Ls (.int y :: .long x :: rest))) := by
  subst hp; subst hv; exact Go.on (fun t => XS.lushr X.here B.1 rfl (hb B.2.1 hd) rfl ) k
theorem s_i2b (B : Ctx p s m meth c Z own nm bytes maxL ret) (X : Stand p l e R s m args below meth c T locs cells slots) {x : Int32} {v : Int32} (hd : decode bytes pc = .ok (.i2b, 1)) (hv : x.toInt8.toInt32 = v) (hp : pc + 1 = pc') (k : Go p e below P (T.setTop (mkF m pc' Ls (.int v :: rest)))) : Go p e below P (T.setTop (mkF m pc Ls (.int x :: rest))) := by
  subst hp; subst hv; exact Go.on (fun t => XS.i2b X.here B.1 rfl (hb B.2.1 hd) rfl) k
theorem s_i2c (B : Ctx p s m meth c Z own nm bytes maxL ret) (X : Stand p l e R s m args below meth c T locs cells slots) {x : Int32} {v : Int32} (hd : decode bytes pc = .ok (.i2c, 1)) (hv : x.toUInt32.toUInt16.toUInt32.toInt32 = v) (hp : pc + 1 = pc') (k : Go p e below P (T.setTop (mkF m pc' Ls (.int v :: rest)))) : Go p e below P (T.setTop (mkF m pc Ls (.int x :: rest))) := by
  subst hp; subst hv; exact Go.on (fun t => XS.i2c X.here B.1 rfl (hb B.2.1 hd) rfl) k
theorem s_i2s (B : Ctx p s m meth c Z own nm bytes maxL ret) (X : Stand p l e R s m args below meth c T locs cells slots) {x : Int32} {v : Int32} (hd : decode bytes pc = .ok (.i2s, 1)) (hv : x.toInt16.toInt32 = v) (hp : pc + 1 = pc') (k : Go p e below P (T.setTop (mkF m pc' Ls (.int v :: rest)))) : Go p e below P (T.setTop (mkF m pc Ls (.int x :: rest))) := by
  subst hp; subst hv; exact Go.on (fun t => XS.i2s X.here B.1 rfl (hb B.2.1 hd) rfl) k
theorem s_i2l (B : Ctx p s m meth c Z own nm bytes maxL ret) (X : Stand p l e R s m args below meth c T locs cells slots) {x : Int32} {v : Int64} (hd : decode bytes pc = .ok (.i2l, 1)) (hv : x.toInt64 = v) (hp : pc + 1 = pc') (k : Go p e below P (T.setTop (mkF m pc' Ls (.long v :: rest)))) : Go p e below P (T.setTop (mkF m pc Ls (.int x :: rest))) := by
  subst hp; subst hv; exact Go.on (fun t => XS.i2l X.here B.1 rfl (hb B.2.1 hd) rfl) k
theorem s_l2i (B : Ctx p s m meth c Z own nm bytes maxL ret) (X : Stand p l e R s m args below meth c T locs cells slots) {x : Int64} {v : Int32} (hd : decode bytes pc = .ok (.l2i, 1)) (hv : x.toInt32 = v) (hp : pc + 1 = pc') (k : Go p e below P (T.setTop (mkF m pc' Ls (.int v :: rest)))) : Go p e below P (T.setTop (mkF m pc Ls (.long x :: rest))) := by
  subst hp; subst hv; exact Go.on (fun t => XS.l2i X.here B.1 rfl (hb B.2.1 hd) rfl) k
theorem s_ineg (B : Ctx p s m meth c Z own nm bytes maxL ret) (X : Stand p l e R s m args below meth c T locs cells slots) {x : Int32} {v : Int32} (hd : decode bytes pc = .ok (.ineg, 1)) (hv : -x = v) (hp : pc + 1 = pc') (k : Go p e below P (T.setTop (mkF m pc' Ls (.int v :: rest)))) : Go p e below P (T.setTop (mkF m pc Ls (.int x :: rest))) := by
  subst hp; subst hv; exact Go.on (fun t => XS.ineg X.here B.1 rfl (hb B.2.1 hd) rfl) k
theorem s_lneg (B : Ctx p s m meth c Z own nm bytes maxL ret) (X : Stand p l e R s m args below meth c T locs cells slots) {x : Int64} {v : Int64} (hd : decode bytes pc = .ok (.lneg, 1)) (hv : -x = v) (hp : pc + 1 = pc') (k : Go p e below P (T.setTop (mkF m pc' Ls (.long v :: rest)))) : Go p e below P (T.setTop (mkF m pc Ls (.long x :: rest))) := by
  subst hp; subst hv; exact Go.on (fun t => XS.lneg X.here B.1 rfl (hb B.2.1 hd) rfl) k
theorem s_lcmp (B : Ctx p s m meth c Z own nm bytes maxL ret) (X : Stand p l e R s m args below meth c T locs cells slots) {x y : Int64} (hd : decode bytes pc = .ok (.lcmp, 1))  (hp : pc + 1 = pc') (k : Go p e below P (T.setTop (mkF m pc' Ls (.int (lcmpW x y) :: rest)))) : Go p e below P (T.setTop (mkF m pc Ls (.long y :: .long x :: rest))) := by
  subst hp; exact Go.on (fun t => XS.lcmp X.here B.1 rfl (hb B.2.1 hd) rfl) k
theorem s_dup (B : Ctx p s m meth c Z own nm bytes maxL ret) (X : Stand p l e R s m args below meth c T locs cells slots) {v : Value} (hd : decode bytes pc = .ok (.dup, 1)) (hc : v.category = 1) (hp : pc + 1 = pc') (k : Go p e below P (T.setTop (mkF m pc' Ls (v :: v :: rest)))) : Go p e below P (T.setTop (mkF m pc Ls (v :: rest))) := by
  subst hp; exact Go.on (fun t => XS.dup X.here B.1 rfl (hb B.2.1 hd) rfl hc) k
theorem s_pop (B : Ctx p s m meth c Z own nm bytes maxL ret) (X : Stand p l e R s m args below meth c T locs cells slots) {v : Value} (hd : decode bytes pc = .ok (.pop, 1)) (hc : v.category = 1) (hp : pc + 1 = pc') (k : Go p e below P (T.setTop (mkF m pc' Ls (rest)))) : Go p e below P (T.setTop (mkF m pc Ls (v :: rest))) := by
  subst hp; exact Go.on (fun t => XS.pop X.here B.1 rfl (hb B.2.1 hd) rfl hc) k
theorem s_swap (B : Ctx p s m meth c Z own nm bytes maxL ret) (X : Stand p l e R s m args below meth c T locs cells slots) {v w : Value} (hd : decode bytes pc = .ok (.swap, 1)) (hc : v.category = 1) (hc2 : w.category = 1) (hp : pc + 1 = pc') (k : Go p e below P (T.setTop (mkF m pc' Ls (w :: v :: rest)))) : Go p e below P (T.setTop (mkF m pc Ls (v :: w :: rest))) := by
  subst hp; exact Go.on (fun t => XS.swap X.here B.1 rfl (hb B.2.1 hd) rfl hc hc2) k
theorem s_dup_x1 (B : Ctx p s m meth c Z own nm bytes maxL ret) (X : Stand p l e R s m args below meth c T locs cells slots) {v w : Value} (hd : decode bytes pc = .ok (.dup_x1, 1)) (hc : v.category = 1) (hc2 : w.category = 1) (hp : pc + 1 = pc') (k : Go p e below P (T.setTop (mkF m pc' Ls (v :: w :: v :: rest)))) : Go p e below P (T.setTop (mkF m pc Ls (v :: w :: rest))) := by
  subst hp; exact Go.on (fun t => XS.dupX1 X.here B.1 rfl (hb B.2.1 hd) rfl hc hc2) k
theorem s_dup2 (B : Ctx p s m meth c Z own nm bytes maxL ret) (X : Stand p l e R s m args below meth c T locs cells slots) {v w : Value} (hd : decode bytes pc = .ok (.dup2, 1)) (hc : v.category = 1) (hc2 : w.category = 1) (hp : pc + 1 = pc') (k : Go p e below P (T.setTop (mkF m pc' Ls (v :: w :: v :: w :: rest)))) : Go p e below P (T.setTop (mkF m pc Ls (v :: w :: rest))) := by
  subst hp; exact Go.on (fun t => XT.dup2 X.here B.1 rfl (hb B.2.1 hd) rfl hc hc2) k
theorem s_iinc (B : Ctx p s m meth c Z own nm bytes maxL ret) (X : Stand p l e R s m args below meth c T locs cells slots) {k0 : Nat} {i : Int} {x v : Int32} (hd : decode bytes pc = .ok (.iinc k0 i, 3)) (hl : Ls[k0]? = some (.val (.int x))) (hv : x + Int32.ofInt i = v) (hl' : storeLocals Ls k0 (.int v) = some Ls') (hp : pc + 3 = pc') (k : Go p e below P (T.setTop (mkF m pc' Ls' (rest)))) : Go p e below P (T.setTop (mkF m pc Ls (rest))) := by
  subst hp; subst hv; exact Go.on (fun t => XS.iinc X.here B.1 rfl (hb B.2.1 hd) hl hl') k
theorem s_goto (B : Ctx p s m meth c Z own nm bytes maxL ret) (X : Stand p l e R s m args below meth c T locs cells slots)  {o : Int} (hd : decode bytes pc = .ok (.goto o, 3))  (ho : 0 ≤ (pc : Int) + o) (hp : ((pc : Int) + o).toNat = pc') (k : Go p e below P (T.setTop (mkF m pc' Ls (rest)))) : Go p e below P (T.setTop (mkF m pc Ls (rest))) := Go.on (fun t => XS.goto X.here B.1 rfl rfl (hb B.2.1 hd) ho hp) k
theorem s_ifY (B : Ctx p s m meth c Z own nm bytes maxL ret) (X : Stand p l e R s m args below meth c T locs cells slots) {cd : ClassFile.Cond} {x : Int32} {o : Int} (hd : decode bytes pc = .ok (.ifCond cd o, 3)) (hc : ifCond.holds cd x = true) (ho : 0 ≤ (pc : Int) + o) (hp : ((pc : Int) + o).toNat = pc') (k : Go p e below P (T.setTop (mkF m pc' Ls (rest)))) : Go p e below P (T.setTop (mkF m pc Ls (.int x :: rest))) := Go.on (fun t => XS.ifYes X.here B.1 rfl rfl (hb B.2.1 hd) rfl hc ho hp) k
theorem s_ifN (B : Ctx p s m meth c Z own nm bytes maxL ret) (X : Stand p l e R s m args below meth c T locs cells slots) {cd : ClassFile.Cond} {x : Int32} {o : Int} (hd : decode bytes pc = .ok (.ifCond cd o, 3)) (hc : ifCond.holds cd x = false) (hp : pc + 3 = pc') (k : Go p e below P (T.setTop (mkF m pc' Ls (rest)))) : Go p e below P (T.setTop (mkF m pc Ls (.int x :: rest))) := by
  subst hp; exact Go.on (fun t => XS.ifNo X.here B.1 rfl (hb B.2.1 hd) rfl hc) k
theorem s_icmpY (B : Ctx p s m meth c Z own nm bytes maxL ret) (X : Stand p l e R s m args below meth c T locs cells slots) {cd : ClassFile.Cond} {x y : Int32} {o : Int} (hd : decode bytes pc = .ok (.if_icmp cd o, 3)) (hc : if_icmp.holds cd x y = true) (ho : 0 ≤ (pc : Int) + o) (hp : ((pc : Int) + o).toNat = pc') (k : Go p e below P (T.setTop (mkF m pc' Ls (rest)))) : Go p e below P (T.setTop (mkF m pc Ls (.int y :: .int x :: rest))) := Go.on (fun t => XS.icmpYes X.here B.1 rfl rfl (hb B.2.1 hd) rfl hc ho hp) k
theorem s_icmpN (B : Ctx p s m meth c Z own nm bytes maxL ret) (X : Stand p l e R s m args below meth c T locs cells slots) {cd : ClassFile.Cond} {x y : Int32} {o : Int} (hd : decode bytes pc = .ok (.if_icmp cd o, 3)) (hc : if_icmp.holds cd x y = false) (hp : pc + 3 = pc') (k : Go p e below P (T.setTop (mkF m pc' Ls (rest)))) : Go p e below P (T.setTop (mkF m pc Ls (.int y :: .int x :: rest))) := by
  subst hp; exact Go.on (fun t => XS.icmpNo X.here B.1 rfl (hb B.2.1 hd) rfl hc) k
theorem s_ifnullY (B : Ctx p s m meth c Z own nm bytes maxL ret) (X : Stand p l e R s m args below meth c T locs cells slots)  {o : Int} (hd : decode bytes pc = .ok (.ifnull o, 3))  (ho : 0 ≤ (pc : Int) + o) (hp : ((pc : Int) + o).toNat = pc') (k : Go p e below P (T.setTop (mkF m pc' Ls (rest)))) : Go p e below P (T.setTop (mkF m pc Ls (.null :: rest))) := Go.on (fun t => XS.ifnullYes X.here B.1 rfl rfl (hb B.2.1 hd) rfl ho hp) k
theorem s_ifnullN (B : Ctx p s m meth c Z own nm bytes maxL ret) (X : Stand p l e R s m args below meth c T locs cells slots) {b : Addr} {o : Int} (hd : decode bytes pc = .ok (.ifnull o, 3))  (hp : pc + 3 = pc') (k : Go p e below P (T.setTop (mkF m pc' Ls (rest)))) : Go p e below P (T.setTop (mkF m pc Ls (.ref b :: rest))) := by
  subst hp; exact Go.on (fun t => XS.ifnullNo X.here B.1 rfl (hb B.2.1 hd) rfl) k
theorem s_ifnonnullY (B : Ctx p s m meth c Z own nm bytes maxL ret) (X : Stand p l e R s m args below meth c T locs cells slots) {b : Addr} {o : Int} (hd : decode bytes pc = .ok (.ifnonnull o, 3))  (ho : 0 ≤ (pc : Int) + o) (hp : ((pc : Int) + o).toNat = pc') (k : Go p e below P (T.setTop (mkF m pc' Ls (rest)))) : Go p e below P (T.setTop (mkF m pc Ls (.ref b :: rest))) := Go.on (fun t => XS.ifnonnullYes X.here B.1 rfl rfl (hb B.2.1 hd) rfl ho hp) k
theorem s_ifnonnullN (B : Ctx p s m meth c Z own nm bytes maxL ret) (X : Stand p l e R s m args below meth c T locs cells slots)  {o : Int} (hd : decode bytes pc = .ok (.ifnonnull o, 3))  (hp : pc + 3 = pc') (k : Go p e below P (T.setTop (mkF m pc' Ls (rest)))) : Go p e below P (T.setTop (mkF m pc Ls (.null :: rest))) := by
  subst hp; exact Go.on (fun t => XS.ifnonnullNo X.here B.1 rfl (hb B.2.1 hd) rfl) k
theorem b_icmp_eq (B : Ctx p s m meth c Z own nm bytes maxL ret) (X : Stand p l e R s m args below meth c T locs cells slots) {x y : Int32} {o : Int} {py pn : Nat} (hd : decode bytes pc = .ok (.if_icmp .eq o, 3)) (ho : 0 ≤ (pc : Int) + o) (hy : ((pc : Int) + o).toNat = py) (hn : pc + 3 = pn) (k1 : x = y → Go p e below P (T.setTop (mkF m py Ls (rest)))) (k2 : ¬ x = y → Go p e below P (T.setTop (mkF m pn Ls (rest)))) : Go p e below P (T.setTop (mkF m pc Ls (.int y :: .int x :: rest))) := by
  by_cases q : x = y
  · exact s_icmpY B X hd (teq q).1 ho hy (k1 q)
  · exact s_icmpN B X hd (feq q).1 hn (k2 q)
theorem b_if_eq (B : Ctx p s m meth c Z own nm bytes maxL ret) (X : Stand p l e R s m args below meth c T locs cells slots) {x : Int32} {o : Int} {py pn : Nat} (hd : decode bytes pc = .ok (.ifCond .eq o, 3)) (ho : 0 ≤ (pc : Int) + o) (hy : ((pc : Int) + o).toNat = py) (hn : pc + 3 = pn) (k1 : x = 0 → Go p e below P (T.setTop (mkF m py Ls (rest)))) (k2 : ¬ x = 0 → Go p e below P (T.setTop (mkF m pn Ls (rest)))) : Go p e below P (T.setTop (mkF m pc Ls (.int x :: rest))) := by
  by_cases q : x = 0
  · exact s_ifY B X hd ((if0 _ _).trans (teq q).1) ho hy (k1 q)
  · exact s_ifN B X hd ((if0 _ _).trans (feq q).1) hn (k2 q)
theorem b_icmp_ne (B : Ctx p s m meth c Z own nm bytes maxL ret) (X : Stand p l e R s m args below meth c T locs cells slots) {x y : Int32} {o : Int} {py pn : Nat} (hd : decode bytes pc = .ok (.if_icmp .ne o, 3)) (ho : 0 ≤ (pc : Int) + o) (hy : ((pc : Int) + o).toNat = py) (hn : pc + 3 = pn) (k1 : ¬ x = y → Go p e below P (T.setTop (mkF m py Ls (rest)))) (k2 : x = y → Go p e below P (T.setTop (mkF m pn Ls (rest)))) : Go p e below P (T.setTop (mkF m pc Ls (.int y :: .int x :: rest))) := by
  by_cases q : x = y
  · exact s_icmpN B X hd (teq q).2 hn (k2 q)
  · exact s_icmpY B X hd (feq q).2 ho hy (k1 q)
theorem b_if_ne (B : Ctx p s m meth c Z own nm bytes maxL ret) (X : Stand p l e R s m args below meth c T locs cells slots) {x : Int32} {o : Int} {py pn : Nat} (hd : decode bytes pc = .ok (.ifCond .ne o, 3)) (ho : 0 ≤ (pc : Int) + o) (hy : ((pc : Int) + o).toNat = py) (hn : pc + 3 = pn) (k1 : ¬ x = 0 → Go p e below P (T.setTop (mkF m py Ls (rest)))) (k2 : x = 0 → Go p e below P (T.setTop (mkF m pn Ls (rest)))) : Go p e below P (T.setTop (mkF m pc Ls (.int x :: rest))) := by
  by_cases q : x = 0
  · exact s_ifN B X hd ((if0 _ _).trans (teq q).2) hn (k2 q)
  · exact s_ifY B X hd ((if0 _ _).trans (feq q).2) ho hy (k1 q)
theorem b_icmp_lt (B : Ctx p s m meth c Z own nm bytes maxL ret) (X : Stand p l e R s m args below meth c T locs cells slots) {x y : Int32} {o : Int} {py pn : Nat} (hd : decode bytes pc = .ok (.if_icmp .lt o, 3)) (ho : 0 ≤ (pc : Int) + o) (hy : ((pc : Int) + o).toNat = py) (hn : pc + 3 = pn) (k1 : x < y → Go p e below P (T.setTop (mkF m py Ls (rest)))) (k2 : ¬ x < y → Go p e below P (T.setTop (mkF m pn Ls (rest)))) : Go p e below P (T.setTop (mkF m pc Ls (.int y :: .int x :: rest))) := by
  by_cases q : x < y
  · exact s_icmpY B X hd (tlt q).1 ho hy (k1 q)
  · exact s_icmpN B X hd (flt q).1 hn (k2 q)
theorem b_if_lt (B : Ctx p s m meth c Z own nm bytes maxL ret) (X : Stand p l e R s m args below meth c T locs cells slots) {x : Int32} {o : Int} {py pn : Nat} (hd : decode bytes pc = .ok (.ifCond .lt o, 3)) (ho : 0 ≤ (pc : Int) + o) (hy : ((pc : Int) + o).toNat = py) (hn : pc + 3 = pn) (k1 : x < 0 → Go p e below P (T.setTop (mkF m py Ls (rest)))) (k2 : ¬ x < 0 → Go p e below P (T.setTop (mkF m pn Ls (rest)))) : Go p e below P (T.setTop (mkF m pc Ls (.int x :: rest))) := by
  by_cases q : x < 0
  · exact s_ifY B X hd ((if0 _ _).trans (tlt q).1) ho hy (k1 q)
  · exact s_ifN B X hd ((if0 _ _).trans (flt q).1) hn (k2 q)
theorem b_icmp_ge (B : Ctx p s m meth c Z own nm bytes maxL ret) (X : Stand p l e R s m args below meth c T locs cells slots) {x y : Int32} {o : Int} {py pn : Nat} (hd : decode bytes pc = .ok (.if_icmp .ge o, 3)) (ho : 0 ≤ (pc : Int) + o) (hy : ((pc : Int) + o).toNat = py) (hn : pc + 3 = pn) (k1 : ¬ x < y → Go p e below P (T.setTop (mkF m py Ls (rest)))) (k2 : x < y → Go p e below P (T.setTop (mkF m pn Ls (rest)))) : Go p e below P (T.setTop (mkF m pc Ls (.int y :: .int x :: rest))) := by
  by_cases q : x < y
  · exact s_icmpN B X hd (tlt q).2.1 hn (k2 q)
  · exact s_icmpY B X hd (flt q).2.1 ho hy (k1 q)
theorem b_if_ge (B : Ctx p s m meth c Z own nm bytes maxL ret) (X : Stand p l e R s m args below meth c T locs cells slots) {x : Int32} {o : Int} {py pn : Nat} (hd : decode bytes pc = .ok (.ifCond .ge o, 3)) (ho : 0 ≤ (pc : Int) + o) (hy : ((pc : Int) + o).toNat = py) (hn : pc + 3 = pn) (k1 : ¬ x < 0 → Go p e below P (T.setTop (mkF m py Ls (rest)))) (k2 : x < 0 → Go p e below P (T.setTop (mkF m pn Ls (rest)))) : Go p e below P (T.setTop (mkF m pc Ls (.int x :: rest))) := by
  by_cases q : x < 0
  · exact s_ifN B X hd ((if0 _ _).trans (tlt q).2.1) hn (k2 q)
  · exact s_ifY B X hd ((if0 _ _).trans (flt q).2.1) ho hy (k1 q)
theorem b_icmp_gt (B : Ctx p s m meth c Z own nm bytes maxL ret) (X : Stand p l e R s m args below meth c T locs cells slots) {x y : Int32} {o : Int} {py pn : Nat} (hd : decode bytes pc = .ok (.if_icmp .gt o, 3)) (ho : 0 ≤ (pc : Int) + o) (hy : ((pc : Int) + o).toNat = py) (hn : pc + 3 = pn) (k1 : y < x → Go p e below P (T.setTop (mkF m py Ls (rest)))) (k2 : ¬ y < x → Go p e below P (T.setTop (mkF m pn Ls (rest)))) : Go p e below P (T.setTop (mkF m pc Ls (.int y :: .int x :: rest))) := by
  by_cases q : y < x
  · exact s_icmpY B X hd (tlt q).2.2.1 ho hy (k1 q)
  · exact s_icmpN B X hd (flt q).2.2.1 hn (k2 q)
theorem b_if_gt (B : Ctx p s m meth c Z own nm bytes maxL ret) (X : Stand p l e R s m args below meth c T locs cells slots) {x : Int32} {o : Int} {py pn : Nat} (hd : decode bytes pc = .ok (.ifCond .gt o, 3)) (ho : 0 ≤ (pc : Int) + o) (hy : ((pc : Int) + o).toNat = py) (hn : pc + 3 = pn) (k1 : 0 < x → Go p e below P (T.setTop (mkF m py Ls (rest)))) (k2 : ¬ 0 < x → Go p e below P (T.setTop (mkF m pn Ls (rest)))) : Go p e below P (T.setTop (mkF m pc Ls (.int x :: rest))) := by
  by_cases q : 0 < x
  · exact s_ifY B X hd ((if0 _ _).trans (tlt q).2.2.1) ho hy (k1 q)
  · exact s_ifN B X hd ((if0 _ _).trans (flt q).2.2.1) hn (k2 q)
theorem b_icmp_le (B : Ctx p s m meth c Z own nm bytes maxL ret) (X : Stand p l e R s m args below meth c T locs cells slots) {x y : Int32} {o : Int} {py pn : Nat} (hd : decode bytes pc = .ok (.if_icmp .le o, 3)) (ho : 0 ≤ (pc : Int) + o) (hy : ((pc : Int) + o).toNat = py) (hn : pc + 3 = pn) (k1 : ¬ y < x → Go p e below P (T.setTop (mkF m py Ls (rest)))) (k2 : y < x → Go p e below P (T.setTop (mkF m pn Ls (rest)))) : Go p e below P (T.setTop (mkF m pc Ls (.int y :: .int x :: rest))) := by
  by_cases q : y < x
  · exact s_icmpN B X hd (tlt q).2.2.2 hn (k2 q)
  · exact s_icmpY B X hd (flt q).2.2.2 ho hy (k1 q)
theorem b_if_le (B : Ctx p s m meth c Z own nm bytes maxL ret) (X : Stand p l e R s m args below meth c T locs cells slots) {x : Int32} {o : Int} {py pn : Nat} (hd : decode bytes pc = .ok (.ifCond .le o, 3)) (ho : 0 ≤ (pc : Int) + o) (hy : ((pc : Int) + o).toNat = py) (hn : pc + 3 = pn) (k1 : ¬ 0 < x → Go p e below P (T.setTop (mkF m py Ls (rest)))) (k2 : 0 < x → Go p e below P (T.setTop (mkF m pn Ls (rest)))) : Go p e below P (T.setTop (mkF m pc Ls (.int x :: rest))) := by
  by_cases q : 0 < x
  · exact s_ifN B X hd ((if0 _ _).trans (tlt q).2.2.2) hn (k2 q)
  · exact s_ifY B X hd ((if0 _ _).trans (flt q).2.2.2) ho hy (k1 q)
theorem b_lcmp_eq (B : Ctx p s m meth c Z own nm bytes maxL ret) (X : Stand p l e R s m args below meth c T locs cells slots) {x y : Int64} {pc0 : Nat} {o : Int} {py pn : Nat} (hd0 : decode bytes pc0 = .ok (.lcmp, 1)) (hp0 : pc0 + 1 = pc) (hd : decode bytes pc = .ok (.ifCond .eq o, 3)) (ho : 0 ≤ (pc : Int) + o) (hy : ((pc : Int) + o).toNat = py) (hn : pc + 3 = pn) (k1 : x = y → Go p e below P (T.setTop (mkF m py Ls (rest)))) (k2 : ¬ x = y → Go p e below P (T.setTop (mkF m pn Ls (rest)))) : Go p e below P (T.setTop (mkF m pc0 Ls (.long y :: .long x :: rest))) := by
  by_cases q : x = y
  · exact s_lcmp B X hd0 hp0 (s_ifY B X hd ((if0 _ _).trans (teq ((lw_eq x y).mpr q)).1) ho hy (k1 q))
  · exact s_lcmp B X hd0 hp0 (s_ifN B X hd ((if0 _ _).trans (feq (fun z => q ((lw_eq x y).mp z))).1) hn (k2 q))
theorem b_lcmp_ne (B : Ctx p s m meth c Z own nm bytes maxL ret) (X : Stand p l e R s m args below meth c T locs cells slots) {x y : Int64} {pc0 : Nat} {o : Int} {py pn : Nat} (hd0 : decode bytes pc0 = .ok (.lcmp, 1)) (hp0 : pc0 + 1 = pc) (hd : decode bytes pc = .ok (.ifCond .ne o, 3)) (ho : 0 ≤ (pc : Int) + o) (hy : ((pc : Int) + o).toNat = py) (hn : pc + 3 = pn) (k1 : ¬ x = y → Go p e below P (T.setTop (mkF m py Ls (rest)))) (k2 : x = y → Go p e below P (T.setTop (mkF m pn Ls (rest)))) : Go p e below P (T.setTop (mkF m pc0 Ls (.long y :: .long x :: rest))) := by
  by_cases q : x = y
  · exact s_lcmp B X hd0 hp0 (s_ifN B X hd ((if0 _ _).trans (teq ((lw_eq x y).mpr q)).2) hn (k2 q))
  · exact s_lcmp B X hd0 hp0 (s_ifY B X hd ((if0 _ _).trans (feq (fun z => q ((lw_eq x y).mp z))).2) ho hy (k1 q))
theorem b_lcmp_lt (B : Ctx p s m meth c Z own nm bytes maxL ret) (X : Stand p l e R s m args below meth c T locs cells slots) {x y : Int64} {pc0 : Nat} {o : Int} {py pn : Nat} (hd0 : decode bytes pc0 = .ok (.lcmp, 1)) (hp0 : pc0 + 1 = pc) (hd : decode bytes pc = .ok (.ifCond .lt o, 3)) (ho : 0 ≤ (pc : Int) + o) (hy : ((pc : Int) + o).toNat = py) (hn : pc + 3 = pn) (k1 : x < y → Go p e below P (T.setTop (mkF m py Ls (rest)))) (k2 : ¬ x < y → Go p e below P (T.setTop (mkF m pn Ls (rest)))) : Go p e below P (T.setTop (mkF m pc0 Ls (.long y :: .long x :: rest))) := by
  by_cases q : x < y
  · exact s_lcmp B X hd0 hp0 (s_ifY B X hd ((if0 _ _).trans (tlt ((lw_lt x y).mpr q)).1) ho hy (k1 q))
  · exact s_lcmp B X hd0 hp0 (s_ifN B X hd ((if0 _ _).trans (flt (fun z => q ((lw_lt x y).mp z))).1) hn (k2 q))
theorem b_lcmp_ge (B : Ctx p s m meth c Z own nm bytes maxL ret) (X : Stand p l e R s m args below meth c T locs cells slots) {x y : Int64} {pc0 : Nat} {o : Int} {py pn : Nat} (hd0 : decode bytes pc0 = .ok (.lcmp, 1)) (hp0 : pc0 + 1 = pc) (hd : decode bytes pc = .ok (.ifCond .ge o, 3)) (ho : 0 ≤ (pc : Int) + o) (hy : ((pc : Int) + o).toNat = py) (hn : pc + 3 = pn) (k1 : ¬ x < y → Go p e below P (T.setTop (mkF m py Ls (rest)))) (k2 : x < y → Go p e below P (T.setTop (mkF m pn Ls (rest)))) : Go p e below P (T.setTop (mkF m pc0 Ls (.long y :: .long x :: rest))) := by
  by_cases q : x < y
  · exact s_lcmp B X hd0 hp0 (s_ifN B X hd ((if0 _ _).trans (tlt ((lw_lt x y).mpr q)).2.1) hn (k2 q))
  · exact s_lcmp B X hd0 hp0 (s_ifY B X hd ((if0 _ _).trans (flt (fun z => q ((lw_lt x y).mp z))).2.1) ho hy (k1 q))
theorem b_lcmp_gt (B : Ctx p s m meth c Z own nm bytes maxL ret) (X : Stand p l e R s m args below meth c T locs cells slots) {x y : Int64} {pc0 : Nat} {o : Int} {py pn : Nat} (hd0 : decode bytes pc0 = .ok (.lcmp, 1)) (hp0 : pc0 + 1 = pc) (hd : decode bytes pc = .ok (.ifCond .gt o, 3)) (ho : 0 ≤ (pc : Int) + o) (hy : ((pc : Int) + o).toNat = py) (hn : pc + 3 = pn) (k1 : y < x → Go p e below P (T.setTop (mkF m py Ls (rest)))) (k2 : ¬ y < x → Go p e below P (T.setTop (mkF m pn Ls (rest)))) : Go p e below P (T.setTop (mkF m pc0 Ls (.long y :: .long x :: rest))) := by
  by_cases q : y < x
  · exact s_lcmp B X hd0 hp0 (s_ifY B X hd ((if0 _ _).trans (tlt ((lw_gt x y).mpr q)).2.2.1) ho hy (k1 q))
  · exact s_lcmp B X hd0 hp0 (s_ifN B X hd ((if0 _ _).trans (flt (fun z => q ((lw_gt x y).mp z))).2.2.1) hn (k2 q))
theorem b_lcmp_le (B : Ctx p s m meth c Z own nm bytes maxL ret) (X : Stand p l e R s m args below meth c T locs cells slots) {x y : Int64} {pc0 : Nat} {o : Int} {py pn : Nat} (hd0 : decode bytes pc0 = .ok (.lcmp, 1)) (hp0 : pc0 + 1 = pc) (hd : decode bytes pc = .ok (.ifCond .le o, 3)) (ho : 0 ≤ (pc : Int) + o) (hy : ((pc : Int) + o).toNat = py) (hn : pc + 3 = pn) (k1 : ¬ y < x → Go p e below P (T.setTop (mkF m py Ls (rest)))) (k2 : y < x → Go p e below P (T.setTop (mkF m pn Ls (rest)))) : Go p e below P (T.setTop (mkF m pc0 Ls (.long y :: .long x :: rest))) := by
  by_cases q : y < x
  · exact s_lcmp B X hd0 hp0 (s_ifN B X hd ((if0 _ _).trans (tlt ((lw_gt x y).mpr q)).2.2.2) hn (k2 q))
  · exact s_lcmp B X hd0 hp0 (s_ifY B X hd ((if0 _ _).trans (flt (fun z => q ((lw_gt x y).mp z))).2.2.2) ho hy (k1 q))
theorem b_acmp_eq (B : Ctx p s m meth c Z own nm bytes maxL ret) (X : Stand p l e R s m args below meth c T locs cells slots) {a b : Addr} {o : Int} {py pn : Nat} (hd : decode bytes pc = .ok (.if_acmp .eq o, 3)) (ho : 0 ≤ (pc : Int) + o) (hy : ((pc : Int) + o).toNat = py) (hn : pc + 3 = pn) (k1 : a = b → Go p e below P (T.setTop (mkF m py Ls (rest)))) (k2 : ¬ a = b → Go p e below P (T.setTop (mkF m pn Ls (rest)))) : Go p e below P (T.setTop (mkF m pc Ls (.ref b :: .ref a :: rest))) := by
  by_cases q : a = b
  · exact Go.on (fun t => Jvm.RoadKit.acmp X B.1 rfl rfl rfl (same := true) rfl (hb B.2.1 hd) rfl (decide_eq_true (congrArg Value.ref q)) ho (by simp [acV, hy])) (k1 q)
  · exact Go.on (fun t => Jvm.RoadKit.acmp X B.1 rfl rfl rfl (same := false) rfl (hb B.2.1 hd) rfl (decide_eq_false fun z => q (Value.ref.inj z)) ho (by simp [acV, hn])) (k2 q)
theorem b_acmp_ne (B : Ctx p s m meth c Z own nm bytes maxL ret) (X : Stand p l e R s m args below meth c T locs cells slots) {a b : Addr} {o : Int} {py pn : Nat} (hd : decode bytes pc = .ok (.if_acmp .ne o, 3)) (ho : 0 ≤ (pc : Int) + o) (hy : ((pc : Int) + o).toNat = py) (hn : pc + 3 = pn) (k1 : ¬ a = b → Go p e below P (T.setTop (mkF m py Ls (rest)))) (k2 : a = b → Go p e below P (T.setTop (mkF m pn Ls (rest)))) : Go p e below P (T.setTop (mkF m pc Ls (.ref b :: .ref a :: rest))) := by
  by_cases q : a = b
  · exact Go.on (fun t => Jvm.RoadKit.acmp X B.1 rfl rfl rfl (same := true) rfl (hb B.2.1 hd) rfl (decide_eq_true (congrArg Value.ref q)) ho (by simp [acV, hn])) (k2 q)
  · exact Go.on (fun t => Jvm.RoadKit.acmp X B.1 rfl rfl rfl (same := false) rfl (hb B.2.1 hd) rfl (decide_eq_false fun z => q (Value.ref.inj z)) ho (by simp [acV, hy])) (k1 q)
theorem b_ifnull (B : Ctx p s m meth c Z own nm bytes maxL ret) (X : Stand p l e R s m args below meth c T locs cells slots) {v : Value} {o : Int} {py pn : Nat} (hv : v.isRef = true) (hd : decode bytes pc = .ok (.ifnull o, 3)) (ho : 0 ≤ (pc : Int) + o) (hy : ((pc : Int) + o).toNat = py) (hn : pc + 3 = pn) (k1 : v = .null → Go p e below P (T.setTop (mkF m py Ls (rest)))) (k2 : ¬ v = .null → Go p e below P (T.setTop (mkF m pn Ls (rest)))) : Go p e below P (T.setTop (mkF m pc Ls (v :: rest))) := by
  rcases ref_cases hv with rfl | ⟨a, rfl⟩
  · exact s_ifnullY B X hd ho hy (k1 rfl)
  · exact s_ifnullN B X hd hn (k2 nofun)
theorem b_ifnonnull (B : Ctx p s m meth c Z own nm bytes maxL ret) (X : Stand p l e R s m args below meth c T locs cells slots) {v : Value} {o : Int} {py pn : Nat} (hv : v.isRef = true) (hd : decode bytes pc = .ok (.ifnonnull o, 3)) (ho : 0 ≤ (pc : Int) + o) (hy : ((pc : Int) + o).toNat = py) (hn : pc + 3 = pn) (k1 : ¬ v = .null → Go p e below P (T.setTop (mkF m py Ls (rest)))) (k2 : v = .null → Go p e below P (T.setTop (mkF m pn Ls (rest)))) : Go p e below P (T.setTop (mkF m pc Ls (v :: rest))) := by
  rcases ref_cases hv with rfl | ⟨a, rfl⟩
  · exact s_ifnonnullN B X hd hn (k2 rfl)
  · exact s_ifnonnullY B X hd ho hy (k1 nofun)
theorem s_ldc (B : Ctx p s m meth c Z own nm bytes maxL ret) (X : Stand p l e R s m args below meth c T locs cells slots) {i : Nat} {v : Int32} (w : (Jvm.Cond.constant own i v).before a0 Z = true) (hd : decode bytes pc = .ok (.ldc i, 2)) (hp : pc + 2 = pc') (k : Go p e below P (T.setTop (mkF m pc' Ls (.int v :: rest)))) : Go p e below P (T.setTop (mkF m pc Ls (rest))) := by
  subst hp; exact Go.on (fun t => X.ldcI B.1 B.2.2.2.1 (mv B.2.2.2.2.2.2.2 w) rfl (hb B.2.1 hd)) k
theorem s_ldc2 (B : Ctx p s m meth c Z own nm bytes maxL ret) (X : Stand p l e R s m args below meth c T locs cells slots) {i : Nat} {v : Int64} (w : (Jvm.Cond.constantLong own i v).before a0 Z = true) (hd : decode bytes pc = .ok (.ldc2_w i, 3)) (hp : pc + 3 = pc') (k : Go p e below P (T.setTop (mkF m pc' Ls (.long v :: rest)))) : Go p e below P (T.setTop (mkF m pc Ls (rest))) := by
  subst hp; exact Go.on (fun t => X.ldc2J B.1 B.2.2.2.1 (mv B.2.2.2.2.2.2.2 w) rfl (hb B.2.1 hd)) k
theorem s_getS (B : Ctx p s m meth c Z own nm bytes maxL ret) (X : Stand p l e R s m args below meth c T locs cells slots) {i : Nat} {R0 O n d : String} {v : Value} (eT : T.heap = h) (w : (Jvm.Cond.fieldLink own i R0 n d).before a0 Z = true) (via : Via Z R0 O n d) (F : Sta Z h O n d v) (hd : decode bytes pc = .ok (.getstatic i, 3)) (hp : pc + 3 = pc') (k : ∀ T', Stand p l e R s m args below meth c T' locs cells slots → T'.heap = h → Go p e below P (T'.setTop (mkF m pc' Ls (v :: rest)))) : Go p e below P (T.setTop (mkF m pc Ls (rest))) := by
  subst hp
  obtain ⟨T', X', e', st⟩ := getS X B.1 B.2.2.2.2.2.2.2 (host := "") B.2.2.2.1 w via eT F (g := mkF m pc Ls rest) rfl (hb B.2.1 hd)
  exact Go.on st (k T' X' e')
theorem s_getF (B : Ctx p s m meth c Z own nm bytes maxL ret) (X : Stand p l e R s m args below meth c T locs cells slots) {i : Nat} {R0 O n d host : String} {a : Addr} {v : Value} (eT : T.heap = h) (w : (Jvm.Cond.fieldLink own i R0 n d).before a0 Z = true ∨ (Jvm.Cond.fieldLinkNest own i R0 n d host).before a0 Z = true) (via : Via Z R0 O n d) (F : Fld Z h a O n d v) (hd : decode bytes pc = .ok (.getfield i, 3)) (hp : pc + 3 = pc') (k : ∀ T', Stand p l e R s m args below meth c T' locs cells slots → T'.heap = h → Go p e below P (T'.setTop (mkF m pc' Ls (v :: rest)))) : Go p e below P (T.setTop (mkF m pc Ls (.ref a :: rest))) := by
  subst hp
  obtain ⟨T', X', e', st⟩ := getF X B.1 B.2.2.2.2.2.2.2 B.2.2.2.1 w via eT F (g := mkF m pc Ls (.ref a :: rest)) rfl rfl (hb B.2.1 hd)
  exact Go.on st (k T' X' e')
theorem r_nar (B : Ctx p s m meth c Z own nm bytes maxL ret) (X : Stand p l e R s m args below meth c T locs cells slots) {Q : Option Value → Heap → List Loc → Prop} {kc kn : Nat} {z : Int32} {t : FieldType} (ht : t = .boolean ∨ t = .byte ∨ t = .char ∨ t = .short) (hr : ret = some t) (hd : decode bytes pc = .ok (.ireturn, 1)) (hq : Q (some (.int (nar t z))) T.heap locs) (hc : cells ≤ kc) (hs : slots ≤ kn) : Go p e below (Ends s Q kc kn) (T.setTop (mkF m pc Ls (.int z :: rest))) := by
  obtain ⟨fs, hl, hrun, hended, hW, hsame⟩ := X.leave (v := (some (.int (nar t z)))) (fun h => by rw [B.2.2.2.2.2.1, hr] at h; first | rfl | cases h) B.2.2.2.2.2.2.1
  exact ⟨_, _, retN X B.1 (by rw [B.2.2.2.2.2.1, hr]) ht (hb B.2.1 hd) hl, hrun, hended, _, _, rfl, hq, ⟨_, rfl⟩, hW, hsame.mono hc hs⟩
theorem r_int (B : Ctx p s m meth c Z own nm bytes maxL ret) (X : Stand p l e R s m args below meth c T locs cells slots) {Q : Option Value → Heap → List Loc → Prop} {kc kn : Nat} {z : Int32} (hr : ret = some .int) (hd : decode bytes pc = .ok (.ireturn, 1)) (hq : Q (some (.int z)) T.heap locs) (hc : cells ≤ kc) (hs : slots ≤ kn) : Go p e below (Ends s Q kc kn) (T.setTop (mkF m pc Ls (.int z :: rest))) := by
  obtain ⟨fs, hl, hrun, hended, hW, hsame⟩ := X.leave (v := (some (.int z))) (fun h => by rw [B.2.2.2.2.2.1, hr] at h; first | rfl | cases h) B.2.2.2.2.2.2.1
  exact ⟨_, _, retOut X B.1 (t := .int) (by rw [B.2.2.2.2.2.1, hr]) rfl (Or.inl ⟨rfl, Or.inl rfl, _, rfl⟩) (hb B.2.1 hd) hl, hrun, hended, _, _, rfl, hq, ⟨_, rfl⟩, hW, hsame.mono hc hs⟩
theorem r_long (B : Ctx p s m meth c Z own nm bytes maxL ret) (X : Stand p l e R s m args below meth c T locs cells slots) {Q : Option Value → Heap → List Loc → Prop} {kc kn : Nat} {z : Int64} (hr : ret = some .long) (hd : decode bytes pc = .ok (.lreturn, 1)) (hq : Q (some (.long z)) T.heap locs) (hc : cells ≤ kc) (hs : slots ≤ kn) : Go p e below (Ends s Q kc kn) (T.setTop (mkF m pc Ls (.long z :: rest))) := by
  obtain ⟨fs, hl, hrun, hended, hW, hsame⟩ := X.leave (v := (some (.long z))) (fun h => by rw [B.2.2.2.2.2.1, hr] at h; first | rfl | cases h) B.2.2.2.2.2.2.1
  exact ⟨_, _, retOut X B.1 (t := .long) (by rw [B.2.2.2.2.2.1, hr]) rfl (Or.inr (Or.inl ⟨rfl, rfl, _, rfl⟩)) (hb B.2.1 hd) hl, hrun, hended, _, _, rfl, hq, ⟨_, rfl⟩, hW, hsame.mono hc hs⟩
theorem r_ref (B : Ctx p s m meth c Z own nm bytes maxL ret) (X : Stand p l e R s m args below meth c T locs cells slots) {Q : Option Value → Heap → List Loc → Prop} {kc kn : Nat} {v : Value} {t : FieldType} (ht : t.isReference = true) (hn : narrow t v = v) (hv : v.isRef = true) (hr : ret = some t) (hd : decode bytes pc = .ok (.areturn, 1)) (hq : Q (some v) T.heap locs) (hc : cells ≤ kc) (hs : slots ≤ kn) : Go p e below (Ends s Q kc kn) (T.setTop (mkF m pc Ls (v :: rest))) := by
  obtain ⟨fs, hl, hrun, hended, hW, hsame⟩ := X.leave (v := (some v)) (fun h => by rw [B.2.2.2.2.2.1, hr] at h; first | rfl | cases h) B.2.2.2.2.2.2.1
  exact ⟨_, _, retOut X B.1 (t := t) (by rw [B.2.2.2.2.2.1, hr]) hn (Or.inr (Or.inr (Or.inr (Or.inr ⟨rfl, ht, hv⟩)))) (hb B.2.1 hd) hl, hrun, hended, _, _, rfl, hq, ⟨_, rfl⟩, hW, hsame.mono hc hs⟩
theorem r_void (B : Ctx p s m meth c Z own nm bytes maxL ret) (X : Stand p l e R s m args below meth c T locs cells slots) {Q : Option Value → Heap → List Loc → Prop} {kc kn : Nat} (hr : ret = none) (hd : decode bytes pc = .ok (.return_, 1)) (hq : Q none T.heap locs) (hc : cells ≤ kc) (hs : slots ≤ kn) : Go p e below (Ends s Q kc kn) (T.setTop (mkF m pc Ls [])) := by
  obtain ⟨fs, hl, hrun, hended, hW, hsame⟩ := X.leave (v := none) (fun _ => rfl) B.2.2.2.2.2.2.1
  exact ⟨_, _, X.returnOut B.1 (by rw [B.2.2.2.2.2.1, hr]) (hb B.2.1 hd) hl, hrun, hended, _, _, rfl, hq, ⟨_, rfl⟩, hW, hsame.mono hc hs⟩
theorem c_virtual (B : Ctx p s m meth c Z own nm bytes maxL ret) (X : Stand p l e R s m args below meth c T locs cells slots) {y : MethodName} {bs : ByteArray} {mx : Nat} {rt : Option FieldType} {rm : Room} {i W : Nat} {argsL under : List Value} {Q : Option Value → Heap → List Loc → Prop} {st : List Value} {C : String} {b : Addr} (eT : T.heap = h) (w1 : (Jvm.Cond.methodLink own i y).before a0 Z = true) (w2 : (Jvm.Cond.declares y).before a0 Z = true) (w3 : (Jvm.Cond.selects C y y).before a0 Z = true) (w4 : (Jvm.Cond.instanceMethod y).before a0 Z = true) (wc : (Jvm.Cond.code y bs mx rt).before a0 Z = true) (wz : (Jvm.Cond.initialized y.cls).before a0 Z = true) (hy : y.cls ≠ "java/lang/invoke/MethodHandle" ∧ y.cls ≠ "java/lang/invoke/VarHandle") (hM : OMeets l Z y bs mx rt [] rm (.ref b :: argsL).toArray h Q) (E : Exa Z h b C) (hlen : ∀ sig, parseMethodDescriptor y.desc = some sig → argsL.length = sig.parameters.length) (hst : st = argsL.reverse ++ .ref b :: under) (hW : (under.map fun v => v.category).sum = W) (hf : rm.frames + 1 ≤ R.frames) (hlo : W + (mx + 11) + rm.locals ≤ R.locals) (hce : cells + rm.cells ≤ R.cells) (hsl : slots + rm.slots ≤ R.slots) (hsz : Ls.size = maxL) (hd : decode bytes pc = .ok (.invokevirtual i, 3)) (hp : pc + 3 = pc') (k : ∀ v T' L, Stand p l e R s m args below meth c T' (locs ++ L) (cells + rm.cells) (slots + rm.slots) → Q v T'.heap L → Go p e below P (T'.setTop (mkF m pc' Ls (v.toList ++ under)))) : Go p e below P (T.setTop (mkF m pc Ls st)) := by
  subst hp hst
  obtain ⟨cq, kq, qa, qb, qc⟩ := isOf B.2.2.2.2.2.2.2 eT E
  obtain ⟨v, _, ⟨T', L', k', n'⟩, -, X', ⟨Lc, hQ, l', y', z'⟩, st'⟩ := X.virtualBack B.1 (y := y) B.2.2.2.1 (mvT B.2.2.2.2.2.2.2 w1) (mvT B.2.2.2.2.2.2.2 w2) (notFace_of_selects (args := #[]) (mvT B.2.2.2.2.2.2.2 w3)) (mvT B.2.2.2.2.2.2.2 w3) (mvT B.2.2.2.2.2.2.2 w4) hy (z := y) (backOf (W := W) hM B.2.2.2.2.2.2.2 wc wz hf hlo) qa qc (g := mkF m pc Ls (argsL.reverse ++ .ref b :: under)) rfl (by rw [B.2.2.1]; exact hsz) (Steps.refl _) (argsL := argsL) (rest := under) hlen rfl (by show 2 * 0 + _ ≤ _; rw [Nat.mul_zero, Nat.zero_add]; exact Nat.le_of_eq hW) (hb B.2.1 hd) (fun _ _ => ⟨rfl, eT, hce, hsl⟩)
  dsimp only [Pt.U, Pt.locs, Pt.cells, Pt.slots] at X' l' y' z' st' hQ
  subst l' y' z'
  exact Go.on (fun t q => st'.trans q) (k v T' Lc X' hQ)
theorem c_static (B : Ctx p s m meth c Z own nm bytes maxL ret) (X : Stand p l e R s m args below meth c T locs cells slots) {y : MethodName} {bs : ByteArray} {mx : Nat} {rt : Option FieldType} {rm : Room} {i W : Nat} {argsL under : List Value} {Q : Option Value → Heap → List Loc → Prop} {st : List Value} (eT : T.heap = h) (w1 : (Jvm.Cond.methodLink own i y).before a0 Z = true) (w2 : (Jvm.Cond.static y).before a0 Z = true) (wc : (Jvm.Cond.code y bs mx rt).before a0 Z = true) (wz : (Jvm.Cond.initialized y.cls).before a0 Z = true) (hy : y.cls ≠ "java/lang/invoke/MethodHandle" ∧ y.cls ≠ "java/lang/invoke/VarHandle") (hM : OMeets l Z y bs mx rt [] rm argsL.toArray h Q) (hlen : ∀ sig, parseMethodDescriptor y.desc = some sig → argsL.length = sig.parameters.length) (hst : st = argsL.reverse ++ under) (hW : (under.map fun v => v.category).sum = W) (hf : rm.frames + 1 ≤ R.frames) (hlo : W + (mx + 11) + rm.locals ≤ R.locals) (hce : cells + rm.cells ≤ R.cells) (hsl : slots + rm.slots ≤ R.slots) (hsz : Ls.size = maxL) (hd : decode bytes pc = .ok (.invokestatic i, 3)) (hp : pc + 3 = pc') (k : ∀ v T' L, Stand p l e R s m args below meth c T' (locs ++ L) (cells + rm.cells) (slots + rm.slots) → Q v T'.heap L → Go p e below P (T'.setTop (mkF m pc' Ls (v.toList ++ under)))) : Go p e below P (T.setTop (mkF m pc Ls st)) := by
  subst hp hst
  obtain ⟨v, _, ⟨T', L', k', n'⟩, -, X', ⟨Lc, hQ, l', y', z'⟩, st'⟩ := Jvm.LawKit.callS X B.1 (y := y) B.2.2.2.1 (mvT B.2.2.2.2.2.2.2 w1) (mvT B.2.2.2.2.2.2.2 w2) (mvT B.2.2.2.2.2.2.2 wz) (mvT B.2.2.2.2.2.2.2 wc) hy (backOf (W := W) hM B.2.2.2.2.2.2.2 wc wz hf hlo) (g := mkF m pc Ls (argsL.reverse ++ under)) rfl (by rw [B.2.2.1]; exact hsz) (argsL := argsL) (rest := under) hlen rfl (by show 2 * 0 + _ ≤ _; rw [Nat.mul_zero, Nat.zero_add]; exact Nat.le_of_eq hW) (hb B.2.1 hd) (fun _ _ => ⟨rfl, eT, hce, hsl⟩)
  dsimp only [Pt.U, Pt.locs, Pt.cells, Pt.slots] at X' l' y' z' st' hQ
  subst l' y' z'
  exact Go.on st' (k v T' Lc X' hQ)
theorem c_init (B : Ctx p s m meth c Z own nm bytes maxL ret) (X : Stand p l e R s m args below meth c T locs cells slots) {y : MethodName} {bs : ByteArray} {mx : Nat} {rm : Room} {i W : Nat} {argsL under : List Value} {Q : Option Value → Heap → List Loc → Prop} {st : List Value} {b : Addr} (eT : T.heap = h) (hy1 : y.name = "<init>") (w1 : (Jvm.Cond.methodLink own i y).before a0 Z = true) (w2 : (Jvm.Cond.instanceMethod y).before a0 Z = true) (wc : (Jvm.Cond.code y bs mx none).before a0 Z = true) (wz : (Jvm.Cond.initialized y.cls).before a0 Z = true) (hy : y.cls ≠ "java/lang/invoke/MethodHandle" ∧ y.cls ≠ "java/lang/invoke/VarHandle") (hM : OMeets l Z y bs mx none [] rm (.ref b :: argsL).toArray h Q) (hlen : ∀ sig, parseMethodDescriptor y.desc = some sig → argsL.length = sig.parameters.length) (hst : st = argsL.reverse ++ .ref b :: under) (hW : (under.map fun v => v.category).sum = W) (hf : rm.frames + 1 ≤ R.frames) (hlo : W + (mx + 11) + rm.locals ≤ R.locals) (hce : cells + rm.cells ≤ R.cells) (hsl : slots + rm.slots ≤ R.slots) (hsz : Ls.size = maxL) (hd : decode bytes pc = .ok (.invokespecial i, 3)) (hp : pc + 3 = pc') (k : ∀ v T' L, Stand p l e R s m args below meth c T' (locs ++ L) (cells + rm.cells) (slots + rm.slots) → Q v T'.heap L → Go p e below P (T'.setTop (mkF m pc' Ls (v.toList ++ under)))) : Go p e below P (T.setTop (mkF m pc Ls st)) := by
  subst hp hst
  obtain ⟨v, _, ⟨T', L', k', n'⟩, -, X', ⟨Lc, hQ, l', y', z'⟩, st'⟩ := X.specialBack B.1 (y := y) hy1 B.2.2.2.1 (mvT B.2.2.2.2.2.2.2 w1) (mvT B.2.2.2.2.2.2.2 w2) (mvT B.2.2.2.2.2.2.2 wc) hy (backOf (W := W) hM B.2.2.2.2.2.2.2 wc wz hf hlo) (g := mkF m pc Ls (argsL.reverse ++ .ref b :: under)) rfl (by rw [B.2.2.1]; exact hsz) (Steps.refl _) (a := b) (argsL := argsL) (rest := under) hlen rfl (by show 2 * 0 + _ ≤ _; rw [Nat.mul_zero, Nat.zero_add]; exact Nat.le_of_eq hW) (hb B.2.1 hd) (fun _ _ => ⟨rfl, eT, hce, hsl⟩)
  dsimp only [Pt.U, Pt.locs, Pt.cells, Pt.slots] at X' l' y' z' st' hQ
  subst l' y' z'
  exact Go.on (fun t q => st'.trans q) (k v T' Lc X' hQ)
theorem p_virtual (B : Ctx p s m meth c Z own nm bytes maxL ret) (X : Stand p l e R s m args below meth c T locs cells slots) {y : MethodName} {bs : ByteArray} {mx : Nat} {rt : Option FieldType} {rm : Room} {i W : Nat} {argsL under : List Value} {st : List Value} {C : String} {b : Addr} {r : Option Value} (eT : T.heap = h) (w1 : (Jvm.Cond.methodLink own i y).before a0 Z = true) (w2 : (Jvm.Cond.declares y).before a0 Z = true) (w3 : (Jvm.Cond.selects C y y).before a0 Z = true) (w4 : (Jvm.Cond.instanceMethod y).before a0 Z = true) (wc : (Jvm.Cond.code y bs mx rt).before a0 Z = true) (wz : (Jvm.Cond.initialized y.cls).before a0 Z = true) (hy : y.cls ≠ "java/lang/invoke/MethodHandle" ∧ y.cls ≠ "java/lang/invoke/VarHandle") (hM : OMeets l Z y bs mx rt [] rm (.ref b :: argsL).toArray h (PureQ r h)) (E : Exa Z h b C) (hlen : ∀ sig, parseMethodDescriptor y.desc = some sig → argsL.length = sig.parameters.length) (hst : st = argsL.reverse ++ .ref b :: under) (hW : (under.map fun v => v.category).sum = W) (hf : rm.frames + 1 ≤ R.frames) (hlo : W + (mx + 11) + rm.locals ≤ R.locals) (hce : rm.cells = 0) (hsl : rm.slots = 0) (hc0 : cells ≤ R.cells) (hs0 : slots ≤ R.slots) (hsz : Ls.size = maxL) (hd : decode bytes pc = .ok (.invokevirtual i, 3)) (hp : pc + 3 = pc') (k : ∀ T', Stand p l e R s m args below meth c T' locs cells slots → T'.heap = h → Go p e below P (T'.setTop (mkF m pc' Ls (r.toList ++ under)))) : Go p e below P (T.setTop (mkF m pc Ls st)) := by
  refine c_virtual B X eT w1 w2 w3 w4 wc wz hy hM E hlen hst hW hf hlo (by omega) (by omega) hsz hd hp ?_
  intro v T' L X' hQ
  obtain ⟨rfl, rfl, e'⟩ := hQ
  rw [hce, hsl, List.append_nil] at X'
  exact k T' X' e'
theorem p_static (B : Ctx p s m meth c Z own nm bytes maxL ret) (X : Stand p l e R s m args below meth c T locs cells slots) {y : MethodName} {bs : ByteArray} {mx : Nat} {rt : Option FieldType} {rm : Room} {i W : Nat} {argsL under : List Value} {st : List Value}  {r : Option Value} (eT : T.heap = h) (w1 : (Jvm.Cond.methodLink own i y).before a0 Z = true) (w2 : (Jvm.Cond.static y).before a0 Z = true) (wc : (Jvm.Cond.code y bs mx rt).before a0 Z = true) (wz : (Jvm.Cond.initialized y.cls).before a0 Z = true) (hy : y.cls ≠ "java/lang/invoke/MethodHandle" ∧ y.cls ≠ "java/lang/invoke/VarHandle") (hM : OMeets l Z y bs mx rt [] rm argsL.toArray h (PureQ r h))  (hlen : ∀ sig, parseMethodDescriptor y.desc = some sig → argsL.length = sig.parameters.length) (hst : st = argsL.reverse ++ under) (hW : (under.map fun v => v.category).sum = W) (hf : rm.frames + 1 ≤ R.frames) (hlo : W + (mx + 11) + rm.locals ≤ R.locals) (hce : rm.cells = 0) (hsl : rm.slots = 0) (hc0 : cells ≤ R.cells) (hs0 : slots ≤ R.slots) (hsz : Ls.size = maxL) (hd : decode bytes pc = .ok (.invokestatic i, 3)) (hp : pc + 3 = pc') (k : ∀ T', Stand p l e R s m args below meth c T' locs cells slots → T'.heap = h → Go p e below P (T'.setTop (mkF m pc' Ls (r.toList ++ under)))) : Go p e below P (T.setTop (mkF m pc Ls st)) := by
  refine c_static B X eT w1 w2 wc wz hy hM hlen hst hW hf hlo (by omega) (by omega) hsz hd hp ?_
  intro v T' L X' hQ
  obtain ⟨rfl, rfl, e'⟩ := hQ
  rw [hce, hsl, List.append_nil] at X'
  exact k T' X' e'
theorem p_init (B : Ctx p s m meth c Z own nm bytes maxL ret) (X : Stand p l e R s m args below meth c T locs cells slots) {y : MethodName} {bs : ByteArray} {mx : Nat} {rm : Room} {i W : Nat} {argsL under : List Value} {st : List Value} {b : Addr} (eT : T.heap = h) (hy1 : y.name = "<init>") (w1 : (Jvm.Cond.methodLink own i y).before a0 Z = true) (w2 : (Jvm.Cond.instanceMethod y).before a0 Z = true) (wc : (Jvm.Cond.code y bs mx none).before a0 Z = true) (wz : (Jvm.Cond.initialized y.cls).before a0 Z = true) (hy : y.cls ≠ "java/lang/invoke/MethodHandle" ∧ y.cls ≠ "java/lang/invoke/VarHandle") (hM : OMeets l Z y bs mx none [] rm (.ref b :: argsL).toArray h (PureQ none h)) (hlen : ∀ sig, parseMethodDescriptor y.desc = some sig → argsL.length = sig.parameters.length) (hst : st = argsL.reverse ++ .ref b :: under) (hW : (under.map fun v => v.category).sum = W) (hf : rm.frames + 1 ≤ R.frames) (hlo : W + (mx + 11) + rm.locals ≤ R.locals) (hce : rm.cells = 0) (hsl : rm.slots = 0) (hc0 : cells ≤ R.cells) (hs0 : slots ≤ R.slots) (hsz : Ls.size = maxL) (hd : decode bytes pc = .ok (.invokespecial i, 3)) (hp : pc + 3 = pc') (k : ∀ T', Stand p l e R s m args below meth c T' locs cells slots → T'.heap = h → Go p e below P (T'.setTop (mkF m pc' Ls under))) : Go p e below P (T.setTop (mkF m pc Ls st)) := by
  refine c_init B X eT hy1 w1 w2 wc wz hy hM hlen hst hW hf hlo (by omega) (by omega) hsz hd hp ?_
  intro v T' L X' hQ
  obtain ⟨rfl, rfl, e'⟩ := hQ
  rw [hce, hsl, List.append_nil] at X'
  exact k T' X' e'
theorem c_virtualUp (B : Ctx p s m meth c Z own nm bytes maxL ret) (X : Stand p l e R s m args below meth c T locs cells slots) {y z : MethodName} {bs : ByteArray} {mx : Nat} {rt : Option FieldType} {rm : Room} {i W : Nat} {argsL under : List Value} {Q : Option Value → Heap → List Loc → Prop} {st : List Value} {C owner : String} {b : Addr} (eT : T.heap = h) (w1 : (Jvm.Cond.methodLink own i y).before a0 Z = true) (ws : (Jvm.Cond.sameMethod y.cls owner y.name y.desc).before a0 Z = true) (w2 : (Jvm.Cond.declares ⟨owner, y.name, y.desc⟩).before a0 Z = true) (w3 : (Jvm.Cond.selects C y z).before a0 Z = true) (w4 : (Jvm.Cond.instanceMethod z).before a0 Z = true) (wc : (Jvm.Cond.code z bs mx rt).before a0 Z = true) (wz : (Jvm.Cond.initialized z.cls).before a0 Z = true) (hy : owner ≠ "java/lang/invoke/MethodHandle" ∧ owner ≠ "java/lang/invoke/VarHandle") (hM : OMeets l Z z bs mx rt [] rm (.ref b :: argsL).toArray h Q) (E : Exa Z h b C) (hlen : ∀ sig, parseMethodDescriptor y.desc = some sig → argsL.length = sig.parameters.length) (hst : st = argsL.reverse ++ .ref b :: under) (hW : (under.map fun v => v.category).sum = W) (hf : rm.frames + 1 ≤ R.frames) (hlo : W + (mx + 11) + rm.locals ≤ R.locals) (hce : cells + rm.cells ≤ R.cells) (hsl : slots + rm.slots ≤ R.slots) (hsz : Ls.size = maxL) (hd : decode bytes pc = .ok (.invokevirtual i, 3)) (hp : pc + 3 = pc') (k : ∀ v T' L, Stand p l e R s m args below meth c T' (locs ++ L) (cells + rm.cells) (slots + rm.slots) → Q v T'.heap L → Go p e below P (T'.setTop (mkF m pc' Ls (v.toList ++ under)))) : Go p e below P (T.setTop (mkF m pc Ls st)) := by
  subst hp hst
  obtain ⟨cq, kq, qa, qb, qc⟩ := isOf B.2.2.2.2.2.2.2 eT E
  obtain ⟨v, _, ⟨T', L', k', n'⟩, -, X', ⟨Lc, hQ, l', y', z'⟩, st'⟩ := X.virtualBackUp B.1 (x := y) (y := z) B.2.2.2.1 (mvT B.2.2.2.2.2.2.2 w1) (mvT B.2.2.2.2.2.2.2 ws) (mvT B.2.2.2.2.2.2.2 w2) hy (mvT B.2.2.2.2.2.2.2 w3) (mvT B.2.2.2.2.2.2.2 w4) (backOf (W := W) hM B.2.2.2.2.2.2.2 wc wz hf hlo) qa qc (g := mkF m pc Ls (argsL.reverse ++ .ref b :: under)) rfl (by rw [B.2.2.1]; exact hsz) (Steps.refl _) (argsL := argsL) (rest := under) hlen rfl (by show 2 * 0 + _ ≤ _; rw [Nat.mul_zero, Nat.zero_add]; exact Nat.le_of_eq hW) (hb B.2.1 hd) (fun _ _ => ⟨rfl, eT, hce, hsl⟩)
  dsimp only [Pt.U, Pt.locs, Pt.cells, Pt.slots] at X' l' y' z' st' hQ
  subst l' y' z'
  exact Go.on (fun t q => st'.trans q) (k v T' Lc X' hQ)
theorem p_virtualUp (B : Ctx p s m meth c Z own nm bytes maxL ret) (X : Stand p l e R s m args below meth c T locs cells slots) {y z : MethodName} {bs : ByteArray} {mx : Nat} {rt : Option FieldType} {rm : Room} {i W : Nat} {argsL under : List Value} {st : List Value} {C owner : String} {b : Addr} {r : Option Value} (eT : T.heap = h) (w1 : (Jvm.Cond.methodLink own i y).before a0 Z = true) (ws : (Jvm.Cond.sameMethod y.cls owner y.name y.desc).before a0 Z = true) (w2 : (Jvm.Cond.declares ⟨owner, y.name, y.desc⟩).before a0 Z = true) (w3 : (Jvm.Cond.selects C y z).before a0 Z = true) (w4 : (Jvm.Cond.instanceMethod z).before a0 Z = true) (wc : (Jvm.Cond.code z bs mx rt).before a0 Z = true) (wz : (Jvm.Cond.initialized z.cls).before a0 Z = true) (hy : owner ≠ "java/lang/invoke/MethodHandle" ∧ owner ≠ "java/lang/invoke/VarHandle") (hM : OMeets l Z z bs mx rt [] rm (.ref b :: argsL).toArray h (PureQ r h)) (E : Exa Z h b C) (hlen : ∀ sig, parseMethodDescriptor y.desc = some sig → argsL.length = sig.parameters.length) (hst : st = argsL.reverse ++ .ref b :: under) (hW : (under.map fun v => v.category).sum = W) (hf : rm.frames + 1 ≤ R.frames) (hlo : W + (mx + 11) + rm.locals ≤ R.locals) (hce : rm.cells = 0) (hsl : rm.slots = 0) (hc0 : cells ≤ R.cells) (hs0 : slots ≤ R.slots) (hsz : Ls.size = maxL) (hd : decode bytes pc = .ok (.invokevirtual i, 3)) (hp : pc + 3 = pc') (k : ∀ T', Stand p l e R s m args below meth c T' locs cells slots → T'.heap = h → Go p e below P (T'.setTop (mkF m pc' Ls (r.toList ++ under)))) : Go p e below P (T.setTop (mkF m pc Ls st)) := by
  refine c_virtualUp B X eT w1 ws w2 w3 w4 wc wz hy hM E hlen hst hW hf hlo (by omega) (by omega) hsz hd hp ?_
  intro v T' L X' hQ
  obtain ⟨rfl, rfl, e'⟩ := hQ
  rw [hce, hsl, List.append_nil] at X'
  exact k T' X' e'
end Kit
end Jvm.OwnKit

namespace Jvm.OwnKit
open Sem ClassFile Op Lib Jvm.Stand Jvm.Free Jvm.LawKit Jvm.RoadKit
section Heap
variable {p : Program} {l : Launch} {e : Env} {R : Room} {s : State} {m : MethodId} {args : Array Value} {below : List Frame} {meth : Method} {c : Code} {T : State} {locs : List Loc} {cells slots : Nat} {Z : State} {a0 : Array Value} {h h' : Heap} {own nm : String} {bytes : ByteArray} {maxL : Nat} {ret : Option FieldType} {P : Outcome → State → Prop} {pc pc' : Nat} {Ls Ls' : Array Slot} {rest : List Value} {a b : Addr} {k : ClassId} {ty : FieldType} {n i : Nat} {f g : Nat → Value} {v w : Value} {sl : Nat} {ws : List Addr}
/-- an array at a: n places, place i holds f i -/
def Ary (Z : State) (h : Heap) (a : Addr) (k : ClassId) (ty : FieldType) (n : Nat) (f : Nat → Value) : Prop := ∃ c : Cell, Arr Z h a c ty ∧ c.cls = k ∧ c.slots.size = n ∧ n < 2 ^ 31 ∧ ∀ i, i < n → c.slots[i]? = some (f i)
def upd (f : Nat → Value) (j : Nat) (v : Value) : Nat → Value := fun i => if i = j then v else f i
def lst (L : List Value) (d : Value) : Nat → Value := fun i => L.getD i d
theorem Ary.lt (F : Ary Z h a k ty n f) : a < h.size := by obtain ⟨c, A, -⟩ := F; exact A.lt
theorem Ary.ext (E : Ext h h') (F : Ary Z h a k ty n f) : Ary Z h' a k ty n f := by obtain ⟨c, A, r⟩ := F; exact ⟨c, A.ext E, r⟩
theorem Ary.other (W : Wr h h' b sl v) (F : Ary Z h a k ty n f) (q : a ≠ b) : Ary Z h' a k ty n f := by obtain ⟨c, A, r⟩ := F; exact ⟨c, A.other W q, r⟩
theorem Ary.keep (F : Ary Z h a k ty n f) (K : Keep h h' ws) (q : a ∉ ws) : Ary Z h' a k ty n f := by obtain ⟨c, A, r⟩ := F; exact ⟨c, ⟨K.2.1 a c A.1 q, A.2⟩, r⟩
theorem Ary.congr (F : Ary Z h a k ty n f) (q : ∀ i, i < n → f i = g i) : Ary Z h a k ty n g := by obtain ⟨c, A, r1, r2, r3, r4⟩ := F; exact ⟨c, A, r1, r2, r3, fun i hi => by rw [r4 i hi, q i hi]⟩
theorem upd_lst {L : List Value} {d v : Value} {j : Nat} (hj : j < L.length) {L' : List Value} (e : L.set j v = L') : upd (lst L d) j v = lst L' d := by
  subst e; funext i
  simp only [upd, lst, List.getD_eq_getElem?_getD, List.getElem?_set]
  by_cases q : i = j
  · subst q; simp [hj]
  · simp [q, Ne.symm q]
theorem Ary.same {j : Nat} (W : Wr h h' a j v) (F : Ary Z h a k ty n f) : Ary Z h' a k ty n (upd f j v) := by
  obtain ⟨c, A, r1, r2, r3, r4⟩ := F
  obtain ⟨cell, w1, w2, w3, -⟩ := id W
  cases w1.symm.trans A.1
  refine ⟨_, A.same W, r1, by rw [sz_set]; exact r2, r3, fun i hi => ?_⟩
  by_cases q : i = j
  · subst q; simp [Cell.setSlot, upd, w3]
  · simp only [Cell.setSlot, upd, if_neg q]; rw [Array.getElem?_setIfInBounds_ne (Ne.symm q)]; exact r4 i hi
theorem Ary.of_new {x : Int32} {N : Nat} (A : Arr Z h a (newA k ty x) ty) (hx : ¬ x < 0) (hN : x.toNatClampNeg = N) : Ary Z h a k ty N (fun _ => defaultValue ty) := by
  subst hN
  refine ⟨_, A, rfl, sz_new _ _ _, (back32 hx).2, fun i hi => ?_⟩
  simp [newA, hi]
theorem Ary.of_rep (F : Ary Z h a k ty n (fun _ => v)) {L : List Value} (q : ∀ i, i < n → L.getD i v = v) : Ary Z h a k ty n (lst L v) := F.congr fun i hi => (q i hi).symm

theorem Ary.sto {C : String} {y : Addr} (F : Ary Z h a k ty n f) (O : Ovr Z k C) (I : Ins Z h y C true) : Sto Z h a (.ref y) := by obtain ⟨c, A, r, -⟩ := F; exact Sto.of A (r ▸ O) I
theorem Ary.full {L : List Value} {j : Nat} {L' : List Value} (F : Ary Z h a k ty n (upd (lst L w) j v)) (hj : j < L.length) (e : L.set j v = L') : Ary Z h a k ty n (lst L' w) := by rw [← upd_lst (d := w) hj e]; exact F
theorem Ary.stoA {C : String} {y : Addr} {t0 : FieldType} (F : Ary Z h a k ty n f) (O : OvrA Z k t0 C) (I : Ins Z h y C true) : Sto Z h a (.ref y) := by obtain ⟨c, A, r, -⟩ := F; exact Sto.ofVA A r O I
theorem old_le {n0 : Nat} (O : Old Z n0 h) : n0 ≤ h.size := O.1 ▸ O.2.1
theorem s_new (B : Ctx p s m meth c Z own nm bytes maxL ret) (X : Stand p l e R s m args below meth c T locs cells slots) {C : String} {i0 n0 : Nat} (eT : T.heap = h) (w : (Jvm.Cond.classLink own i0 C).before a0 Z = true) (wi : (Jvm.Cond.instantiable C n0).before a0 Z = true) (wz : (Jvm.Cond.initialized C).before a0 Z = true) (hc : cells + 1 ≤ R.cells) (hl : slots + n0 ≤ R.slots) (hd : decode bytes pc = .ok (.new i0, 3)) (hp : pc + 3 = pc') (k : ∀ T' h' a, a = h.size → Stand p l e R s m args below meth c T' locs (cells + 1) (slots + n0) → T'.heap = h' → Ext h h' → Exa Z h' a C → (∀ {O nm d : String} {ty : FieldType}, Laid Z a0 C O nm d → parseFieldDescriptor d = some ty → Fld Z h' a O nm d (defaultValue ty)) → Go p e below P (T'.setTop (mkF m pc' Ls (.ref a :: rest)))) : Go p e below P (T.setTop (mkF m pc Ls (rest))) := by
  subst hp
  obtain ⟨T', h', X', e', E, A, D, -, st⟩ := newO X B.1 B.2.2.2.2.2.2.2 B.2.2.2.1 w wi wz eT (g := mkF m pc Ls rest) rfl (hb B.2.1 hd) hc hl
  exact Go.on st (k T' h' _ rfl X' e' E A D)
theorem s_initO (B : Ctx p s m meth c Z own nm bytes maxL ret) (X : Stand p l e R s m args below meth c T locs cells slots) {i0 W : Nat} {a : Addr} (eT : T.heap = h) (w1 : (Jvm.Cond.methodLink own i0 Lib.objectInit).before a0 Z = true) (w2 : (Jvm.Cond.instanceMethod Lib.objectInit).before a0 Z = true) (w3 : (Jvm.Cond.code Lib.objectInit ⟨#[0xb1]⟩ 1 none).before a0 Z = true) (hW : (rest.map fun v => v.category).sum = W) (hf : 1 ≤ R.frames) (hl : W + 12 ≤ R.locals) (hsz : Ls.size = maxL) (hd : decode bytes pc = .ok (.invokespecial i0, 3)) (hp : pc + 3 = pc') (k : ∀ T', Stand p l e R s m args below meth c T' locs cells slots → T'.heap = h → Go p e below P (T'.setTop (mkF m pc' Ls (rest)))) : Go p e below P (T.setTop (mkF m pc Ls (.ref a :: rest))) := by
  subst hp
  obtain ⟨T', X', e', st⟩ := initO X B.1 B.2.2.2.2.2.2.2 B.2.2.2.1 w1 w2 w3 eT (g := mkF m pc Ls (.ref a :: rest)) rfl (by rw [B.2.2.1]; exact hsz) rfl (hb B.2.1 hd) hf (W := W) (by show 2 * 0 + _ ≤ _; rw [Nat.mul_zero, Nat.zero_add]; exact Nat.le_of_eq hW) hl
  exact Go.on st (k T' X' e')
theorem s_putF (B : Ctx p s m meth c Z own nm bytes maxL ret) (X : Stand p l e R s m args below meth c T locs cells slots) {i0 kk : Nat} {R0 O n d host C : String} {ty : FieldType} {a : Addr} {v old : Value} (eT : T.heap = h) (w : (Jvm.Cond.fieldLink own i0 R0 n d).before a0 Z = true ∨ (Jvm.Cond.fieldLinkNest own i0 R0 n d host).before a0 Z = true) (via : Via Z R0 O n d) (F : Fld Z h a O n d old) (E : Exa Z h a C) (L : (Jvm.Cond.lays C O n d).before a0 Z = true ∨ ((Jvm.Cond.laysFinal C O n d).before a0 Z = true ∧ own = O ∧ nm = "<init>")) (wi : (Jvm.Cond.instantiable C kk).before a0 Z = true) (hty : parseFieldDescriptor d = some ty) (hn : narrow ty v = v) (hf : fits ty v = true) (hd : decode bytes pc = .ok (.putfield i0, 3)) (hp : pc + 3 = pc') (k : ∀ T' h', Stand p l e R s m args below meth c T' (locs ++ [⟨a, Jvm.RoadKit.slotOf Z O n d⟩]) cells slots → T'.heap = h' → Wr h h' a (Jvm.RoadKit.slotOf Z O n d) v → Go p e below P (T'.setTop (mkF m pc' Ls (rest)))) : Go p e below P (T.setTop (mkF m pc Ls (v :: .ref a :: rest))) := by
  subst hp
  obtain ⟨T', h', X', e', W, st⟩ := putF X B.1 B.2.2.2.2.2.2.2 B.2.2.2.1 w via eT F E (L.imp id fun q => ⟨q.1, q.2.1, by rw [B.2.2.2.2.1]; exact q.2.2⟩) wi hty hn hf (g := mkF m pc Ls (v :: .ref a :: rest)) rfl rfl (hb B.2.1 hd)
  exact Go.on st (k T' h' X' e' W)
theorem s_putFN (B : Ctx p s m meth c Z own nm bytes maxL ret) (X : Stand p l e R s m args below meth c T locs cells slots) {i0 kk : Nat} {R0 O n d C : String} {ty : FieldType} {a : Addr} {v v' old : Value} (eT : T.heap = h) (w : (Jvm.Cond.fieldLink own i0 R0 n d).before a0 Z = true) (via : Via Z R0 O n d) (F : Fld Z h a O n d old) (E : Exa Z h a C) (L : (Jvm.Cond.lays C O n d).before a0 Z = true ∨ ((Jvm.Cond.laysFinal C O n d).before a0 Z = true ∧ own = O ∧ nm = "<init>")) (wi : (Jvm.Cond.instantiable C kk).before a0 Z = true) (hty : parseFieldDescriptor d = some ty) (hn : narrow ty v = v') (hf : fits ty v' = true) (hd : decode bytes pc = .ok (.putfield i0, 3)) (hp : pc + 3 = pc') (k : ∀ T' h', Stand p l e R s m args below meth c T' (locs ++ [⟨a, Jvm.RoadKit.slotOf Z O n d⟩]) cells slots → T'.heap = h' → Wr h h' a (Jvm.RoadKit.slotOf Z O n d) v' → Go p e below P (T'.setTop (mkF m pc' Ls (rest)))) : Go p e below P (T.setTop (mkF m pc Ls (v :: .ref a :: rest))) := by
  subst hp
  obtain ⟨T', h', X', e', W, st⟩ := putFN X B.1 B.2.2.2.2.2.2.2 B.2.2.2.1 w via eT F E (L.imp id fun q => ⟨q.1, q.2.1, by rw [B.2.2.2.2.1]; exact q.2.2⟩) wi hty hn hf (g := mkF m pc Ls (v :: .ref a :: rest)) rfl rfl (hb B.2.1 hd)
  exact Go.on st (k T' h' X' e' W)
theorem s_newP (B : Ctx p s m meth c Z own nm bytes maxL ret) (X : Stand p l e R s m args below meth c T locs cells slots) {aty : ArrayType} {x : Int32} {N : Nat} (eT : T.heap = h) (w : (Jvm.Cond.arrayClass (newarray.typeOf aty)).before a0 Z = true) (hn : ¬ x < 0) (hN : x.toNatClampNeg = N) {cap : Nat} (hcap : N ≤ cap) (hb8 : cap * 8 ≤ 536870912) (hc : cells + 1 ≤ R.cells) (hl : slots + cap ≤ R.slots) (hd : decode bytes pc = .ok (.newarray aty, 2)) (hp : pc + 2 = pc') (k : ∀ T' h' a kA, a = h.size → Stand p l e R s m args below meth c T' locs (cells + 1) (slots + cap) → T'.heap = h' → Ext h h' → Ary Z h' a kA (newarray.typeOf aty) N (fun _ => defaultValue (newarray.typeOf aty)) → Go p e below P (T'.setTop (mkF m pc' Ls (.ref a :: rest)))) : Go p e below P (T.setTop (mkF m pc Ls (.int x :: rest))) := by
  subst hp
  obtain ⟨T', h', cA, X', e', E, A, st⟩ := newP X B.1 B.2.2.2.2.2.2.2 w eT (g := mkF m pc Ls (.int x :: rest)) rfl (hb B.2.1 hd) rfl hn (cap := cap) (hN ▸ hcap) hb8 hc hl
  exact Go.on st (k T' h' _ cA rfl X' e' E (Ary.of_new A hn hN))
theorem s_newR (B : Ctx p s m meth c Z own nm bytes maxL ret) (X : Stand p l e R s m args below meth c T locs cells slots) {i0 : Nat} {C : String} {x : Int32} {N : Nat} (eT : T.heap = h) (w1 : (Jvm.Cond.classLink own i0 C).before a0 Z = true) (w2 : (Jvm.Cond.arrayOver (.object C)).before a0 Z = true) (hn : ¬ x < 0) (hN : x.toNatClampNeg = N) {cap : Nat} (hcap : N ≤ cap) (hb8 : cap * 8 ≤ 536870912) (hc : cells + 1 ≤ R.cells) (hl : slots + cap ≤ R.slots) (hd : decode bytes pc = .ok (.anewarray i0, 3)) (hp : pc + 3 = pc') (k : ∀ T' h' a kA, a = h.size → Stand p l e R s m args below meth c T' locs (cells + 1) (slots + cap) → T'.heap = h' → Ext h h' → Ary Z h' a kA (.object C) N (fun _ => .null) → Ovr Z kA C → Go p e below P (T'.setTop (mkF m pc' Ls (.ref a :: rest)))) : Go p e below P (T.setTop (mkF m pc Ls (.int x :: rest))) := by
  subst hp
  obtain ⟨T', h', cA, X', e', E, A, O, st⟩ := newR X B.1 B.2.2.2.2.2.2.2 B.2.2.2.1 w1 w2 eT (g := mkF m pc Ls (.int x :: rest)) rfl (hb B.2.1 hd) rfl hn (cap := cap) (hN ▸ hcap) hb8 hc hl
  exact Go.on st (k T' h' _ cA rfl X' e' E (Ary.of_new A hn hN) O)
theorem s_newRA (B : Ctx p s m meth c Z own nm bytes maxL ret) (X : Stand p l e R s m args below meth c T locs cells slots) {i0 : Nat} {C : String} {ty : FieldType} {x : Int32} {N : Nat} (eT : T.heap = h) (hC : (FieldType.array ty).toString = C) (w1 : (Jvm.Cond.classLink own i0 C).before a0 Z = true) (w2 : (Jvm.Cond.arrayOver (.array ty)).before a0 Z = true) (hn : ¬ x < 0) (hN : x.toNatClampNeg = N) {cap : Nat} (hcap : N ≤ cap) (hb8 : cap * 8 ≤ 536870912) (hc : cells + 1 ≤ R.cells) (hl : slots + cap ≤ R.slots) (hd : decode bytes pc = .ok (.anewarray i0, 3)) (hp : pc + 3 = pc') (k : ∀ T' h' a kA, a = h.size → Stand p l e R s m args below meth c T' locs (cells + 1) (slots + cap) → T'.heap = h' → Ext h h' → Ary Z h' a kA (.array ty) N (fun _ => .null) → OvrA Z kA ty C → Go p e below P (T'.setTop (mkF m pc' Ls (.ref a :: rest)))) : Go p e below P (T.setTop (mkF m pc Ls (.int x :: rest))) := by
  subst hp
  obtain ⟨T', h', cA, X', e', E, A, -, O, st⟩ := newRA X B.1 B.2.2.2.2.2.2.2 B.2.2.2.1 hC w1 w2 eT (g := mkF m pc Ls (.int x :: rest)) rfl (hb B.2.1 hd) rfl hn (cap := cap) (hN ▸ hcap) hb8 hc hl rfl
  exact Go.on st (k T' h' _ cA rfl X' e' E (Ary.of_new A hn hN) O)
theorem s_stI (B : Ctx p s m meth c Z own nm bytes maxL ret) (X : Stand p l e R s m args below meth c T locs cells slots) {a : Addr} {x : Int32} {j : Int32} {jn N : Nat} {f : Nat → Value} {kA : ClassId} (eT : T.heap = h) (A : Ary Z h a kA .int N f) (hj : ¬ j < 0) (hjn : j.toNatClampNeg = jn) (hlt : jn < N) (hd : decode bytes pc = .ok (.iastore, 1)) (hp : pc + 1 = pc') (k : ∀ T' h', Stand p l e R s m args below meth c T' (locs ++ [⟨a, jn⟩]) cells slots → T'.heap = h' → Wr h h' a jn (.int x) → Ary Z h' a kA .int N (upd f jn (.int x)) → Go p e below P (T'.setTop (mkF m pc' Ls (rest)))) : Go p e below P (T.setTop (mkF m pc Ls (.int x :: .int j :: .ref a :: rest))) := by
  subst hp
  subst hjn
  obtain ⟨cl, A1, q1, q2, q3, q4⟩ := id A
  obtain ⟨T', h', X', e', W, st⟩ := stI X B.1 B.2.2.2.2.2.2.2 eT A1 (j := j) (by rw [q2]; intro z; rcases z with z | z; exact hj z; omega) (g := mkF m pc Ls (.int x :: .int j :: .ref a :: rest)) rfl rfl (hb B.2.1 hd)
  exact Go.on st (k T' h' X' e' W (A.same W))
theorem s_stJ (B : Ctx p s m meth c Z own nm bytes maxL ret) (X : Stand p l e R s m args below meth c T locs cells slots) {a : Addr} {x : Int64} {j : Int32} {jn N : Nat} {f : Nat → Value} {kA : ClassId} (eT : T.heap = h) (A : Ary Z h a kA .long N f) (hj : ¬ j < 0) (hjn : j.toNatClampNeg = jn) (hlt : jn < N) (hd : decode bytes pc = .ok (.lastore, 1)) (hp : pc + 1 = pc') (k : ∀ T' h', Stand p l e R s m args below meth c T' (locs ++ [⟨a, jn⟩]) cells slots → T'.heap = h' → Wr h h' a jn (.long x) → Ary Z h' a kA .long N (upd f jn (.long x)) → Go p e below P (T'.setTop (mkF m pc' Ls (rest)))) : Go p e below P (T.setTop (mkF m pc Ls (.long x :: .int j :: .ref a :: rest))) := by
  subst hp
  subst hjn
  obtain ⟨cl, A1, q1, q2, q3, q4⟩ := id A
  obtain ⟨T', h', X', e', W, st⟩ := stJ X B.1 B.2.2.2.2.2.2.2 eT A1 (j := j) (by rw [q2]; intro z; rcases z with z | z; exact hj z; omega) (g := mkF m pc Ls (.long x :: .int j :: .ref a :: rest)) rfl rfl (hb B.2.1 hd)
  exact Go.on st (k T' h' X' e' W (A.same W))
theorem s_stB (B : Ctx p s m meth c Z own nm bytes maxL ret) (X : Stand p l e R s m args below meth c T locs cells slots) {a : Addr} {x : Int32} {j : Int32} {jn N : Nat} {f : Nat → Value} {kA : ClassId} (eT : T.heap = h) (A : Ary Z h a kA .byte N f) (hj : ¬ j < 0) (hjn : j.toNatClampNeg = jn) (hlt : jn < N) (hd : decode bytes pc = .ok (.bastore, 1)) (hp : pc + 1 = pc') (k : ∀ T' h', Stand p l e R s m args below meth c T' (locs ++ [⟨a, jn⟩]) cells slots → T'.heap = h' → Wr h h' a jn (.int (nar .byte x)) → Ary Z h' a kA .byte N (upd f jn (.int (nar .byte x))) → Go p e below P (T'.setTop (mkF m pc' Ls (rest)))) : Go p e below P (T.setTop (mkF m pc Ls (.int x :: .int j :: .ref a :: rest))) := by
  subst hp
  subst hjn
  obtain ⟨cl, A1, q1, q2, q3, q4⟩ := id A
  obtain ⟨T', h', X', e', W, st⟩ := stB X B.1 B.2.2.2.2.2.2.2 eT A1 (j := j) (by rw [q2]; intro z; rcases z with z | z; exact hj z; omega) (g := mkF m pc Ls (.int x :: .int j :: .ref a :: rest)) rfl rfl (hb B.2.1 hd)
  exact Go.on st (k T' h' X' e' W (A.same W))
theorem s_stZ (B : Ctx p s m meth c Z own nm bytes maxL ret) (X : Stand p l e R s m args below meth c T locs cells slots) {a : Addr} {x : Int32} {j : Int32} {jn N : Nat} {f : Nat → Value} {kA : ClassId} (eT : T.heap = h) (A : Ary Z h a kA .boolean N f) (hj : ¬ j < 0) (hjn : j.toNatClampNeg = jn) (hlt : jn < N) (hd : decode bytes pc = .ok (.bastore, 1)) (hp : pc + 1 = pc') (k : ∀ T' h', Stand p l e R s m args below meth c T' (locs ++ [⟨a, jn⟩]) cells slots → T'.heap = h' → Wr h h' a jn (.int (nar .boolean x)) → Ary Z h' a kA .boolean N (upd f jn (.int (nar .boolean x))) → Go p e below P (T'.setTop (mkF m pc' Ls (rest)))) : Go p e below P (T.setTop (mkF m pc Ls (.int x :: .int j :: .ref a :: rest))) := by
  subst hp
  subst hjn
  obtain ⟨cl, A1, q1, q2, q3, q4⟩ := id A
  obtain ⟨T', h', X', e', W, st⟩ := stZ X B.1 B.2.2.2.2.2.2.2 eT A1 (j := j) (by rw [q2]; intro z; rcases z with z | z; exact hj z; omega) (g := mkF m pc Ls (.int x :: .int j :: .ref a :: rest)) rfl rfl (hb B.2.1 hd)
  exact Go.on st (k T' h' X' e' W (A.same W))
theorem s_stC (B : Ctx p s m meth c Z own nm bytes maxL ret) (X : Stand p l e R s m args below meth c T locs cells slots) {a : Addr} {x : Int32} {j : Int32} {jn N : Nat} {f : Nat → Value} {kA : ClassId} (eT : T.heap = h) (A : Ary Z h a kA .char N f) (hj : ¬ j < 0) (hjn : j.toNatClampNeg = jn) (hlt : jn < N) (hd : decode bytes pc = .ok (.castore, 1)) (hp : pc + 1 = pc') (k : ∀ T' h', Stand p l e R s m args below meth c T' (locs ++ [⟨a, jn⟩]) cells slots → T'.heap = h' → Wr h h' a jn (.int (nar .char x)) → Ary Z h' a kA .char N (upd f jn (.int (nar .char x))) → Go p e below P (T'.setTop (mkF m pc' Ls (rest)))) : Go p e below P (T.setTop (mkF m pc Ls (.int x :: .int j :: .ref a :: rest))) := by
  subst hp
  subst hjn
  obtain ⟨cl, A1, q1, q2, q3, q4⟩ := id A
  obtain ⟨T', h', X', e', W, st⟩ := stC X B.1 B.2.2.2.2.2.2.2 eT A1 (j := j) (by rw [q2]; intro z; rcases z with z | z; exact hj z; omega) (g := mkF m pc Ls (.int x :: .int j :: .ref a :: rest)) rfl rfl (hb B.2.1 hd)
  exact Go.on st (k T' h' X' e' W (A.same W))
theorem s_stR (B : Ctx p s m meth c Z own nm bytes maxL ret) (X : Stand p l e R s m args below meth c T locs cells slots) {a : Addr} {v : Value} {ty : FieldType} {j : Int32} {jn N : Nat} {f : Nat → Value} {kA : ClassId} (eT : T.heap = h) (A : Ary Z h a kA ty N f) (hty : ty.isReference = true) (S : Sto Z h a v) (hj : ¬ j < 0) (hjn : j.toNatClampNeg = jn) (hlt : jn < N) (hd : decode bytes pc = .ok (.aastore, 1)) (hp : pc + 1 = pc') (k : ∀ T' h', Stand p l e R s m args below meth c T' (locs ++ [⟨a, jn⟩]) cells slots → T'.heap = h' → Wr h h' a jn v → Ary Z h' a kA ty N (upd f jn v) → Go p e below P (T'.setTop (mkF m pc' Ls (rest)))) : Go p e below P (T.setTop (mkF m pc Ls (v :: .int j :: .ref a :: rest))) := by
  subst hp
  subst hjn
  obtain ⟨cl, A1, q1, q2, q3, q4⟩ := id A
  obtain ⟨T', h', X', e', W, st⟩ := stR X B.1 B.2.2.2.2.2.2.2 eT A1 (j := j) (by rw [q2]; intro z; rcases z with z | z; exact hj z; omega) hty S (g := mkF m pc Ls (v :: .int j :: .ref a :: rest)) rfl rfl (hb B.2.1 hd)
  exact Go.on st (k T' h' X' e' W (A.same W))
theorem s_ldI (B : Ctx p s m meth c Z own nm bytes maxL ret) (X : Stand p l e R s m args below meth c T locs cells slots) {a : Addr} {v : Value} {j : Int32} {jn N : Nat} {f : Nat → Value} {kA : ClassId} (eT : T.heap = h) (A : Ary Z h a kA .int N f) (hj : ¬ j < 0) (hjn : j.toNatClampNeg = jn) (hlt : jn < N) (hv : f jn = v) (hd : decode bytes pc = .ok (.iaload, 1)) (hp : pc + 1 = pc') (k : Go p e below P (T.setTop (mkF m pc' Ls (v :: rest)))) : Go p e below P (T.setTop (mkF m pc Ls (.int j :: .ref a :: rest))) := by
  subst hp hjn hv
  obtain ⟨cl, A1, q1, q2, q3, q4⟩ := A
  exact Go.on (X.iaload B.1 (j := j) (by rw [eT]; exact A1.1) (State.isArrayOf_alike B.2.2.2.2.2.2.2.alike A1.2.1) A1.2.2 (by rw [q2]; intro z; rcases z with z | z; exact hj z; omega) (q4 _ hlt) (g := mkF m pc Ls (.int j :: .ref a :: rest)) rfl rfl (hb B.2.1 hd)) k
theorem s_ldJ (B : Ctx p s m meth c Z own nm bytes maxL ret) (X : Stand p l e R s m args below meth c T locs cells slots) {a : Addr} {v : Value} {j : Int32} {jn N : Nat} {f : Nat → Value} {kA : ClassId} (eT : T.heap = h) (A : Ary Z h a kA .long N f) (hj : ¬ j < 0) (hjn : j.toNatClampNeg = jn) (hlt : jn < N) (hv : f jn = v) (hd : decode bytes pc = .ok (.laload, 1)) (hp : pc + 1 = pc') (k : Go p e below P (T.setTop (mkF m pc' Ls (v :: rest)))) : Go p e below P (T.setTop (mkF m pc Ls (.int j :: .ref a :: rest))) := by
  subst hp hjn hv
  obtain ⟨cl, A1, q1, q2, q3, q4⟩ := A
  exact Go.on (X.laload B.1 (j := j) (by rw [eT]; exact A1.1) (State.isArrayOf_alike B.2.2.2.2.2.2.2.alike A1.2.1) A1.2.2 (by rw [q2]; intro z; rcases z with z | z; exact hj z; omega) (q4 _ hlt) (g := mkF m pc Ls (.int j :: .ref a :: rest)) rfl rfl (hb B.2.1 hd)) k
theorem s_ldB (B : Ctx p s m meth c Z own nm bytes maxL ret) (X : Stand p l e R s m args below meth c T locs cells slots) {a : Addr} {v : Value} {j : Int32} {jn N : Nat} {f : Nat → Value} {kA : ClassId} (eT : T.heap = h) (A : Ary Z h a kA .byte N f) (hj : ¬ j < 0) (hjn : j.toNatClampNeg = jn) (hlt : jn < N) (hv : f jn = v) (hd : decode bytes pc = .ok (.baload, 1)) (hp : pc + 1 = pc') (k : Go p e below P (T.setTop (mkF m pc' Ls (v :: rest)))) : Go p e below P (T.setTop (mkF m pc Ls (.int j :: .ref a :: rest))) := by
  subst hp hjn hv
  obtain ⟨cl, A1, q1, q2, q3, q4⟩ := A
  exact Go.on (X.baloadBytes B.1 (j := j) (by rw [eT]; exact A1.1) (State.isArrayOf_alike B.2.2.2.2.2.2.2.alike A1.2.1) A1.2.2 (by rw [q2]; intro z; rcases z with z | z; exact hj z; omega) (q4 _ hlt) (g := mkF m pc Ls (.int j :: .ref a :: rest)) rfl rfl (hb B.2.1 hd)) k
theorem s_ldZ (B : Ctx p s m meth c Z own nm bytes maxL ret) (X : Stand p l e R s m args below meth c T locs cells slots) {a : Addr} {v : Value} {j : Int32} {jn N : Nat} {f : Nat → Value} {kA : ClassId} (eT : T.heap = h) (A : Ary Z h a kA .boolean N f) (hj : ¬ j < 0) (hjn : j.toNatClampNeg = jn) (hlt : jn < N) (hv : f jn = v) (hd : decode bytes pc = .ok (.baload, 1)) (hp : pc + 1 = pc') (k : Go p e below P (T.setTop (mkF m pc' Ls (v :: rest)))) : Go p e below P (T.setTop (mkF m pc Ls (.int j :: .ref a :: rest))) := by
  subst hp hjn hv
  obtain ⟨cl, A1, q1, q2, q3, q4⟩ := A
  exact Go.on (X.baloadBooleans B.1 (j := j) (by rw [eT]; exact A1.1) (State.isArrayOf_alike B.2.2.2.2.2.2.2.alike A1.2.1) A1.2.2 (by rw [q2]; intro z; rcases z with z | z; exact hj z; omega) (q4 _ hlt) (g := mkF m pc Ls (.int j :: .ref a :: rest)) rfl rfl (hb B.2.1 hd)) k
theorem s_ldC (B : Ctx p s m meth c Z own nm bytes maxL ret) (X : Stand p l e R s m args below meth c T locs cells slots) {a : Addr} {v : Value} {j : Int32} {jn N : Nat} {f : Nat → Value} {kA : ClassId} (eT : T.heap = h) (A : Ary Z h a kA .char N f) (hj : ¬ j < 0) (hjn : j.toNatClampNeg = jn) (hlt : jn < N) (hv : f jn = v) (hd : decode bytes pc = .ok (.caload, 1)) (hp : pc + 1 = pc') (k : Go p e below P (T.setTop (mkF m pc' Ls (v :: rest)))) : Go p e below P (T.setTop (mkF m pc Ls (.int j :: .ref a :: rest))) := by
  subst hp hjn hv
  obtain ⟨cl, A1, q1, q2, q3, q4⟩ := A
  exact Go.on (X.caload B.1 (j := j) (by rw [eT]; exact A1.1) (State.isArrayOf_alike B.2.2.2.2.2.2.2.alike A1.2.1) A1.2.2 (by rw [q2]; intro z; rcases z with z | z; exact hj z; omega) (q4 _ hlt) (g := mkF m pc Ls (.int j :: .ref a :: rest)) rfl rfl (hb B.2.1 hd)) k
theorem s_ldR (B : Ctx p s m meth c Z own nm bytes maxL ret) (X : Stand p l e R s m args below meth c T locs cells slots) {a : Addr} {v : Value} {ty : FieldType} {j : Int32} {jn N : Nat} {f : Nat → Value} {kA : ClassId} (eT : T.heap = h) (A : Ary Z h a kA ty N f) (hty : ty.isReference = true) (hj : ¬ j < 0) (hjn : j.toNatClampNeg = jn) (hlt : jn < N) (hv : f jn = v) (hd : decode bytes pc = .ok (.aaload, 1)) (hp : pc + 1 = pc') (k : Go p e below P (T.setTop (mkF m pc' Ls (v :: rest)))) : Go p e below P (T.setTop (mkF m pc Ls (.int j :: .ref a :: rest))) := by
  subst hp hjn hv
  obtain ⟨cl, A1, q1, q2, q3, q4⟩ := A
  exact Go.on (X.aaload B.1 (j := j) (by rw [eT]; exact A1.1) (State.isArrayOf_alike B.2.2.2.2.2.2.2.alike A1.2.1) hty A1.2.2 (by rw [q2]; intro z; rcases z with z | z; exact hj z; omega) (q4 _ hlt) (g := mkF m pc Ls (.int j :: .ref a :: rest)) rfl rfl (hb B.2.1 hd)) k
theorem s_len (B : Ctx p s m meth c Z own nm bytes maxL ret) (X : Stand p l e R s m args below meth c T locs cells slots) {a : Addr} {v : Int32} {ty : FieldType} {N : Nat} {f : Nat → Value} {kA : ClassId} (eT : T.heap = h) (A : Ary Z h a kA ty N f) (hv : N.toInt32 = v) (hd : decode bytes pc = .ok (.arraylength, 1)) (hp : pc + 1 = pc') (k : Go p e below P (T.setTop (mkF m pc' Ls (.int v :: rest)))) : Go p e below P (T.setTop (mkF m pc Ls (.ref a :: rest))) := by
  subst hp hv
  obtain ⟨cl, A1, q1, q2, q3, q4⟩ := A
  subst q2
  exact Go.on (X.arraylength B.1 (by rw [eT]; exact A1.1) (State.isArrayOf_alike B.2.2.2.2.2.2.2.alike A1.2.1) (g := mkF m pc Ls (.ref a :: rest)) rfl rfl (hb B.2.1 hd)) k
theorem s_castY (B : Ctx p s m meth c Z own nm bytes maxL ret) (X : Stand p l e R s m args below meth c T locs cells slots) {i0 : Nat} {K : String} {a : Addr} (eT : T.heap = h) (w : (Jvm.Cond.classLink own i0 K).before a0 Z = true) (F : Ins Z h a K true) (hd : decode bytes pc = .ok (.checkcast i0, 3)) (hp : pc + 3 = pc') (k : ∀ T', Stand p l e R s m args below meth c T' locs cells slots → T'.heap = h → Go p e below P (T'.setTop (mkF m pc' Ls (.ref a :: rest)))) : Go p e below P (T.setTop (mkF m pc Ls (.ref a :: rest))) := by
  subst hp
  obtain ⟨T', X', e', st⟩ := castY X B.1 B.2.2.2.2.2.2.2 B.2.2.2.1 w eT F (g := mkF m pc Ls (.ref a :: rest)) rfl rfl (hb B.2.1 hd)
  exact Go.on st (k T' X' e')
theorem s_instY (B : Ctx p s m meth c Z own nm bytes maxL ret) (X : Stand p l e R s m args below meth c T locs cells slots) {i0 : Nat} {K : String} {a : Addr} (eT : T.heap = h) (w : (Jvm.Cond.classLink own i0 K).before a0 Z = true) (F : Ins Z h a K true) (hd : decode bytes pc = .ok (.instanceof i0, 3)) (hp : pc + 3 = pc') (k : ∀ T', Stand p l e R s m args below meth c T' locs cells slots → T'.heap = h → Go p e below P (T'.setTop (mkF m pc' Ls (.int 1 :: rest)))) : Go p e below P (T.setTop (mkF m pc Ls (.ref a :: rest))) := by
  subst hp
  obtain ⟨T', X', e', st⟩ := instY X B.1 B.2.2.2.2.2.2.2 B.2.2.2.1 w eT F (g := mkF m pc Ls (.ref a :: rest)) rfl rfl (hb B.2.1 hd)
  exact Go.on st (k T' X' e')
theorem s_tswIn (B : Ctx p s m meth c Z own nm bytes maxL ret) (X : Stand p l e R s m args below meth c T locs cells slots) {df lo hi : Int} {offs : Array Int} {len : Nat} {o : Int} {x : Int32} (hd : decode bytes pc = .ok (.tableswitch df lo hi offs, len)) (hin : ¬ (x.toInt < lo ∨ x.toInt > hi)) (hoff : offs[(x.toInt - lo).toNat]? = some o) (ho : 0 ≤ (pc : Int) + o) (hp : ((pc : Int) + o).toNat = pc') (k : Go p e below P (T.setTop (mkF m pc' Ls (rest)))) : Go p e below P (T.setTop (mkF m pc Ls (.int x :: rest))) := Go.on (fun t => XS.tswIn (g := mkF m pc Ls (.int x :: rest)) X.here B.1 rfl (pc0 := pc) rfl (hb B.2.1 hd) (i := x) (rest := rest) rfl hin hoff ho hp) k
theorem s_tswOut (B : Ctx p s m meth c Z own nm bytes maxL ret) (X : Stand p l e R s m args below meth c T locs cells slots) {df lo hi : Int} {offs : Array Int} {len : Nat} {x : Int32} (hd : decode bytes pc = .ok (.tableswitch df lo hi offs, len)) (hout : x.toInt < lo ∨ x.toInt > hi) (ho : 0 ≤ (pc : Int) + df) (hp : ((pc : Int) + df).toNat = pc') (k : Go p e below P (T.setTop (mkF m pc' Ls (rest)))) : Go p e below P (T.setTop (mkF m pc Ls (.int x :: rest))) := Go.on (fun t => XS.tswOut (g := mkF m pc Ls (.int x :: rest)) X.here B.1 rfl (pc0 := pc) rfl (hb B.2.1 hd) (i := x) (rest := rest) rfl hout ho hp) k
end Heap
end Jvm.OwnKit

namespace Jvm.OwnKit
open Sem ClassFile Op Lib Jvm.Stand Jvm.Free Jvm.LawKit Jvm.RoadKit
section Start
variable {args : Array Value} {s : State} {t u : Term}
theorem eqI_v {k : Int32} (h : (Jvm.Cond.eq t (.int k)).value args s none s [] = some true) : t.eval args s none [] s = some (.int k) := by
  cases ht : t.eval args s none [] s with
  | none => simp [Cond.value, ht] at h
  | some x => cases x <;> simp [Cond.value, ht, Term.eval] at h ⊢; exact h
theorem eqJ_v {k : Int64} (h : (Jvm.Cond.eq t (.long k)).value args s none s [] = some true) : t.eval args s none [] s = some (.long k) := by
  cases ht : t.eval args s none [] s with
  | none => simp [Cond.value, ht] at h
  | some x => cases x <;> simp [Cond.value, ht, Term.eval] at h ⊢; exact h
theorem eqR_v {a : Addr} (hu : u.eval args s none [] s = some (.ref a)) (h : (Jvm.Cond.eq t u).value args s none s [] = some true) : t.eval args s none [] s = some (.ref a) := by
  cases ht : t.eval args s none [] s with
  | none => simp [Cond.value, ht] at h
  | some x => cases x <;> simp [Cond.value, ht, hu] at h ⊢; exact h
end Start
end Jvm.OwnKit

namespace Jvm.Pilot.@@N@@
open Jvm Jvm.ClassFile Sem Op Lib Jvm.Free Jvm.Stand Jvm.LawKit Jvm.RoadKit Jvm.OwnKit Bundle Jvm.Pilot.@@N@@.Jvm.D
theorem tw0 {Z : State} {a0 : Array Value} (hw : ∀ d ∈ tables_1, d.before a0 Z = true) : (Jvm.Cond.methodLink "com/example/isolation/isolation/LockModeJoinPinLaw" (22 : Nat) ({ cls := "com/example/isolation/isolation/LockModeJoinPinLaw", name := "mode", desc := "(I)Lcom/example/isolation/isolation/LockMode;" } : Jvm.MethodName)).before a0 Z = true := hw _ (List.mem_of_getElem? (i := 0) rfl)
theorem tw1 {Z : State} {a0 : Array Value} (hw : ∀ d ∈ tables_1, d.before a0 Z = true) : (Jvm.Cond.static ({ cls := "com/example/isolation/isolation/LockModeJoinPinLaw", name := "mode", desc := "(I)Lcom/example/isolation/isolation/LockMode;" } : Jvm.MethodName)).before a0 Z = true := hw _ (List.mem_of_getElem? (i := 1) rfl)
theorem tw2 {Z : State} {a0 : Array Value} (hw : ∀ d ∈ tables_1, d.before a0 Z = true) : (Jvm.Cond.initialized "com/example/isolation/isolation/LockModeJoinPinLaw").before a0 Z = true := hw _ (List.mem_of_getElem? (i := 2) rfl)
theorem tw3 {Z : State} {a0 : Array Value} (hw : ∀ d ∈ tables_1, d.before a0 Z = true) : (Jvm.Cond.code ({ cls := "com/example/isolation/isolation/LockModeJoinPinLaw", name := "mode", desc := "(I)Lcom/example/isolation/isolation/LockMode;" } : Jvm.MethodName) method_2_code (2 : Nat) (Option.some (Jvm.ClassFile.FieldType.object "com/example/isolation/isolation/LockMode"))).before a0 Z = true := hw _ (List.mem_of_getElem? (i := 3) rfl)
theorem tw4 {Z : State} {a0 : Array Value} (hw : ∀ d ∈ tables_1, d.before a0 Z = true) : (Jvm.Cond.fieldLink "com/example/isolation/isolation/LockModeJoinPinLaw" (7 : Nat) "com/example/isolation/isolation/LockMode" "SHARED" "Lcom/example/isolation/isolation/LockMode;").before a0 Z = true := hw _ (List.mem_of_getElem? (i := 4) rfl)
theorem tw5 {Z : State} {a0 : Array Value} (hw : ∀ d ∈ tables_1, d.before a0 Z = true) : (Jvm.Cond.initialized "com/example/isolation/isolation/LockMode").before a0 Z = true := hw _ (List.mem_of_getElem? (i := 5) rfl)
theorem tw6 {Z : State} {a0 : Array Value} (hw : ∀ d ∈ tables_1, d.before a0 Z = true) : (Jvm.Cond.laysStatic "com/example/isolation/isolation/LockMode" "SHARED" "Lcom/example/isolation/isolation/LockMode;").before a0 Z = true := hw _ (List.mem_of_getElem? (i := 6) rfl)
theorem tw7 {Z : State} {a0 : Array Value} (hw : ∀ d ∈ tables_1, d.before a0 Z = true) : (Jvm.Cond.fieldLink "com/example/isolation/isolation/LockModeJoinPinLaw" (19 : Nat) "com/example/isolation/isolation/LockMode" "WRITE" "Lcom/example/isolation/isolation/LockMode;").before a0 Z = true := hw _ (List.mem_of_getElem? (i := 7) rfl)
theorem tw8 {Z : State} {a0 : Array Value} (hw : ∀ d ∈ tables_1, d.before a0 Z = true) : (Jvm.Cond.laysStatic "com/example/isolation/isolation/LockMode" "WRITE" "Lcom/example/isolation/isolation/LockMode;").before a0 Z = true := hw _ (List.mem_of_getElem? (i := 8) rfl)
theorem tw9 {Z : State} {a0 : Array Value} (hw : ∀ d ∈ tables_1, d.before a0 Z = true) : (Jvm.Cond.fieldLink "com/example/isolation/isolation/LockModeJoinPinLaw" (16 : Nat) "com/example/isolation/isolation/LockMode" "MEMBERSHIP" "Lcom/example/isolation/isolation/LockMode;").before a0 Z = true := hw _ (List.mem_of_getElem? (i := 9) rfl)
theorem tw10 {Z : State} {a0 : Array Value} (hw : ∀ d ∈ tables_1, d.before a0 Z = true) : (Jvm.Cond.laysStatic "com/example/isolation/isolation/LockMode" "MEMBERSHIP" "Lcom/example/isolation/isolation/LockMode;").before a0 Z = true := hw _ (List.mem_of_getElem? (i := 10) rfl)
theorem tw11 {Z : State} {a0 : Array Value} (hw : ∀ d ∈ tables_1, d.before a0 Z = true) : (Jvm.Cond.methodLink "com/example/isolation/isolation/LockModeJoinPinLaw" (28 : Nat) ({ cls := "com/example/isolation/isolation/LockMode", name := "join", desc := "(Lcom/example/isolation/isolation/LockMode;)Lcom/example/isolation/isolation/LockMode;" } : Jvm.MethodName)).before a0 Z = true := hw _ (List.mem_of_getElem? (i := 11) rfl)
theorem tw12 {Z : State} {a0 : Array Value} (hw : ∀ d ∈ tables_1, d.before a0 Z = true) : (Jvm.Cond.declares ({ cls := "com/example/isolation/isolation/LockMode", name := "join", desc := "(Lcom/example/isolation/isolation/LockMode;)Lcom/example/isolation/isolation/LockMode;" } : Jvm.MethodName)).before a0 Z = true := hw _ (List.mem_of_getElem? (i := 12) rfl)
theorem tw13 {Z : State} {a0 : Array Value} (hw : ∀ d ∈ tables_1, d.before a0 Z = true) : (Jvm.Cond.instanceMethod ({ cls := "com/example/isolation/isolation/LockMode", name := "join", desc := "(Lcom/example/isolation/isolation/LockMode;)Lcom/example/isolation/isolation/LockMode;" } : Jvm.MethodName)).before a0 Z = true := hw _ (List.mem_of_getElem? (i := 13) rfl)
theorem tw14 {Z : State} {a0 : Array Value} (hw : ∀ d ∈ tables_1, d.before a0 Z = true) : (Jvm.Cond.selects "com/example/isolation/isolation/LockMode" ({ cls := "com/example/isolation/isolation/LockMode", name := "join", desc := "(Lcom/example/isolation/isolation/LockMode;)Lcom/example/isolation/isolation/LockMode;" } : Jvm.MethodName) ({ cls := "com/example/isolation/isolation/LockMode", name := "join", desc := "(Lcom/example/isolation/isolation/LockMode;)Lcom/example/isolation/isolation/LockMode;" } : Jvm.MethodName)).before a0 Z = true := hw _ (List.mem_of_getElem? (i := 14) rfl)
theorem tw15 {Z : State} {a0 : Array Value} (hw : ∀ d ∈ tables_1, d.before a0 Z = true) : (Jvm.Cond.code ({ cls := "com/example/isolation/isolation/LockMode", name := "join", desc := "(Lcom/example/isolation/isolation/LockMode;)Lcom/example/isolation/isolation/LockMode;" } : Jvm.MethodName) prog_29_method_5_code (3 : Nat) (Option.some (Jvm.ClassFile.FieldType.object "com/example/isolation/isolation/LockMode"))).before a0 Z = true := hw _ (List.mem_of_getElem? (i := 15) rfl)
theorem tw16 {Z : State} {a0 : Array Value} (hw : ∀ d ∈ tables_1, d.before a0 Z = true) : (Jvm.Cond.fieldLink "com/example/isolation/isolation/LockMode" (3 : Nat) "com/example/isolation/isolation/LockMode" "SHARED" "Lcom/example/isolation/isolation/LockMode;").before a0 Z = true := hw _ (List.mem_of_getElem? (i := 16) rfl)
theorem tw17 {Z : State} {a0 : Array Value} (hw : ∀ d ∈ tables_1, d.before a0 Z = true) : (Jvm.Cond.methodLink "com/example/isolation/isolation/LockModeJoinPinLaw" (32 : Nat) ({ cls := "com/example/isolation/isolation/LockModeJoinPinLaw", name := "conflictMask", desc := "(Lcom/example/isolation/isolation/LockMode;)I" } : Jvm.MethodName)).before a0 Z = true := hw _ (List.mem_of_getElem? (i := 17) rfl)
theorem tw18 {Z : State} {a0 : Array Value} (hw : ∀ d ∈ tables_1, d.before a0 Z = true) : (Jvm.Cond.static ({ cls := "com/example/isolation/isolation/LockModeJoinPinLaw", name := "conflictMask", desc := "(Lcom/example/isolation/isolation/LockMode;)I" } : Jvm.MethodName)).before a0 Z = true := hw _ (List.mem_of_getElem? (i := 18) rfl)
theorem tw19 {Z : State} {a0 : Array Value} (hw : ∀ d ∈ tables_1, d.before a0 Z = true) : (Jvm.Cond.code ({ cls := "com/example/isolation/isolation/LockModeJoinPinLaw", name := "conflictMask", desc := "(Lcom/example/isolation/isolation/LockMode;)I" } : Jvm.MethodName) method_3_code (1 : Nat) (Option.some Jvm.ClassFile.FieldType.int)).before a0 Z = true := hw _ (List.mem_of_getElem? (i := 19) rfl)
theorem tw20 {Z : State} {a0 : Array Value} (hw : ∀ d ∈ tables_1, d.before a0 Z = true) : (Jvm.Cond.fieldLink "com/example/isolation/isolation/LockModeJoinPinLaw" (13 : Nat) "com/example/isolation/isolation/LockMode" "READ" "Lcom/example/isolation/isolation/LockMode;").before a0 Z = true := hw _ (List.mem_of_getElem? (i := 20) rfl)
theorem tw21 {Z : State} {a0 : Array Value} (hw : ∀ d ∈ tables_1, d.before a0 Z = true) : (Jvm.Cond.laysStatic "com/example/isolation/isolation/LockMode" "READ" "Lcom/example/isolation/isolation/LockMode;").before a0 Z = true := hw _ (List.mem_of_getElem? (i := 21) rfl)
theorem tw22 {Z : State} {a0 : Array Value} (hw : ∀ d ∈ tables_1, d.before a0 Z = true) : (Jvm.Cond.fieldLink "com/example/isolation/isolation/LockMode" (13 : Nat) "com/example/isolation/isolation/LockMode" "WRITE" "Lcom/example/isolation/isolation/LockMode;").before a0 Z = true := hw _ (List.mem_of_getElem? (i := 22) rfl)
abbrev mn0 : MethodName := ⟨"com/example/isolation/isolation/LockModeJoinPinLaw", "mode", "(I)Lcom/example/isolation/isolation/LockMode;"⟩
abbrev mn1 : MethodName := ⟨"com/example/isolation/isolation/LockMode", "join", "(Lcom/example/isolation/isolation/LockMode;)Lcom/example/isolation/isolation/LockMode;"⟩
abbrev mn2 : MethodName := ⟨"com/example/isolation/isolation/LockModeJoinPinLaw", "conflictMask", "(Lcom/example/isolation/isolation/LockMode;)I"⟩
theorem pd_2 : parseMethodDescriptor "(Lcom/example/isolation/isolation/LockMode;)I" = some ⟨[(.object "com/example/isolation/isolation/LockMode")], some .int⟩ := by decide +kernel
theorem pd_1 : parseMethodDescriptor "(Lcom/example/isolation/isolation/LockMode;)Lcom/example/isolation/isolation/LockMode;" = some ⟨[(.object "com/example/isolation/isolation/LockMode")], some (.object "com/example/isolation/isolation/LockMode")⟩ := by decide +kernel
theorem pd_0 : parseMethodDescriptor "(I)Lcom/example/isolation/isolation/LockMode;" = some ⟨[.int], some (.object "com/example/isolation/isolation/LockMode")⟩ := by decide +kernel
def OwnF (Z : State) (h : Heap) (w_SHARED w_WRITE w_MEMBERSHIP w_READ : Addr) : Prop := Sta Z h "com/example/isolation/isolation/LockMode" "SHARED" "Lcom/example/isolation/isolation/LockMode;" (.ref w_SHARED) ∧
  Exa Z h w_SHARED "com/example/isolation/isolation/LockMode" ∧
  Sta Z h "com/example/isolation/isolation/LockMode" "WRITE" "Lcom/example/isolation/isolation/LockMode;" (.ref w_WRITE) ∧
  Exa Z h w_WRITE "com/example/isolation/isolation/LockMode" ∧
  Sta Z h "com/example/isolation/isolation/LockMode" "MEMBERSHIP" "Lcom/example/isolation/isolation/LockMode;" (.ref w_MEMBERSHIP) ∧
  Exa Z h w_MEMBERSHIP "com/example/isolation/isolation/LockMode" ∧
  Sta Z h "com/example/isolation/isolation/LockMode" "READ" "Lcom/example/isolation/isolation/LockMode;" (.ref w_READ) ∧
  Exa Z h w_READ "com/example/isolation/isolation/LockMode" ∧
  Fld Z h w_SHARED "java/lang/Enum" "ordinal" "I" (.int (0 : Int32)) ∧
  Fld Z h w_WRITE "java/lang/Enum" "ordinal" "I" (.int (3 : Int32)) ∧
  Fld Z h w_READ "java/lang/Enum" "ordinal" "I" (.int (1 : Int32)) ∧
  Fld Z h w_MEMBERSHIP "java/lang/Enum" "ordinal" "I" (.int (2 : Int32))
theorem OwnF.ext {Z : State} {h h' : Heap} {w_SHARED w_WRITE w_MEMBERSHIP w_READ : Addr} (E : Ext h h') (F : OwnF Z h w_SHARED w_WRITE w_MEMBERSHIP w_READ) : OwnF Z h' w_SHARED w_WRITE w_MEMBERSHIP w_READ := by
  obtain ⟨S_SHARED, E_SHARED, S_WRITE, E_WRITE, S_MEMBERSHIP, E_MEMBERSHIP, S_READ, E_READ, F_SHARED_ordinal, F_WRITE_ordinal, F_READ_ordinal, F_MEMBERSHIP_ordinal⟩ := F
  exact ⟨S_SHARED.ext E, E_SHARED.ext E, S_WRITE.ext E, E_WRITE.ext E, S_MEMBERSHIP.ext E, E_MEMBERSHIP.ext E, S_READ.ext E, E_READ.ext E, F_SHARED_ordinal.ext E, F_WRITE_ordinal.ext E, F_READ_ordinal.ext E, F_MEMBERSHIP_ordinal.ext E⟩
theorem own_rng4 {v : Int32} (h0 : 0 ≤ v.toInt) (h1 : v.toInt < 4) : v = 0 ∨ v = 1 ∨ v = 2 ∨ v = 3 := by
  rcases (by omega : v.toInt = 0 ∨ v.toInt = 1 ∨ v.toInt = 2 ∨ v.toInt = 3) with h | h | h | h
  · exact Or.inl (Int32.toInt_inj.mp (h.trans (by decide)))
  · exact Or.inr (Or.inl (Int32.toInt_inj.mp (h.trans (by decide))))
  · exact Or.inr (Or.inr (Or.inl (Int32.toInt_inj.mp (h.trans (by decide)))))
  · exact Or.inr (Or.inr (Or.inr ((Int32.toInt_inj.mp (h.trans (by decide))))))
theorem own_and3 (x : Int32) : x &&& 3 = 0 ∨ x &&& 3 = 1 ∨ x &&& 3 = 2 ∨ x &&& 3 = 3 := by
  have e := c_mask x 3 2 (by decide) (by decide)
  exact own_rng4 (by rw [e]; omega) (by rw [e]; omega)
theorem d1_0 : decode method_2_code 0 = .ok (.iload_n 0, 1) := by decide +kernel
theorem d1_1 : decode method_2_code 1 = .ok (.iconst 3, 1) := by decide +kernel
theorem d1_2 : decode method_2_code 2 = .ok (.iand, 1) := by decide +kernel
theorem d1_3 : decode method_2_code 3 = .ok (.istore_n 1, 1) := by decide +kernel
theorem d1_4 : decode method_2_code 4 = .ok (.iload_n 1, 1) := by decide +kernel
theorem d1_5 : decode method_2_code 5 = .ok (.ifCond .ne 7, 3) := by decide +kernel
theorem d1_8 : decode method_2_code 8 = .ok (.getstatic 7, 3) := by decide +kernel
theorem d1_11 : decode method_2_code 11 = .ok (.areturn, 1) := by decide +kernel
theorem pn_rm_mode0 : plainName "com/example/isolation/isolation/LockModeJoinPinLaw" = true := by first | (simp [plainName, overriddenIn]; done) | decide +kernel
set_option maxRecDepth 65536 in
set_option maxHeartbeats 40000000 in
theorem rm_mode0 (l : Launch) (Z : State) (a0 : Array Value) (hw : ∀ d ∈ tables_1, d.before a0 Z = true) (q0 : Int32) (hk : q0 &&& 3 = 0) (w_SHARED w_WRITE w_MEMBERSHIP w_READ : Addr) (h0 : Heap) (F0 : OwnF Z h0 w_SHARED w_WRITE w_MEMBERSHIP w_READ) :
    OMeets l Z mn0 method_2_code 2 (some (.object "com/example/isolation/isolation/LockMode")) [] ({ frames := 0, cells := 0, slots := 0, locals := 0 } : Room) #[(.int q0)] h0 (PureQ (some (.ref w_SHARED)) h0) := by
  refine OMeets.of pn_rm_mode0 #[.val (.int q0), .unset] (fun m => by first | rfl | (simp [entryFrame, mkF, argsToLocals, Value.category, maxLocals]; done)) ?_
  intro p e s m below meth c s₁ B X0 e0
  have F := F0
  obtain ⟨S_SHARED, E_SHARED, S_WRITE, E_WRITE, S_MEMBERSHIP, E_MEMBERSHIP, S_READ, E_READ, F_SHARED_ordinal, F_WRITE_ordinal, F_READ_ordinal, F_MEMBERSHIP_ordinal⟩ := F
  refine s_iloadN B X0 (pc' := 1) d1_0 rfl rfl ?_
  refine s_iconst B X0 (pc' := 2) (v := (3 : Int32)) d1_1 rfl rfl ?_
  refine s_iand B X0 (pc' := 3) (v := (0 : Int32)) d1_2 (hk) rfl ?_
  refine s_istoreN B X0 (pc' := 4) (Ls' := #[.val (.int q0), .val (.int (0 : Int32))]) d1_3 rfl rfl ?_
  refine s_iloadN B X0 (pc' := 5) d1_4 rfl rfl ?_
  refine s_ifN B X0 (pc' := 8) d1_5 (by decide) rfl ?_
  refine s_getS B X0 (pc' := 11) e0 (tw4 hw) Via.refl S_SHARED d1_8 rfl (fun T1 X1 e1 => ?_)
  exact r_ref B X1 (t := (.object "com/example/isolation/isolation/LockMode")) rfl rfl rfl rfl d1_11 ⟨rfl, rfl, e1⟩ (by decide) (by decide)
theorem d1_12 : decode method_2_code 12 = .ok (.iload_n 1, 1) := by decide +kernel
theorem d1_13 : decode method_2_code 13 = .ok (.iconst 1, 1) := by decide +kernel
theorem d1_14 : decode method_2_code 14 = .ok (.if_icmp .ne 7, 3) := by decide +kernel
theorem d1_17 : decode method_2_code 17 = .ok (.getstatic 13, 3) := by decide +kernel
theorem d1_20 : decode method_2_code 20 = .ok (.areturn, 1) := by decide +kernel
theorem pn_rm_mode1 : plainName "com/example/isolation/isolation/LockModeJoinPinLaw" = true := by first | (simp [plainName, overriddenIn]; done) | decide +kernel
set_option maxRecDepth 65536 in
set_option maxHeartbeats 40000000 in
theorem rm_mode1 (l : Launch) (Z : State) (a0 : Array Value) (hw : ∀ d ∈ tables_1, d.before a0 Z = true) (q0 : Int32) (hk : q0 &&& 3 = 1) (w_SHARED w_WRITE w_MEMBERSHIP w_READ : Addr) (h0 : Heap) (F0 : OwnF Z h0 w_SHARED w_WRITE w_MEMBERSHIP w_READ) :
    OMeets l Z mn0 method_2_code 2 (some (.object "com/example/isolation/isolation/LockMode")) [] ({ frames := 0, cells := 0, slots := 0, locals := 0 } : Room) #[(.int q0)] h0 (PureQ (some (.ref w_READ)) h0) := by
  refine OMeets.of pn_rm_mode1 #[.val (.int q0), .unset] (fun m => by first | rfl | (simp [entryFrame, mkF, argsToLocals, Value.category, maxLocals]; done)) ?_
  intro p e s m below meth c s₁ B X0 e0
  have F := F0
  obtain ⟨S_SHARED, E_SHARED, S_WRITE, E_WRITE, S_MEMBERSHIP, E_MEMBERSHIP, S_READ, E_READ, F_SHARED_ordinal, F_WRITE_ordinal, F_READ_ordinal, F_MEMBERSHIP_ordinal⟩ := F
  refine s_iloadN B X0 (pc' := 1) d1_0 rfl rfl ?_
  refine s_iconst B X0 (pc' := 2) (v := (3 : Int32)) d1_1 rfl rfl ?_
  refine s_iand B X0 (pc' := 3) (v := (1 : Int32)) d1_2 (hk) rfl ?_
  refine s_istoreN B X0 (pc' := 4) (Ls' := #[.val (.int q0), .val (.int (1 : Int32))]) d1_3 rfl rfl ?_
  refine s_iloadN B X0 (pc' := 5) d1_4 rfl rfl ?_
  refine s_ifY B X0 (pc' := 12) d1_5 (by decide) (by decide) (by decide) ?_
  refine s_iloadN B X0 (pc' := 13) d1_12 rfl rfl ?_
  refine s_iconst B X0 (pc' := 14) (v := (1 : Int32)) d1_13 rfl rfl ?_
  refine s_icmpN B X0 (pc' := 17) d1_14 (by decide) rfl ?_
  refine s_getS B X0 (pc' := 20) e0 (tw20 hw) Via.refl S_READ d1_17 rfl (fun T1 X1 e1 => ?_)
  exact r_ref B X1 (t := (.object "com/example/isolation/isolation/LockMode")) rfl rfl rfl rfl d1_20 ⟨rfl, rfl, e1⟩ (by decide) (by decide)
theorem d1_21 : decode method_2_code 21 = .ok (.iload_n 1, 1) := by decide +kernel
theorem d1_22 : decode method_2_code 22 = .ok (.iconst 2, 1) := by decide +kernel
theorem d1_23 : decode method_2_code 23 = .ok (.if_icmp .ne 7, 3) := by decide +kernel
theorem d1_26 : decode method_2_code 26 = .ok (.getstatic 16, 3) := by decide +kernel
theorem d1_29 : decode method_2_code 29 = .ok (.areturn, 1) := by decide +kernel
theorem pn_rm_mode2 : plainName "com/example/isolation/isolation/LockModeJoinPinLaw" = true := by first | (simp [plainName, overriddenIn]; done) | decide +kernel
set_option maxRecDepth 65536 in
set_option maxHeartbeats 40000000 in
theorem rm_mode2 (l : Launch) (Z : State) (a0 : Array Value) (hw : ∀ d ∈ tables_1, d.before a0 Z = true) (q0 : Int32) (hk : q0 &&& 3 = 2) (w_SHARED w_WRITE w_MEMBERSHIP w_READ : Addr) (h0 : Heap) (F0 : OwnF Z h0 w_SHARED w_WRITE w_MEMBERSHIP w_READ) :
    OMeets l Z mn0 method_2_code 2 (some (.object "com/example/isolation/isolation/LockMode")) [] ({ frames := 0, cells := 0, slots := 0, locals := 0 } : Room) #[(.int q0)] h0 (PureQ (some (.ref w_MEMBERSHIP)) h0) := by
  refine OMeets.of pn_rm_mode2 #[.val (.int q0), .unset] (fun m => by first | rfl | (simp [entryFrame, mkF, argsToLocals, Value.category, maxLocals]; done)) ?_
  intro p e s m below meth c s₁ B X0 e0
  have F := F0
  obtain ⟨S_SHARED, E_SHARED, S_WRITE, E_WRITE, S_MEMBERSHIP, E_MEMBERSHIP, S_READ, E_READ, F_SHARED_ordinal, F_WRITE_ordinal, F_READ_ordinal, F_MEMBERSHIP_ordinal⟩ := F
  refine s_iloadN B X0 (pc' := 1) d1_0 rfl rfl ?_
  refine s_iconst B X0 (pc' := 2) (v := (3 : Int32)) d1_1 rfl rfl ?_
  refine s_iand B X0 (pc' := 3) (v := (2 : Int32)) d1_2 (hk) rfl ?_
  refine s_istoreN B X0 (pc' := 4) (Ls' := #[.val (.int q0), .val (.int (2 : Int32))]) d1_3 rfl rfl ?_
  refine s_iloadN B X0 (pc' := 5) d1_4 rfl rfl ?_
  refine s_ifY B X0 (pc' := 12) d1_5 (by decide) (by decide) (by decide) ?_
  refine s_iloadN B X0 (pc' := 13) d1_12 rfl rfl ?_
  refine s_iconst B X0 (pc' := 14) (v := (1 : Int32)) d1_13 rfl rfl ?_
  refine s_icmpY B X0 (pc' := 21) d1_14 (by decide) (by decide) (by decide) ?_
  refine s_iloadN B X0 (pc' := 22) d1_21 rfl rfl ?_
  refine s_iconst B X0 (pc' := 23) (v := (2 : Int32)) d1_22 rfl rfl ?_
  refine s_icmpN B X0 (pc' := 26) d1_23 (by decide) rfl ?_
  refine s_getS B X0 (pc' := 29) e0 (tw9 hw) Via.refl S_MEMBERSHIP d1_26 rfl (fun T1 X1 e1 => ?_)
  exact r_ref B X1 (t := (.object "com/example/isolation/isolation/LockMode")) rfl rfl rfl rfl d1_29 ⟨rfl, rfl, e1⟩ (by decide) (by decide)
theorem d1_30 : decode method_2_code 30 = .ok (.getstatic 19, 3) := by decide +kernel
theorem d1_33 : decode method_2_code 33 = .ok (.areturn, 1) := by decide +kernel
theorem pn_rm_mode3 : plainName "com/example/isolation/isolation/LockModeJoinPinLaw" = true := by first | (simp [plainName, overriddenIn]; done) | decide +kernel
set_option maxRecDepth 65536 in
set_option maxHeartbeats 40000000 in
theorem rm_mode3 (l : Launch) (Z : State) (a0 : Array Value) (hw : ∀ d ∈ tables_1, d.before a0 Z = true) (q0 : Int32) (hk : q0 &&& 3 = 3) (w_SHARED w_WRITE w_MEMBERSHIP w_READ : Addr) (h0 : Heap) (F0 : OwnF Z h0 w_SHARED w_WRITE w_MEMBERSHIP w_READ) :
    OMeets l Z mn0 method_2_code 2 (some (.object "com/example/isolation/isolation/LockMode")) [] ({ frames := 0, cells := 0, slots := 0, locals := 0 } : Room) #[(.int q0)] h0 (PureQ (some (.ref w_WRITE)) h0) := by
  refine OMeets.of pn_rm_mode3 #[.val (.int q0), .unset] (fun m => by first | rfl | (simp [entryFrame, mkF, argsToLocals, Value.category, maxLocals]; done)) ?_
  intro p e s m below meth c s₁ B X0 e0
  have F := F0
  obtain ⟨S_SHARED, E_SHARED, S_WRITE, E_WRITE, S_MEMBERSHIP, E_MEMBERSHIP, S_READ, E_READ, F_SHARED_ordinal, F_WRITE_ordinal, F_READ_ordinal, F_MEMBERSHIP_ordinal⟩ := F
  refine s_iloadN B X0 (pc' := 1) d1_0 rfl rfl ?_
  refine s_iconst B X0 (pc' := 2) (v := (3 : Int32)) d1_1 rfl rfl ?_
  refine s_iand B X0 (pc' := 3) (v := (3 : Int32)) d1_2 (hk) rfl ?_
  refine s_istoreN B X0 (pc' := 4) (Ls' := #[.val (.int q0), .val (.int (3 : Int32))]) d1_3 rfl rfl ?_
  refine s_iloadN B X0 (pc' := 5) d1_4 rfl rfl ?_
  refine s_ifY B X0 (pc' := 12) d1_5 (by decide) (by decide) (by decide) ?_
  refine s_iloadN B X0 (pc' := 13) d1_12 rfl rfl ?_
  refine s_iconst B X0 (pc' := 14) (v := (1 : Int32)) d1_13 rfl rfl ?_
  refine s_icmpY B X0 (pc' := 21) d1_14 (by decide) (by decide) (by decide) ?_
  refine s_iloadN B X0 (pc' := 22) d1_21 rfl rfl ?_
  refine s_iconst B X0 (pc' := 23) (v := (2 : Int32)) d1_22 rfl rfl ?_
  refine s_icmpY B X0 (pc' := 30) d1_23 (by decide) (by decide) (by decide) ?_
  refine s_getS B X0 (pc' := 33) e0 (tw7 hw) Via.refl S_WRITE d1_30 rfl (fun T1 X1 e1 => ?_)
  exact r_ref B X1 (t := (.object "com/example/isolation/isolation/LockMode")) rfl rfl rfl rfl d1_33 ⟨rfl, rfl, e1⟩ (by decide) (by decide)
theorem d2_0 : decode prog_29_method_5_code 0 = .ok (.aload_n 0, 1) := by decide +kernel
theorem d2_1 : decode prog_29_method_5_code 1 = .ok (.aload_n 1, 1) := by decide +kernel
theorem d2_2 : decode prog_29_method_5_code 2 = .ok (.if_acmp .eq 10, 3) := by decide +kernel
theorem d2_12 : decode prog_29_method_5_code 12 = .ok (.aload_n 0, 1) := by decide +kernel
theorem d2_13 : decode prog_29_method_5_code 13 = .ok (.astore_n 2, 1) := by decide +kernel
theorem d2_14 : decode prog_29_method_5_code 14 = .ok (.goto 19, 3) := by decide +kernel
theorem d2_33 : decode prog_29_method_5_code 33 = .ok (.aload_n 2, 1) := by decide +kernel
theorem d2_34 : decode prog_29_method_5_code 34 = .ok (.areturn, 1) := by decide +kernel
theorem pn_rm2_0 : plainName "com/example/isolation/isolation/LockMode" = true := by first | (simp [plainName, overriddenIn]; done) | decide +kernel
set_option maxRecDepth 65536 in
set_option maxHeartbeats 40000000 in
theorem rm2_0 (l : Launch) (Z : State) (a0 : Array Value) (hw : ∀ d ∈ tables_1, d.before a0 Z = true)  (w_SHARED w_WRITE w_MEMBERSHIP w_READ : Addr) (h0 : Heap) (F0 : OwnF Z h0 w_SHARED w_WRITE w_MEMBERSHIP w_READ)  :
    OMeets l Z mn1 prog_29_method_5_code 3 (some (.object "com/example/isolation/isolation/LockMode")) [] ({ frames := 0, cells := 0, slots := 0, locals := 0 } : Room) #[(.ref w_SHARED), (.ref w_SHARED)] h0 (PureQ (some (.ref w_SHARED)) h0) := by
  refine OMeets.of pn_rm2_0 #[.val (.ref w_SHARED), .val (.ref w_SHARED), .unset] (fun m => by first | rfl | (simp [entryFrame, mkF, argsToLocals, Value.category, maxLocals]; done)) ?_
  intro p e s m below meth c s₁ B X0 e0
  have F := F0
  obtain ⟨S_SHARED, E_SHARED, S_WRITE, E_WRITE, S_MEMBERSHIP, E_MEMBERSHIP, S_READ, E_READ, F_SHARED_ordinal, F_WRITE_ordinal, F_READ_ordinal, F_MEMBERSHIP_ordinal⟩ := F
  refine s_aloadN B X0 (pc' := 1) d2_0 rfl rfl rfl ?_
  refine s_aloadN B X0 (pc' := 2) d2_1 rfl rfl rfl ?_
  refine b_acmp_eq B X0 (py := 12) (pn := 5) d2_2 (by decide) (by decide) rfl (fun _ => ?_) (fun q => absurd rfl q)
  refine s_aloadN B X0 (pc' := 13) d2_12 rfl rfl rfl ?_
  refine s_astoreN B X0 (pc' := 14) (Ls' := #[.val (.ref w_SHARED), .val (.ref w_SHARED), .val (.ref w_SHARED)]) d2_13 rfl rfl rfl ?_
  refine s_goto B X0 (pc' := 33) d2_14 (by decide) (by decide) ?_
  refine s_aloadN B X0 (pc' := 34) d2_33 rfl rfl rfl ?_
  exact r_ref B X0 (t := (.object "com/example/isolation/isolation/LockMode")) rfl rfl rfl rfl d2_34 ⟨rfl, rfl, e0⟩ (by decide) (by decide)
theorem d3_0 : decode method_3_code 0 = .ok (.aload_n 0, 1) := by decide +kernel
theorem d3_1 : decode method_3_code 1 = .ok (.getstatic 7, 3) := by decide +kernel
theorem d3_4 : decode method_3_code 4 = .ok (.if_acmp .ne 6, 3) := by decide +kernel
theorem d3_7 : decode method_3_code 7 = .ok (.bipush 8, 2) := by decide +kernel
theorem d3_9 : decode method_3_code 9 = .ok (.ireturn, 1) := by decide +kernel
theorem pn_rm3_1 : plainName "com/example/isolation/isolation/LockModeJoinPinLaw" = true := by first | (simp [plainName, overriddenIn]; done) | decide +kernel
set_option maxRecDepth 65536 in
set_option maxHeartbeats 40000000 in
theorem rm3_1 (l : Launch) (Z : State) (a0 : Array Value) (hw : ∀ d ∈ tables_1, d.before a0 Z = true)  (w_SHARED w_WRITE w_MEMBERSHIP w_READ : Addr) (h0 : Heap) (F0 : OwnF Z h0 w_SHARED w_WRITE w_MEMBERSHIP w_READ)  :
    OMeets l Z mn2 method_3_code 1 (some .int) [] ({ frames := 0, cells := 0, slots := 0, locals := 0 } : Room) #[(.ref w_SHARED)] h0 (PureQ (some (.int (8 : Int32))) h0) := by
  refine OMeets.of pn_rm3_1 #[.val (.ref w_SHARED)] (fun m => by first | rfl | (simp [entryFrame, mkF, argsToLocals, Value.category, maxLocals]; done)) ?_
  intro p e s m below meth c s₁ B X0 e0
  have F := F0
  obtain ⟨S_SHARED, E_SHARED, S_WRITE, E_WRITE, S_MEMBERSHIP, E_MEMBERSHIP, S_READ, E_READ, F_SHARED_ordinal, F_WRITE_ordinal, F_READ_ordinal, F_MEMBERSHIP_ordinal⟩ := F
  refine s_aloadN B X0 (pc' := 1) d3_0 rfl rfl rfl ?_
  refine s_getS B X0 (pc' := 4) e0 (tw4 hw) Via.refl S_SHARED d3_1 rfl (fun T1 X1 e1 => ?_)
  refine b_acmp_ne B X1 (py := 10) (pn := 7) d3_4 (by decide) (by decide) rfl (fun q => absurd rfl q) (fun _ => ?_)
  refine s_bipush B X1 (pc' := 9) (v := (8 : Int32)) d3_7 rfl rfl ?_
  exact r_int B X1 rfl d3_9 ⟨rfl, rfl, e1⟩ (by decide) (by decide)
theorem own_ne_w_READ_w_SHARED {Z : State} {h : Heap} {w_SHARED w_WRITE w_MEMBERSHIP w_READ : Addr} (F : OwnF Z h w_SHARED w_WRITE w_MEMBERSHIP w_READ) : ¬ w_READ = w_SHARED := by
  obtain ⟨S_SHARED, E_SHARED, S_WRITE, E_WRITE, S_MEMBERSHIP, E_MEMBERSHIP, S_READ, E_READ, F_SHARED_ordinal, F_WRITE_ordinal, F_READ_ordinal, F_MEMBERSHIP_ordinal⟩ := F
  exact F_READ_ordinal.ne F_SHARED_ordinal (by decide)
theorem d3_10 : decode method_3_code 10 = .ok (.aload_n 0, 1) := by decide +kernel
theorem d3_11 : decode method_3_code 11 = .ok (.getstatic 13, 3) := by decide +kernel
theorem d3_14 : decode method_3_code 14 = .ok (.if_acmp .ne 6, 3) := by decide +kernel
theorem d3_17 : decode method_3_code 17 = .ok (.bipush 12, 2) := by decide +kernel
theorem d3_19 : decode method_3_code 19 = .ok (.ireturn, 1) := by decide +kernel
theorem pn_rm3_2 : plainName "com/example/isolation/isolation/LockModeJoinPinLaw" = true := by first | (simp [plainName, overriddenIn]; done) | decide +kernel
set_option maxRecDepth 65536 in
set_option maxHeartbeats 40000000 in
theorem rm3_2 (l : Launch) (Z : State) (a0 : Array Value) (hw : ∀ d ∈ tables_1, d.before a0 Z = true)  (w_SHARED w_WRITE w_MEMBERSHIP w_READ : Addr) (h0 : Heap) (F0 : OwnF Z h0 w_SHARED w_WRITE w_MEMBERSHIP w_READ)  :
    OMeets l Z mn2 method_3_code 1 (some .int) [] ({ frames := 0, cells := 0, slots := 0, locals := 0 } : Room) #[(.ref w_READ)] h0 (PureQ (some (.int (12 : Int32))) h0) := by
  refine OMeets.of pn_rm3_2 #[.val (.ref w_READ)] (fun m => by first | rfl | (simp [entryFrame, mkF, argsToLocals, Value.category, maxLocals]; done)) ?_
  intro p e s m below meth c s₁ B X0 e0
  have F := F0
  obtain ⟨S_SHARED, E_SHARED, S_WRITE, E_WRITE, S_MEMBERSHIP, E_MEMBERSHIP, S_READ, E_READ, F_SHARED_ordinal, F_WRITE_ordinal, F_READ_ordinal, F_MEMBERSHIP_ordinal⟩ := F
  refine s_aloadN B X0 (pc' := 1) d3_0 rfl rfl rfl ?_
  refine s_getS B X0 (pc' := 4) e0 (tw4 hw) Via.refl S_SHARED d3_1 rfl (fun T1 X1 e1 => ?_)
  refine b_acmp_ne B X1 (py := 10) (pn := 7) d3_4 (by decide) (by decide) rfl (fun _ => ?_) (fun q => absurd q (own_ne_w_READ_w_SHARED F0))
  refine s_aloadN B X1 (pc' := 11) d3_10 rfl rfl rfl ?_
  refine s_getS B X1 (pc' := 14) e1 (tw20 hw) Via.refl S_READ d3_11 rfl (fun T2 X2 e2 => ?_)
  refine b_acmp_ne B X2 (py := 20) (pn := 17) d3_14 (by decide) (by decide) rfl (fun q => absurd rfl q) (fun _ => ?_)
  refine s_bipush B X2 (pc' := 19) (v := (12 : Int32)) d3_17 rfl rfl ?_
  exact r_int B X2 rfl d3_19 ⟨rfl, rfl, e2⟩ (by decide) (by decide)
theorem own_ne_w_MEMBERSHIP_w_SHARED {Z : State} {h : Heap} {w_SHARED w_WRITE w_MEMBERSHIP w_READ : Addr} (F : OwnF Z h w_SHARED w_WRITE w_MEMBERSHIP w_READ) : ¬ w_MEMBERSHIP = w_SHARED := by
  obtain ⟨S_SHARED, E_SHARED, S_WRITE, E_WRITE, S_MEMBERSHIP, E_MEMBERSHIP, S_READ, E_READ, F_SHARED_ordinal, F_WRITE_ordinal, F_READ_ordinal, F_MEMBERSHIP_ordinal⟩ := F
  exact F_MEMBERSHIP_ordinal.ne F_SHARED_ordinal (by decide)
theorem own_ne_w_MEMBERSHIP_w_READ {Z : State} {h : Heap} {w_SHARED w_WRITE w_MEMBERSHIP w_READ : Addr} (F : OwnF Z h w_SHARED w_WRITE w_MEMBERSHIP w_READ) : ¬ w_MEMBERSHIP = w_READ := by
  obtain ⟨S_SHARED, E_SHARED, S_WRITE, E_WRITE, S_MEMBERSHIP, E_MEMBERSHIP, S_READ, E_READ, F_SHARED_ordinal, F_WRITE_ordinal, F_READ_ordinal, F_MEMBERSHIP_ordinal⟩ := F
  exact F_MEMBERSHIP_ordinal.ne F_READ_ordinal (by decide)
theorem d3_20 : decode method_3_code 20 = .ok (.aload_n 0, 1) := by decide +kernel
theorem d3_21 : decode method_3_code 21 = .ok (.getstatic 16, 3) := by decide +kernel
theorem d3_24 : decode method_3_code 24 = .ok (.if_acmp .ne 6, 3) := by decide +kernel
theorem d3_27 : decode method_3_code 27 = .ok (.bipush 10, 2) := by decide +kernel
theorem d3_29 : decode method_3_code 29 = .ok (.ireturn, 1) := by decide +kernel
theorem pn_rm3_3 : plainName "com/example/isolation/isolation/LockModeJoinPinLaw" = true := by first | (simp [plainName, overriddenIn]; done) | decide +kernel
set_option maxRecDepth 65536 in
set_option maxHeartbeats 40000000 in
theorem rm3_3 (l : Launch) (Z : State) (a0 : Array Value) (hw : ∀ d ∈ tables_1, d.before a0 Z = true)  (w_SHARED w_WRITE w_MEMBERSHIP w_READ : Addr) (h0 : Heap) (F0 : OwnF Z h0 w_SHARED w_WRITE w_MEMBERSHIP w_READ)  :
    OMeets l Z mn2 method_3_code 1 (some .int) [] ({ frames := 0, cells := 0, slots := 0, locals := 0 } : Room) #[(.ref w_MEMBERSHIP)] h0 (PureQ (some (.int (10 : Int32))) h0) := by
  refine OMeets.of pn_rm3_3 #[.val (.ref w_MEMBERSHIP)] (fun m => by first | rfl | (simp [entryFrame, mkF, argsToLocals, Value.category, maxLocals]; done)) ?_
  intro p e s m below meth c s₁ B X0 e0
  have F := F0
  obtain ⟨S_SHARED, E_SHARED, S_WRITE, E_WRITE, S_MEMBERSHIP, E_MEMBERSHIP, S_READ, E_READ, F_SHARED_ordinal, F_WRITE_ordinal, F_READ_ordinal, F_MEMBERSHIP_ordinal⟩ := F
  refine s_aloadN B X0 (pc' := 1) d3_0 rfl rfl rfl ?_
  refine s_getS B X0 (pc' := 4) e0 (tw4 hw) Via.refl S_SHARED d3_1 rfl (fun T1 X1 e1 => ?_)
  refine b_acmp_ne B X1 (py := 10) (pn := 7) d3_4 (by decide) (by decide) rfl (fun _ => ?_) (fun q => absurd q (own_ne_w_MEMBERSHIP_w_SHARED F0))
  refine s_aloadN B X1 (pc' := 11) d3_10 rfl rfl rfl ?_
  refine s_getS B X1 (pc' := 14) e1 (tw20 hw) Via.refl S_READ d3_11 rfl (fun T2 X2 e2 => ?_)
  refine b_acmp_ne B X2 (py := 20) (pn := 17) d3_14 (by decide) (by decide) rfl (fun _ => ?_) (fun q => absurd q (own_ne_w_MEMBERSHIP_w_READ F0))
  refine s_aloadN B X2 (pc' := 21) d3_20 rfl rfl rfl ?_
  refine s_getS B X2 (pc' := 24) e2 (tw9 hw) Via.refl S_MEMBERSHIP d3_21 rfl (fun T3 X3 e3 => ?_)
  refine b_acmp_ne B X3 (py := 30) (pn := 27) d3_24 (by decide) (by decide) rfl (fun q => absurd rfl q) (fun _ => ?_)
  refine s_bipush B X3 (pc' := 29) (v := (10 : Int32)) d3_27 rfl rfl ?_
  exact r_int B X3 rfl d3_29 ⟨rfl, rfl, e3⟩ (by decide) (by decide)
theorem own_ne_w_WRITE_w_SHARED {Z : State} {h : Heap} {w_SHARED w_WRITE w_MEMBERSHIP w_READ : Addr} (F : OwnF Z h w_SHARED w_WRITE w_MEMBERSHIP w_READ) : ¬ w_WRITE = w_SHARED := by
  obtain ⟨S_SHARED, E_SHARED, S_WRITE, E_WRITE, S_MEMBERSHIP, E_MEMBERSHIP, S_READ, E_READ, F_SHARED_ordinal, F_WRITE_ordinal, F_READ_ordinal, F_MEMBERSHIP_ordinal⟩ := F
  exact F_WRITE_ordinal.ne F_SHARED_ordinal (by decide)
theorem own_ne_w_WRITE_w_READ {Z : State} {h : Heap} {w_SHARED w_WRITE w_MEMBERSHIP w_READ : Addr} (F : OwnF Z h w_SHARED w_WRITE w_MEMBERSHIP w_READ) : ¬ w_WRITE = w_READ := by
  obtain ⟨S_SHARED, E_SHARED, S_WRITE, E_WRITE, S_MEMBERSHIP, E_MEMBERSHIP, S_READ, E_READ, F_SHARED_ordinal, F_WRITE_ordinal, F_READ_ordinal, F_MEMBERSHIP_ordinal⟩ := F
  exact F_WRITE_ordinal.ne F_READ_ordinal (by decide)
theorem own_ne_w_WRITE_w_MEMBERSHIP {Z : State} {h : Heap} {w_SHARED w_WRITE w_MEMBERSHIP w_READ : Addr} (F : OwnF Z h w_SHARED w_WRITE w_MEMBERSHIP w_READ) : ¬ w_WRITE = w_MEMBERSHIP := by
  obtain ⟨S_SHARED, E_SHARED, S_WRITE, E_WRITE, S_MEMBERSHIP, E_MEMBERSHIP, S_READ, E_READ, F_SHARED_ordinal, F_WRITE_ordinal, F_READ_ordinal, F_MEMBERSHIP_ordinal⟩ := F
  exact F_WRITE_ordinal.ne F_MEMBERSHIP_ordinal (by decide)
theorem d3_30 : decode method_3_code 30 = .ok (.aload_n 0, 1) := by decide +kernel
theorem d3_31 : decode method_3_code 31 = .ok (.getstatic 19, 3) := by decide +kernel
theorem d3_34 : decode method_3_code 34 = .ok (.if_acmp .ne 6, 3) := by decide +kernel
theorem d3_37 : decode method_3_code 37 = .ok (.bipush 15, 2) := by decide +kernel
theorem d3_39 : decode method_3_code 39 = .ok (.ireturn, 1) := by decide +kernel
theorem pn_rm3_4 : plainName "com/example/isolation/isolation/LockModeJoinPinLaw" = true := by first | (simp [plainName, overriddenIn]; done) | decide +kernel
set_option maxRecDepth 65536 in
set_option maxHeartbeats 40000000 in
theorem rm3_4 (l : Launch) (Z : State) (a0 : Array Value) (hw : ∀ d ∈ tables_1, d.before a0 Z = true)  (w_SHARED w_WRITE w_MEMBERSHIP w_READ : Addr) (h0 : Heap) (F0 : OwnF Z h0 w_SHARED w_WRITE w_MEMBERSHIP w_READ)  :
    OMeets l Z mn2 method_3_code 1 (some .int) [] ({ frames := 0, cells := 0, slots := 0, locals := 0 } : Room) #[(.ref w_WRITE)] h0 (PureQ (some (.int (15 : Int32))) h0) := by
  refine OMeets.of pn_rm3_4 #[.val (.ref w_WRITE)] (fun m => by first | rfl | (simp [entryFrame, mkF, argsToLocals, Value.category, maxLocals]; done)) ?_
  intro p e s m below meth c s₁ B X0 e0
  have F := F0
  obtain ⟨S_SHARED, E_SHARED, S_WRITE, E_WRITE, S_MEMBERSHIP, E_MEMBERSHIP, S_READ, E_READ, F_SHARED_ordinal, F_WRITE_ordinal, F_READ_ordinal, F_MEMBERSHIP_ordinal⟩ := F
  refine s_aloadN B X0 (pc' := 1) d3_0 rfl rfl rfl ?_
  refine s_getS B X0 (pc' := 4) e0 (tw4 hw) Via.refl S_SHARED d3_1 rfl (fun T1 X1 e1 => ?_)
  refine b_acmp_ne B X1 (py := 10) (pn := 7) d3_4 (by decide) (by decide) rfl (fun _ => ?_) (fun q => absurd q (own_ne_w_WRITE_w_SHARED F0))
  refine s_aloadN B X1 (pc' := 11) d3_10 rfl rfl rfl ?_
  refine s_getS B X1 (pc' := 14) e1 (tw20 hw) Via.refl S_READ d3_11 rfl (fun T2 X2 e2 => ?_)
  refine b_acmp_ne B X2 (py := 20) (pn := 17) d3_14 (by decide) (by decide) rfl (fun _ => ?_) (fun q => absurd q (own_ne_w_WRITE_w_READ F0))
  refine s_aloadN B X2 (pc' := 21) d3_20 rfl rfl rfl ?_
  refine s_getS B X2 (pc' := 24) e2 (tw9 hw) Via.refl S_MEMBERSHIP d3_21 rfl (fun T3 X3 e3 => ?_)
  refine b_acmp_ne B X3 (py := 30) (pn := 27) d3_24 (by decide) (by decide) rfl (fun _ => ?_) (fun q => absurd q (own_ne_w_WRITE_w_MEMBERSHIP F0))
  refine s_aloadN B X3 (pc' := 31) d3_30 rfl rfl rfl ?_
  refine s_getS B X3 (pc' := 34) e3 (tw7 hw) Via.refl S_WRITE d3_31 rfl (fun T4 X4 e4 => ?_)
  refine b_acmp_ne B X4 (py := 40) (pn := 37) d3_34 (by decide) (by decide) rfl (fun q => absurd rfl q) (fun _ => ?_)
  refine s_bipush B X4 (pc' := 39) (v := (15 : Int32)) d3_37 rfl rfl ?_
  exact r_int B X4 rfl d3_39 ⟨rfl, rfl, e4⟩ (by decide) (by decide)
theorem own_ne_w_SHARED_w_READ {Z : State} {h : Heap} {w_SHARED w_WRITE w_MEMBERSHIP w_READ : Addr} (F : OwnF Z h w_SHARED w_WRITE w_MEMBERSHIP w_READ) : ¬ w_SHARED = w_READ := by
  obtain ⟨S_SHARED, E_SHARED, S_WRITE, E_WRITE, S_MEMBERSHIP, E_MEMBERSHIP, S_READ, E_READ, F_SHARED_ordinal, F_WRITE_ordinal, F_READ_ordinal, F_MEMBERSHIP_ordinal⟩ := F
  exact F_SHARED_ordinal.ne F_READ_ordinal (by decide)
theorem d2_5 : decode prog_29_method_5_code 5 = .ok (.aload_n 1, 1) := by decide +kernel
theorem d2_6 : decode prog_29_method_5_code 6 = .ok (.getstatic 3, 3) := by decide +kernel
theorem d2_9 : decode prog_29_method_5_code 9 = .ok (.if_acmp .ne 8, 3) := by decide +kernel
theorem d2_17 : decode prog_29_method_5_code 17 = .ok (.aload_n 0, 1) := by decide +kernel
theorem d2_18 : decode prog_29_method_5_code 18 = .ok (.getstatic 3, 3) := by decide +kernel
theorem d2_21 : decode prog_29_method_5_code 21 = .ok (.if_acmp .ne 8, 3) := by decide +kernel
theorem d2_24 : decode prog_29_method_5_code 24 = .ok (.aload_n 1, 1) := by decide +kernel
theorem d2_25 : decode prog_29_method_5_code 25 = .ok (.astore_n 2, 1) := by decide +kernel
theorem d2_26 : decode prog_29_method_5_code 26 = .ok (.goto 7, 3) := by decide +kernel
theorem pn_rm2_5 : plainName "com/example/isolation/isolation/LockMode" = true := by first | (simp [plainName, overriddenIn]; done) | decide +kernel
set_option maxRecDepth 65536 in
set_option maxHeartbeats 40000000 in
theorem rm2_5 (l : Launch) (Z : State) (a0 : Array Value) (hw : ∀ d ∈ tables_1, d.before a0 Z = true)  (w_SHARED w_WRITE w_MEMBERSHIP w_READ : Addr) (h0 : Heap) (F0 : OwnF Z h0 w_SHARED w_WRITE w_MEMBERSHIP w_READ)  :
    OMeets l Z mn1 prog_29_method_5_code 3 (some (.object "com/example/isolation/isolation/LockMode")) [] ({ frames := 0, cells := 0, slots := 0, locals := 0 } : Room) #[(.ref w_SHARED), (.ref w_READ)] h0 (PureQ (some (.ref w_READ)) h0) := by
  refine OMeets.of pn_rm2_5 #[.val (.ref w_SHARED), .val (.ref w_READ), .unset] (fun m => by first | rfl | (simp [entryFrame, mkF, argsToLocals, Value.category, maxLocals]; done)) ?_
  intro p e s m below meth c s₁ B X0 e0
  have F := F0
  obtain ⟨S_SHARED, E_SHARED, S_WRITE, E_WRITE, S_MEMBERSHIP, E_MEMBERSHIP, S_READ, E_READ, F_SHARED_ordinal, F_WRITE_ordinal, F_READ_ordinal, F_MEMBERSHIP_ordinal⟩ := F
  refine s_aloadN B X0 (pc' := 1) d2_0 rfl rfl rfl ?_
  refine s_aloadN B X0 (pc' := 2) d2_1 rfl rfl rfl ?_
  refine b_acmp_eq B X0 (py := 12) (pn := 5) d2_2 (by decide) (by decide) rfl (fun q => absurd q (own_ne_w_SHARED_w_READ F0)) (fun _ => ?_)
  refine s_aloadN B X0 (pc' := 6) d2_5 rfl rfl rfl ?_
  refine s_getS B X0 (pc' := 9) e0 (tw16 hw) Via.refl S_SHARED d2_6 rfl (fun T1 X1 e1 => ?_)
  refine b_acmp_ne B X1 (py := 17) (pn := 12) d2_9 (by decide) (by decide) rfl (fun _ => ?_) (fun q => absurd q (own_ne_w_READ_w_SHARED F0))
  refine s_aloadN B X1 (pc' := 18) d2_17 rfl rfl rfl ?_
  refine s_getS B X1 (pc' := 21) e1 (tw16 hw) Via.refl S_SHARED d2_18 rfl (fun T2 X2 e2 => ?_)
  refine b_acmp_ne B X2 (py := 29) (pn := 24) d2_21 (by decide) (by decide) rfl (fun q => absurd rfl q) (fun _ => ?_)
  refine s_aloadN B X2 (pc' := 25) d2_24 rfl rfl rfl ?_
  refine s_astoreN B X2 (pc' := 26) (Ls' := #[.val (.ref w_SHARED), .val (.ref w_READ), .val (.ref w_READ)]) d2_25 rfl rfl rfl ?_
  refine s_goto B X2 (pc' := 33) d2_26 (by decide) (by decide) ?_
  refine s_aloadN B X2 (pc' := 34) d2_33 rfl rfl rfl ?_
  exact r_ref B X2 (t := (.object "com/example/isolation/isolation/LockMode")) rfl rfl rfl rfl d2_34 ⟨rfl, rfl, e2⟩ (by decide) (by decide)
theorem own_ne_w_SHARED_w_MEMBERSHIP {Z : State} {h : Heap} {w_SHARED w_WRITE w_MEMBERSHIP w_READ : Addr} (F : OwnF Z h w_SHARED w_WRITE w_MEMBERSHIP w_READ) : ¬ w_SHARED = w_MEMBERSHIP := by
  obtain ⟨S_SHARED, E_SHARED, S_WRITE, E_WRITE, S_MEMBERSHIP, E_MEMBERSHIP, S_READ, E_READ, F_SHARED_ordinal, F_WRITE_ordinal, F_READ_ordinal, F_MEMBERSHIP_ordinal⟩ := F
  exact F_SHARED_ordinal.ne F_MEMBERSHIP_ordinal (by decide)

theorem pn_rm2_6 : plainName "com/example/isolation/isolation/LockMode" = true := by first | (simp [plainName, overriddenIn]; done) | decide +kernel
set_option maxRecDepth 65536 in
set_option maxHeartbeats 40000000 in
theorem rm2_6 (l : Launch) (Z : State) (a0 : Array Value) (hw : ∀ d ∈ tables_1, d.before a0 Z = true)  (w_SHARED w_WRITE w_MEMBERSHIP w_READ : Addr) (h0 : Heap) (F0 : OwnF Z h0 w_SHARED w_WRITE w_MEMBERSHIP w_READ)  :
    OMeets l Z mn1 prog_29_method_5_code 3 (some (.object "com/example/isolation/isolation/LockMode")) [] ({ frames := 0, cells := 0, slots := 0, locals := 0 } : Room) #[(.ref w_SHARED), (.ref w_MEMBERSHIP)] h0 (PureQ (some (.ref w_MEMBERSHIP)) h0) := by
  refine OMeets.of pn_rm2_6 #[.val (.ref w_SHARED), .val (.ref w_MEMBERSHIP), .unset] (fun m => by first | rfl | (simp [entryFrame, mkF, argsToLocals, Value.category, maxLocals]; done)) ?_
  intro p e s m below meth c s₁ B X0 e0
  have F := F0
  obtain ⟨S_SHARED, E_SHARED, S_WRITE, E_WRITE, S_MEMBERSHIP, E_MEMBERSHIP, S_READ, E_READ, F_SHARED_ordinal, F_WRITE_ordinal, F_READ_ordinal, F_MEMBERSHIP_ordinal⟩ := F
  refine s_aloadN B X0 (pc' := 1) d2_0 rfl rfl rfl ?_
  refine s_aloadN B X0 (pc' := 2) d2_1 rfl rfl rfl ?_
  refine b_acmp_eq B X0 (py := 12) (pn := 5) d2_2 (by decide) (by decide) rfl (fun q => absurd q (own_ne_w_SHARED_w_MEMBERSHIP F0)) (fun _ => ?_)
  refine s_aloadN B X0 (pc' := 6) d2_5 rfl rfl rfl ?_
  refine s_getS B X0 (pc' := 9) e0 (tw16 hw) Via.refl S_SHARED d2_6 rfl (fun T1 X1 e1 => ?_)
  refine b_acmp_ne B X1 (py := 17) (pn := 12) d2_9 (by decide) (by decide) rfl (fun _ => ?_) (fun q => absurd q (own_ne_w_MEMBERSHIP_w_SHARED F0))
  refine s_aloadN B X1 (pc' := 18) d2_17 rfl rfl rfl ?_
  refine s_getS B X1 (pc' := 21) e1 (tw16 hw) Via.refl S_SHARED d2_18 rfl (fun T2 X2 e2 => ?_)
  refine b_acmp_ne B X2 (py := 29) (pn := 24) d2_21 (by decide) (by decide) rfl (fun q => absurd rfl q) (fun _ => ?_)
  refine s_aloadN B X2 (pc' := 25) d2_24 rfl rfl rfl ?_
  refine s_astoreN B X2 (pc' := 26) (Ls' := #[.val (.ref w_SHARED), .val (.ref w_MEMBERSHIP), .val (.ref w_MEMBERSHIP)]) d2_25 rfl rfl rfl ?_
  refine s_goto B X2 (pc' := 33) d2_26 (by decide) (by decide) ?_
  refine s_aloadN B X2 (pc' := 34) d2_33 rfl rfl rfl ?_
  exact r_ref B X2 (t := (.object "com/example/isolation/isolation/LockMode")) rfl rfl rfl rfl d2_34 ⟨rfl, rfl, e2⟩ (by decide) (by decide)
theorem own_ne_w_SHARED_w_WRITE {Z : State} {h : Heap} {w_SHARED w_WRITE w_MEMBERSHIP w_READ : Addr} (F : OwnF Z h w_SHARED w_WRITE w_MEMBERSHIP w_READ) : ¬ w_SHARED = w_WRITE := by
  obtain ⟨S_SHARED, E_SHARED, S_WRITE, E_WRITE, S_MEMBERSHIP, E_MEMBERSHIP, S_READ, E_READ, F_SHARED_ordinal, F_WRITE_ordinal, F_READ_ordinal, F_MEMBERSHIP_ordinal⟩ := F
  exact F_SHARED_ordinal.ne F_WRITE_ordinal (by decide)

theorem pn_rm2_7 : plainName "com/example/isolation/isolation/LockMode" = true := by first | (simp [plainName, overriddenIn]; done) | decide +kernel
set_option maxRecDepth 65536 in
set_option maxHeartbeats 40000000 in
theorem rm2_7 (l : Launch) (Z : State) (a0 : Array Value) (hw : ∀ d ∈ tables_1, d.before a0 Z = true)  (w_SHARED w_WRITE w_MEMBERSHIP w_READ : Addr) (h0 : Heap) (F0 : OwnF Z h0 w_SHARED w_WRITE w_MEMBERSHIP w_READ)  :
    OMeets l Z mn1 prog_29_method_5_code 3 (some (.object "com/example/isolation/isolation/LockMode")) [] ({ frames := 0, cells := 0, slots := 0, locals := 0 } : Room) #[(.ref w_SHARED), (.ref w_WRITE)] h0 (PureQ (some (.ref w_WRITE)) h0) := by
  refine OMeets.of pn_rm2_7 #[.val (.ref w_SHARED), .val (.ref w_WRITE), .unset] (fun m => by first | rfl | (simp [entryFrame, mkF, argsToLocals, Value.category, maxLocals]; done)) ?_
  intro p e s m below meth c s₁ B X0 e0
  have F := F0
  obtain ⟨S_SHARED, E_SHARED, S_WRITE, E_WRITE, S_MEMBERSHIP, E_MEMBERSHIP, S_READ, E_READ, F_SHARED_ordinal, F_WRITE_ordinal, F_READ_ordinal, F_MEMBERSHIP_ordinal⟩ := F
  refine s_aloadN B X0 (pc' := 1) d2_0 rfl rfl rfl ?_
  refine s_aloadN B X0 (pc' := 2) d2_1 rfl rfl rfl ?_
  refine b_acmp_eq B X0 (py := 12) (pn := 5) d2_2 (by decide) (by decide) rfl (fun q => absurd q (own_ne_w_SHARED_w_WRITE F0)) (fun _ => ?_)
  refine s_aloadN B X0 (pc' := 6) d2_5 rfl rfl rfl ?_
  refine s_getS B X0 (pc' := 9) e0 (tw16 hw) Via.refl S_SHARED d2_6 rfl (fun T1 X1 e1 => ?_)
  refine b_acmp_ne B X1 (py := 17) (pn := 12) d2_9 (by decide) (by decide) rfl (fun _ => ?_) (fun q => absurd q (own_ne_w_WRITE_w_SHARED F0))
  refine s_aloadN B X1 (pc' := 18) d2_17 rfl rfl rfl ?_
  refine s_getS B X1 (pc' := 21) e1 (tw16 hw) Via.refl S_SHARED d2_18 rfl (fun T2 X2 e2 => ?_)
  refine b_acmp_ne B X2 (py := 29) (pn := 24) d2_21 (by decide) (by decide) rfl (fun q => absurd rfl q) (fun _ => ?_)
  refine s_aloadN B X2 (pc' := 25) d2_24 rfl rfl rfl ?_
  refine s_astoreN B X2 (pc' := 26) (Ls' := #[.val (.ref w_SHARED), .val (.ref w_WRITE), .val (.ref w_WRITE)]) d2_25 rfl rfl rfl ?_
  refine s_goto B X2 (pc' := 33) d2_26 (by decide) (by decide) ?_
  refine s_aloadN B X2 (pc' := 34) d2_33 rfl rfl rfl ?_
  exact r_ref B X2 (t := (.object "com/example/isolation/isolation/LockMode")) rfl rfl rfl rfl d2_34 ⟨rfl, rfl, e2⟩ (by decide) (by decide)

theorem pn_rm2_8 : plainName "com/example/isolation/isolation/LockMode" = true := by first | (simp [plainName, overriddenIn]; done) | decide +kernel
set_option maxRecDepth 65536 in
set_option maxHeartbeats 40000000 in
theorem rm2_8 (l : Launch) (Z : State) (a0 : Array Value) (hw : ∀ d ∈ tables_1, d.before a0 Z = true)  (w_SHARED w_WRITE w_MEMBERSHIP w_READ : Addr) (h0 : Heap) (F0 : OwnF Z h0 w_SHARED w_WRITE w_MEMBERSHIP w_READ)  :
    OMeets l Z mn1 prog_29_method_5_code 3 (some (.object "com/example/isolation/isolation/LockMode")) [] ({ frames := 0, cells := 0, slots := 0, locals := 0 } : Room) #[(.ref w_READ), (.ref w_SHARED)] h0 (PureQ (some (.ref w_READ)) h0) := by
  refine OMeets.of pn_rm2_8 #[.val (.ref w_READ), .val (.ref w_SHARED), .unset] (fun m => by first | rfl | (simp [entryFrame, mkF, argsToLocals, Value.category, maxLocals]; done)) ?_
  intro p e s m below meth c s₁ B X0 e0
  have F := F0
  obtain ⟨S_SHARED, E_SHARED, S_WRITE, E_WRITE, S_MEMBERSHIP, E_MEMBERSHIP, S_READ, E_READ, F_SHARED_ordinal, F_WRITE_ordinal, F_READ_ordinal, F_MEMBERSHIP_ordinal⟩ := F
  refine s_aloadN B X0 (pc' := 1) d2_0 rfl rfl rfl ?_
  refine s_aloadN B X0 (pc' := 2) d2_1 rfl rfl rfl ?_
  refine b_acmp_eq B X0 (py := 12) (pn := 5) d2_2 (by decide) (by decide) rfl (fun q => absurd q (own_ne_w_READ_w_SHARED F0)) (fun _ => ?_)
  refine s_aloadN B X0 (pc' := 6) d2_5 rfl rfl rfl ?_
  refine s_getS B X0 (pc' := 9) e0 (tw16 hw) Via.refl S_SHARED d2_6 rfl (fun T1 X1 e1 => ?_)
  refine b_acmp_ne B X1 (py := 17) (pn := 12) d2_9 (by decide) (by decide) rfl (fun q => absurd rfl q) (fun _ => ?_)
  refine s_aloadN B X1 (pc' := 13) d2_12 rfl rfl rfl ?_
  refine s_astoreN B X1 (pc' := 14) (Ls' := #[.val (.ref w_READ), .val (.ref w_SHARED), .val (.ref w_READ)]) d2_13 rfl rfl rfl ?_
  refine s_goto B X1 (pc' := 33) d2_14 (by decide) (by decide) ?_
  refine s_aloadN B X1 (pc' := 34) d2_33 rfl rfl rfl ?_
  exact r_ref B X1 (t := (.object "com/example/isolation/isolation/LockMode")) rfl rfl rfl rfl d2_34 ⟨rfl, rfl, e1⟩ (by decide) (by decide)

theorem pn_rm2_9 : plainName "com/example/isolation/isolation/LockMode" = true := by first | (simp [plainName, overriddenIn]; done) | decide +kernel
set_option maxRecDepth 65536 in
set_option maxHeartbeats 40000000 in
theorem rm2_9 (l : Launch) (Z : State) (a0 : Array Value) (hw : ∀ d ∈ tables_1, d.before a0 Z = true)  (w_SHARED w_WRITE w_MEMBERSHIP w_READ : Addr) (h0 : Heap) (F0 : OwnF Z h0 w_SHARED w_WRITE w_MEMBERSHIP w_READ)  :
    OMeets l Z mn1 prog_29_method_5_code 3 (some (.object "com/example/isolation/isolation/LockMode")) [] ({ frames := 0, cells := 0, slots := 0, locals := 0 } : Room) #[(.ref w_READ), (.ref w_READ)] h0 (PureQ (some (.ref w_READ)) h0) := by
  refine OMeets.of pn_rm2_9 #[.val (.ref w_READ), .val (.ref w_READ), .unset] (fun m => by first | rfl | (simp [entryFrame, mkF, argsToLocals, Value.category, maxLocals]; done)) ?_
  intro p e s m below meth c s₁ B X0 e0
  have F := F0
  obtain ⟨S_SHARED, E_SHARED, S_WRITE, E_WRITE, S_MEMBERSHIP, E_MEMBERSHIP, S_READ, E_READ, F_SHARED_ordinal, F_WRITE_ordinal, F_READ_ordinal, F_MEMBERSHIP_ordinal⟩ := F
  refine s_aloadN B X0 (pc' := 1) d2_0 rfl rfl rfl ?_
  refine s_aloadN B X0 (pc' := 2) d2_1 rfl rfl rfl ?_
  refine b_acmp_eq B X0 (py := 12) (pn := 5) d2_2 (by decide) (by decide) rfl (fun _ => ?_) (fun q => absurd rfl q)
  refine s_aloadN B X0 (pc' := 13) d2_12 rfl rfl rfl ?_
  refine s_astoreN B X0 (pc' := 14) (Ls' := #[.val (.ref w_READ), .val (.ref w_READ), .val (.ref w_READ)]) d2_13 rfl rfl rfl ?_
  refine s_goto B X0 (pc' := 33) d2_14 (by decide) (by decide) ?_
  refine s_aloadN B X0 (pc' := 34) d2_33 rfl rfl rfl ?_
  exact r_ref B X0 (t := (.object "com/example/isolation/isolation/LockMode")) rfl rfl rfl rfl d2_34 ⟨rfl, rfl, e0⟩ (by decide) (by decide)
theorem own_ne_w_READ_w_MEMBERSHIP {Z : State} {h : Heap} {w_SHARED w_WRITE w_MEMBERSHIP w_READ : Addr} (F : OwnF Z h w_SHARED w_WRITE w_MEMBERSHIP w_READ) : ¬ w_READ = w_MEMBERSHIP := by
  obtain ⟨S_SHARED, E_SHARED, S_WRITE, E_WRITE, S_MEMBERSHIP, E_MEMBERSHIP, S_READ, E_READ, F_SHARED_ordinal, F_WRITE_ordinal, F_READ_ordinal, F_MEMBERSHIP_ordinal⟩ := F
  exact F_READ_ordinal.ne F_MEMBERSHIP_ordinal (by decide)
theorem d2_29 : decode prog_29_method_5_code 29 = .ok (.getstatic 13, 3) := by decide +kernel
theorem d2_32 : decode prog_29_method_5_code 32 = .ok (.astore_n 2, 1) := by decide +kernel
theorem pn_rm2_10 : plainName "com/example/isolation/isolation/LockMode" = true := by first | (simp [plainName, overriddenIn]; done) | decide +kernel
set_option maxRecDepth 65536 in
set_option maxHeartbeats 40000000 in
theorem rm2_10 (l : Launch) (Z : State) (a0 : Array Value) (hw : ∀ d ∈ tables_1, d.before a0 Z = true)  (w_SHARED w_WRITE w_MEMBERSHIP w_READ : Addr) (h0 : Heap) (F0 : OwnF Z h0 w_SHARED w_WRITE w_MEMBERSHIP w_READ)  :
    OMeets l Z mn1 prog_29_method_5_code 3 (some (.object "com/example/isolation/isolation/LockMode")) [] ({ frames := 0, cells := 0, slots := 0, locals := 0 } : Room) #[(.ref w_READ), (.ref w_MEMBERSHIP)] h0 (PureQ (some (.ref w_WRITE)) h0) := by
  refine OMeets.of pn_rm2_10 #[.val (.ref w_READ), .val (.ref w_MEMBERSHIP), .unset] (fun m => by first | rfl | (simp [entryFrame, mkF, argsToLocals, Value.category, maxLocals]; done)) ?_
  intro p e s m below meth c s₁ B X0 e0
  have F := F0
  obtain ⟨S_SHARED, E_SHARED, S_WRITE, E_WRITE, S_MEMBERSHIP, E_MEMBERSHIP, S_READ, E_READ, F_SHARED_ordinal, F_WRITE_ordinal, F_READ_ordinal, F_MEMBERSHIP_ordinal⟩ := F
  refine s_aloadN B X0 (pc' := 1) d2_0 rfl rfl rfl ?_
  refine s_aloadN B X0 (pc' := 2) d2_1 rfl rfl rfl ?_
  refine b_acmp_eq B X0 (py := 12) (pn := 5) d2_2 (by decide) (by decide) rfl (fun q => absurd q (own_ne_w_READ_w_MEMBERSHIP F0)) (fun _ => ?_)
  refine s_aloadN B X0 (pc' := 6) d2_5 rfl rfl rfl ?_
  refine s_getS B X0 (pc' := 9) e0 (tw16 hw) Via.refl S_SHARED d2_6 rfl (fun T1 X1 e1 => ?_)
  refine b_acmp_ne B X1 (py := 17) (pn := 12) d2_9 (by decide) (by decide) rfl (fun _ => ?_) (fun q => absurd q (own_ne_w_MEMBERSHIP_w_SHARED F0))
  refine s_aloadN B X1 (pc' := 18) d2_17 rfl rfl rfl ?_
  refine s_getS B X1 (pc' := 21) e1 (tw16 hw) Via.refl S_SHARED d2_18 rfl (fun T2 X2 e2 => ?_)
  refine b_acmp_ne B X2 (py := 29) (pn := 24) d2_21 (by decide) (by decide) rfl (fun _ => ?_) (fun q => absurd q (own_ne_w_READ_w_SHARED F0))
  refine s_getS B X2 (pc' := 32) e2 (tw22 hw) Via.refl S_WRITE d2_29 rfl (fun T3 X3 e3 => ?_)
  refine s_astoreN B X3 (pc' := 33) (Ls' := #[.val (.ref w_READ), .val (.ref w_MEMBERSHIP), .val (.ref w_WRITE)]) d2_32 rfl rfl rfl ?_
  refine s_aloadN B X3 (pc' := 34) d2_33 rfl rfl rfl ?_
  exact r_ref B X3 (t := (.object "com/example/isolation/isolation/LockMode")) rfl rfl rfl rfl d2_34 ⟨rfl, rfl, e3⟩ (by decide) (by decide)
theorem own_ne_w_READ_w_WRITE {Z : State} {h : Heap} {w_SHARED w_WRITE w_MEMBERSHIP w_READ : Addr} (F : OwnF Z h w_SHARED w_WRITE w_MEMBERSHIP w_READ) : ¬ w_READ = w_WRITE := by
  obtain ⟨S_SHARED, E_SHARED, S_WRITE, E_WRITE, S_MEMBERSHIP, E_MEMBERSHIP, S_READ, E_READ, F_SHARED_ordinal, F_WRITE_ordinal, F_READ_ordinal, F_MEMBERSHIP_ordinal⟩ := F
  exact F_READ_ordinal.ne F_WRITE_ordinal (by decide)

theorem pn_rm2_11 : plainName "com/example/isolation/isolation/LockMode" = true := by first | (simp [plainName, overriddenIn]; done) | decide +kernel
set_option maxRecDepth 65536 in
set_option maxHeartbeats 40000000 in
theorem rm2_11 (l : Launch) (Z : State) (a0 : Array Value) (hw : ∀ d ∈ tables_1, d.before a0 Z = true)  (w_SHARED w_WRITE w_MEMBERSHIP w_READ : Addr) (h0 : Heap) (F0 : OwnF Z h0 w_SHARED w_WRITE w_MEMBERSHIP w_READ)  :
    OMeets l Z mn1 prog_29_method_5_code 3 (some (.object "com/example/isolation/isolation/LockMode")) [] ({ frames := 0, cells := 0, slots := 0, locals := 0 } : Room) #[(.ref w_READ), (.ref w_WRITE)] h0 (PureQ (some (.ref w_WRITE)) h0) := by
  refine OMeets.of pn_rm2_11 #[.val (.ref w_READ), .val (.ref w_WRITE), .unset] (fun m => by first | rfl | (simp [entryFrame, mkF, argsToLocals, Value.category, maxLocals]; done)) ?_
  intro p e s m below meth c s₁ B X0 e0
  have F := F0
  obtain ⟨S_SHARED, E_SHARED, S_WRITE, E_WRITE, S_MEMBERSHIP, E_MEMBERSHIP, S_READ, E_READ, F_SHARED_ordinal, F_WRITE_ordinal, F_READ_ordinal, F_MEMBERSHIP_ordinal⟩ := F
  refine s_aloadN B X0 (pc' := 1) d2_0 rfl rfl rfl ?_
  refine s_aloadN B X0 (pc' := 2) d2_1 rfl rfl rfl ?_
  refine b_acmp_eq B X0 (py := 12) (pn := 5) d2_2 (by decide) (by decide) rfl (fun q => absurd q (own_ne_w_READ_w_WRITE F0)) (fun _ => ?_)
  refine s_aloadN B X0 (pc' := 6) d2_5 rfl rfl rfl ?_
  refine s_getS B X0 (pc' := 9) e0 (tw16 hw) Via.refl S_SHARED d2_6 rfl (fun T1 X1 e1 => ?_)
  refine b_acmp_ne B X1 (py := 17) (pn := 12) d2_9 (by decide) (by decide) rfl (fun _ => ?_) (fun q => absurd q (own_ne_w_WRITE_w_SHARED F0))
  refine s_aloadN B X1 (pc' := 18) d2_17 rfl rfl rfl ?_
  refine s_getS B X1 (pc' := 21) e1 (tw16 hw) Via.refl S_SHARED d2_18 rfl (fun T2 X2 e2 => ?_)
  refine b_acmp_ne B X2 (py := 29) (pn := 24) d2_21 (by decide) (by decide) rfl (fun _ => ?_) (fun q => absurd q (own_ne_w_READ_w_SHARED F0))
  refine s_getS B X2 (pc' := 32) e2 (tw22 hw) Via.refl S_WRITE d2_29 rfl (fun T3 X3 e3 => ?_)
  refine s_astoreN B X3 (pc' := 33) (Ls' := #[.val (.ref w_READ), .val (.ref w_WRITE), .val (.ref w_WRITE)]) d2_32 rfl rfl rfl ?_
  refine s_aloadN B X3 (pc' := 34) d2_33 rfl rfl rfl ?_
  exact r_ref B X3 (t := (.object "com/example/isolation/isolation/LockMode")) rfl rfl rfl rfl d2_34 ⟨rfl, rfl, e3⟩ (by decide) (by decide)

theorem pn_rm2_12 : plainName "com/example/isolation/isolation/LockMode" = true := by first | (simp [plainName, overriddenIn]; done) | decide +kernel
set_option maxRecDepth 65536 in
set_option maxHeartbeats 40000000 in
theorem rm2_12 (l : Launch) (Z : State) (a0 : Array Value) (hw : ∀ d ∈ tables_1, d.before a0 Z = true)  (w_SHARED w_WRITE w_MEMBERSHIP w_READ : Addr) (h0 : Heap) (F0 : OwnF Z h0 w_SHARED w_WRITE w_MEMBERSHIP w_READ)  :
    OMeets l Z mn1 prog_29_method_5_code 3 (some (.object "com/example/isolation/isolation/LockMode")) [] ({ frames := 0, cells := 0, slots := 0, locals := 0 } : Room) #[(.ref w_MEMBERSHIP), (.ref w_SHARED)] h0 (PureQ (some (.ref w_MEMBERSHIP)) h0) := by
  refine OMeets.of pn_rm2_12 #[.val (.ref w_MEMBERSHIP), .val (.ref w_SHARED), .unset] (fun m => by first | rfl | (simp [entryFrame, mkF, argsToLocals, Value.category, maxLocals]; done)) ?_
  intro p e s m below meth c s₁ B X0 e0
  have F := F0
  obtain ⟨S_SHARED, E_SHARED, S_WRITE, E_WRITE, S_MEMBERSHIP, E_MEMBERSHIP, S_READ, E_READ, F_SHARED_ordinal, F_WRITE_ordinal, F_READ_ordinal, F_MEMBERSHIP_ordinal⟩ := F
  refine s_aloadN B X0 (pc' := 1) d2_0 rfl rfl rfl ?_
  refine s_aloadN B X0 (pc' := 2) d2_1 rfl rfl rfl ?_
  refine b_acmp_eq B X0 (py := 12) (pn := 5) d2_2 (by decide) (by decide) rfl (fun q => absurd q (own_ne_w_MEMBERSHIP_w_SHARED F0)) (fun _ => ?_)
  refine s_aloadN B X0 (pc' := 6) d2_5 rfl rfl rfl ?_
  refine s_getS B X0 (pc' := 9) e0 (tw16 hw) Via.refl S_SHARED d2_6 rfl (fun T1 X1 e1 => ?_)
  refine b_acmp_ne B X1 (py := 17) (pn := 12) d2_9 (by decide) (by decide) rfl (fun q => absurd rfl q) (fun _ => ?_)
  refine s_aloadN B X1 (pc' := 13) d2_12 rfl rfl rfl ?_
  refine s_astoreN B X1 (pc' := 14) (Ls' := #[.val (.ref w_MEMBERSHIP), .val (.ref w_SHARED), .val (.ref w_MEMBERSHIP)]) d2_13 rfl rfl rfl ?_
  refine s_goto B X1 (pc' := 33) d2_14 (by decide) (by decide) ?_
  refine s_aloadN B X1 (pc' := 34) d2_33 rfl rfl rfl ?_
  exact r_ref B X1 (t := (.object "com/example/isolation/isolation/LockMode")) rfl rfl rfl rfl d2_34 ⟨rfl, rfl, e1⟩ (by decide) (by decide)

theorem pn_rm2_13 : plainName "com/example/isolation/isolation/LockMode" = true := by first | (simp [plainName, overriddenIn]; done) | decide +kernel
set_option maxRecDepth 65536 in
set_option maxHeartbeats 40000000 in
theorem rm2_13 (l : Launch) (Z : State) (a0 : Array Value) (hw : ∀ d ∈ tables_1, d.before a0 Z = true)  (w_SHARED w_WRITE w_MEMBERSHIP w_READ : Addr) (h0 : Heap) (F0 : OwnF Z h0 w_SHARED w_WRITE w_MEMBERSHIP w_READ)  :
    OMeets l Z mn1 prog_29_method_5_code 3 (some (.object "com/example/isolation/isolation/LockMode")) [] ({ frames := 0, cells := 0, slots := 0, locals := 0 } : Room) #[(.ref w_MEMBERSHIP), (.ref w_READ)] h0 (PureQ (some (.ref w_WRITE)) h0) := by
  refine OMeets.of pn_rm2_13 #[.val (.ref w_MEMBERSHIP), .val (.ref w_READ), .unset] (fun m => by first | rfl | (simp [entryFrame, mkF, argsToLocals, Value.category, maxLocals]; done)) ?_
  intro p e s m below meth c s₁ B X0 e0
  have F := F0
  obtain ⟨S_SHARED, E_SHARED, S_WRITE, E_WRITE, S_MEMBERSHIP, E_MEMBERSHIP, S_READ, E_READ, F_SHARED_ordinal, F_WRITE_ordinal, F_READ_ordinal, F_MEMBERSHIP_ordinal⟩ := F
  refine s_aloadN B X0 (pc' := 1) d2_0 rfl rfl rfl ?_
  refine s_aloadN B X0 (pc' := 2) d2_1 rfl rfl rfl ?_
  refine b_acmp_eq B X0 (py := 12) (pn := 5) d2_2 (by decide) (by decide) rfl (fun q => absurd q (own_ne_w_MEMBERSHIP_w_READ F0)) (fun _ => ?_)
  refine s_aloadN B X0 (pc' := 6) d2_5 rfl rfl rfl ?_
  refine s_getS B X0 (pc' := 9) e0 (tw16 hw) Via.refl S_SHARED d2_6 rfl (fun T1 X1 e1 => ?_)
  refine b_acmp_ne B X1 (py := 17) (pn := 12) d2_9 (by decide) (by decide) rfl (fun _ => ?_) (fun q => absurd q (own_ne_w_READ_w_SHARED F0))
  refine s_aloadN B X1 (pc' := 18) d2_17 rfl rfl rfl ?_
  refine s_getS B X1 (pc' := 21) e1 (tw16 hw) Via.refl S_SHARED d2_18 rfl (fun T2 X2 e2 => ?_)
  refine b_acmp_ne B X2 (py := 29) (pn := 24) d2_21 (by decide) (by decide) rfl (fun _ => ?_) (fun q => absurd q (own_ne_w_MEMBERSHIP_w_SHARED F0))
  refine s_getS B X2 (pc' := 32) e2 (tw22 hw) Via.refl S_WRITE d2_29 rfl (fun T3 X3 e3 => ?_)
  refine s_astoreN B X3 (pc' := 33) (Ls' := #[.val (.ref w_MEMBERSHIP), .val (.ref w_READ), .val (.ref w_WRITE)]) d2_32 rfl rfl rfl ?_
  refine s_aloadN B X3 (pc' := 34) d2_33 rfl rfl rfl ?_
  exact r_ref B X3 (t := (.object "com/example/isolation/isolation/LockMode")) rfl rfl rfl rfl d2_34 ⟨rfl, rfl, e3⟩ (by decide) (by decide)

theorem pn_rm2_14 : plainName "com/example/isolation/isolation/LockMode" = true := by first | (simp [plainName, overriddenIn]; done) | decide +kernel
set_option maxRecDepth 65536 in
set_option maxHeartbeats 40000000 in
theorem rm2_14 (l : Launch) (Z : State) (a0 : Array Value) (hw : ∀ d ∈ tables_1, d.before a0 Z = true)  (w_SHARED w_WRITE w_MEMBERSHIP w_READ : Addr) (h0 : Heap) (F0 : OwnF Z h0 w_SHARED w_WRITE w_MEMBERSHIP w_READ)  :
    OMeets l Z mn1 prog_29_method_5_code 3 (some (.object "com/example/isolation/isolation/LockMode")) [] ({ frames := 0, cells := 0, slots := 0, locals := 0 } : Room) #[(.ref w_MEMBERSHIP), (.ref w_MEMBERSHIP)] h0 (PureQ (some (.ref w_MEMBERSHIP)) h0) := by
  refine OMeets.of pn_rm2_14 #[.val (.ref w_MEMBERSHIP), .val (.ref w_MEMBERSHIP), .unset] (fun m => by first | rfl | (simp [entryFrame, mkF, argsToLocals, Value.category, maxLocals]; done)) ?_
  intro p e s m below meth c s₁ B X0 e0
  have F := F0
  obtain ⟨S_SHARED, E_SHARED, S_WRITE, E_WRITE, S_MEMBERSHIP, E_MEMBERSHIP, S_READ, E_READ, F_SHARED_ordinal, F_WRITE_ordinal, F_READ_ordinal, F_MEMBERSHIP_ordinal⟩ := F
  refine s_aloadN B X0 (pc' := 1) d2_0 rfl rfl rfl ?_
  refine s_aloadN B X0 (pc' := 2) d2_1 rfl rfl rfl ?_
  refine b_acmp_eq B X0 (py := 12) (pn := 5) d2_2 (by decide) (by decide) rfl (fun _ => ?_) (fun q => absurd rfl q)
  refine s_aloadN B X0 (pc' := 13) d2_12 rfl rfl rfl ?_
  refine s_astoreN B X0 (pc' := 14) (Ls' := #[.val (.ref w_MEMBERSHIP), .val (.ref w_MEMBERSHIP), .val (.ref w_MEMBERSHIP)]) d2_13 rfl rfl rfl ?_
  refine s_goto B X0 (pc' := 33) d2_14 (by decide) (by decide) ?_
  refine s_aloadN B X0 (pc' := 34) d2_33 rfl rfl rfl ?_
  exact r_ref B X0 (t := (.object "com/example/isolation/isolation/LockMode")) rfl rfl rfl rfl d2_34 ⟨rfl, rfl, e0⟩ (by decide) (by decide)
theorem own_ne_w_MEMBERSHIP_w_WRITE {Z : State} {h : Heap} {w_SHARED w_WRITE w_MEMBERSHIP w_READ : Addr} (F : OwnF Z h w_SHARED w_WRITE w_MEMBERSHIP w_READ) : ¬ w_MEMBERSHIP = w_WRITE := by
  obtain ⟨S_SHARED, E_SHARED, S_WRITE, E_WRITE, S_MEMBERSHIP, E_MEMBERSHIP, S_READ, E_READ, F_SHARED_ordinal, F_WRITE_ordinal, F_READ_ordinal, F_MEMBERSHIP_ordinal⟩ := F
  exact F_MEMBERSHIP_ordinal.ne F_WRITE_ordinal (by decide)

theorem pn_rm2_15 : plainName "com/example/isolation/isolation/LockMode" = true := by first | (simp [plainName, overriddenIn]; done) | decide +kernel
set_option maxRecDepth 65536 in
set_option maxHeartbeats 40000000 in
theorem rm2_15 (l : Launch) (Z : State) (a0 : Array Value) (hw : ∀ d ∈ tables_1, d.before a0 Z = true)  (w_SHARED w_WRITE w_MEMBERSHIP w_READ : Addr) (h0 : Heap) (F0 : OwnF Z h0 w_SHARED w_WRITE w_MEMBERSHIP w_READ)  :
    OMeets l Z mn1 prog_29_method_5_code 3 (some (.object "com/example/isolation/isolation/LockMode")) [] ({ frames := 0, cells := 0, slots := 0, locals := 0 } : Room) #[(.ref w_MEMBERSHIP), (.ref w_WRITE)] h0 (PureQ (some (.ref w_WRITE)) h0) := by
  refine OMeets.of pn_rm2_15 #[.val (.ref w_MEMBERSHIP), .val (.ref w_WRITE), .unset] (fun m => by first | rfl | (simp [entryFrame, mkF, argsToLocals, Value.category, maxLocals]; done)) ?_
  intro p e s m below meth c s₁ B X0 e0
  have F := F0
  obtain ⟨S_SHARED, E_SHARED, S_WRITE, E_WRITE, S_MEMBERSHIP, E_MEMBERSHIP, S_READ, E_READ, F_SHARED_ordinal, F_WRITE_ordinal, F_READ_ordinal, F_MEMBERSHIP_ordinal⟩ := F
  refine s_aloadN B X0 (pc' := 1) d2_0 rfl rfl rfl ?_
  refine s_aloadN B X0 (pc' := 2) d2_1 rfl rfl rfl ?_
  refine b_acmp_eq B X0 (py := 12) (pn := 5) d2_2 (by decide) (by decide) rfl (fun q => absurd q (own_ne_w_MEMBERSHIP_w_WRITE F0)) (fun _ => ?_)
  refine s_aloadN B X0 (pc' := 6) d2_5 rfl rfl rfl ?_
  refine s_getS B X0 (pc' := 9) e0 (tw16 hw) Via.refl S_SHARED d2_6 rfl (fun T1 X1 e1 => ?_)
  refine b_acmp_ne B X1 (py := 17) (pn := 12) d2_9 (by decide) (by decide) rfl (fun _ => ?_) (fun q => absurd q (own_ne_w_WRITE_w_SHARED F0))
  refine s_aloadN B X1 (pc' := 18) d2_17 rfl rfl rfl ?_
  refine s_getS B X1 (pc' := 21) e1 (tw16 hw) Via.refl S_SHARED d2_18 rfl (fun T2 X2 e2 => ?_)
  refine b_acmp_ne B X2 (py := 29) (pn := 24) d2_21 (by decide) (by decide) rfl (fun _ => ?_) (fun q => absurd q (own_ne_w_MEMBERSHIP_w_SHARED F0))
  refine s_getS B X2 (pc' := 32) e2 (tw22 hw) Via.refl S_WRITE d2_29 rfl (fun T3 X3 e3 => ?_)
  refine s_astoreN B X3 (pc' := 33) (Ls' := #[.val (.ref w_MEMBERSHIP), .val (.ref w_WRITE), .val (.ref w_WRITE)]) d2_32 rfl rfl rfl ?_
  refine s_aloadN B X3 (pc' := 34) d2_33 rfl rfl rfl ?_
  exact r_ref B X3 (t := (.object "com/example/isolation/isolation/LockMode")) rfl rfl rfl rfl d2_34 ⟨rfl, rfl, e3⟩ (by decide) (by decide)

theorem pn_rm2_16 : plainName "com/example/isolation/isolation/LockMode" = true := by first | (simp [plainName, overriddenIn]; done) | decide +kernel
set_option maxRecDepth 65536 in
set_option maxHeartbeats 40000000 in
theorem rm2_16 (l : Launch) (Z : State) (a0 : Array Value) (hw : ∀ d ∈ tables_1, d.before a0 Z = true)  (w_SHARED w_WRITE w_MEMBERSHIP w_READ : Addr) (h0 : Heap) (F0 : OwnF Z h0 w_SHARED w_WRITE w_MEMBERSHIP w_READ)  :
    OMeets l Z mn1 prog_29_method_5_code 3 (some (.object "com/example/isolation/isolation/LockMode")) [] ({ frames := 0, cells := 0, slots := 0, locals := 0 } : Room) #[(.ref w_WRITE), (.ref w_SHARED)] h0 (PureQ (some (.ref w_WRITE)) h0) := by
  refine OMeets.of pn_rm2_16 #[.val (.ref w_WRITE), .val (.ref w_SHARED), .unset] (fun m => by first | rfl | (simp [entryFrame, mkF, argsToLocals, Value.category, maxLocals]; done)) ?_
  intro p e s m below meth c s₁ B X0 e0
  have F := F0
  obtain ⟨S_SHARED, E_SHARED, S_WRITE, E_WRITE, S_MEMBERSHIP, E_MEMBERSHIP, S_READ, E_READ, F_SHARED_ordinal, F_WRITE_ordinal, F_READ_ordinal, F_MEMBERSHIP_ordinal⟩ := F
  refine s_aloadN B X0 (pc' := 1) d2_0 rfl rfl rfl ?_
  refine s_aloadN B X0 (pc' := 2) d2_1 rfl rfl rfl ?_
  refine b_acmp_eq B X0 (py := 12) (pn := 5) d2_2 (by decide) (by decide) rfl (fun q => absurd q (own_ne_w_WRITE_w_SHARED F0)) (fun _ => ?_)
  refine s_aloadN B X0 (pc' := 6) d2_5 rfl rfl rfl ?_
  refine s_getS B X0 (pc' := 9) e0 (tw16 hw) Via.refl S_SHARED d2_6 rfl (fun T1 X1 e1 => ?_)
  refine b_acmp_ne B X1 (py := 17) (pn := 12) d2_9 (by decide) (by decide) rfl (fun q => absurd rfl q) (fun _ => ?_)
  refine s_aloadN B X1 (pc' := 13) d2_12 rfl rfl rfl ?_
  refine s_astoreN B X1 (pc' := 14) (Ls' := #[.val (.ref w_WRITE), .val (.ref w_SHARED), .val (.ref w_WRITE)]) d2_13 rfl rfl rfl ?_
  refine s_goto B X1 (pc' := 33) d2_14 (by decide) (by decide) ?_
  refine s_aloadN B X1 (pc' := 34) d2_33 rfl rfl rfl ?_
  exact r_ref B X1 (t := (.object "com/example/isolation/isolation/LockMode")) rfl rfl rfl rfl d2_34 ⟨rfl, rfl, e1⟩ (by decide) (by decide)

theorem pn_rm2_17 : plainName "com/example/isolation/isolation/LockMode" = true := by first | (simp [plainName, overriddenIn]; done) | decide +kernel
set_option maxRecDepth 65536 in
set_option maxHeartbeats 40000000 in
theorem rm2_17 (l : Launch) (Z : State) (a0 : Array Value) (hw : ∀ d ∈ tables_1, d.before a0 Z = true)  (w_SHARED w_WRITE w_MEMBERSHIP w_READ : Addr) (h0 : Heap) (F0 : OwnF Z h0 w_SHARED w_WRITE w_MEMBERSHIP w_READ)  :
    OMeets l Z mn1 prog_29_method_5_code 3 (some (.object "com/example/isolation/isolation/LockMode")) [] ({ frames := 0, cells := 0, slots := 0, locals := 0 } : Room) #[(.ref w_WRITE), (.ref w_READ)] h0 (PureQ (some (.ref w_WRITE)) h0) := by
  refine OMeets.of pn_rm2_17 #[.val (.ref w_WRITE), .val (.ref w_READ), .unset] (fun m => by first | rfl | (simp [entryFrame, mkF, argsToLocals, Value.category, maxLocals]; done)) ?_
  intro p e s m below meth c s₁ B X0 e0
  have F := F0
  obtain ⟨S_SHARED, E_SHARED, S_WRITE, E_WRITE, S_MEMBERSHIP, E_MEMBERSHIP, S_READ, E_READ, F_SHARED_ordinal, F_WRITE_ordinal, F_READ_ordinal, F_MEMBERSHIP_ordinal⟩ := F
  refine s_aloadN B X0 (pc' := 1) d2_0 rfl rfl rfl ?_
  refine s_aloadN B X0 (pc' := 2) d2_1 rfl rfl rfl ?_
  refine b_acmp_eq B X0 (py := 12) (pn := 5) d2_2 (by decide) (by decide) rfl (fun q => absurd q (own_ne_w_WRITE_w_READ F0)) (fun _ => ?_)
  refine s_aloadN B X0 (pc' := 6) d2_5 rfl rfl rfl ?_
  refine s_getS B X0 (pc' := 9) e0 (tw16 hw) Via.refl S_SHARED d2_6 rfl (fun T1 X1 e1 => ?_)
  refine b_acmp_ne B X1 (py := 17) (pn := 12) d2_9 (by decide) (by decide) rfl (fun _ => ?_) (fun q => absurd q (own_ne_w_READ_w_SHARED F0))
  refine s_aloadN B X1 (pc' := 18) d2_17 rfl rfl rfl ?_
  refine s_getS B X1 (pc' := 21) e1 (tw16 hw) Via.refl S_SHARED d2_18 rfl (fun T2 X2 e2 => ?_)
  refine b_acmp_ne B X2 (py := 29) (pn := 24) d2_21 (by decide) (by decide) rfl (fun _ => ?_) (fun q => absurd q (own_ne_w_WRITE_w_SHARED F0))
  refine s_getS B X2 (pc' := 32) e2 (tw22 hw) Via.refl S_WRITE d2_29 rfl (fun T3 X3 e3 => ?_)
  refine s_astoreN B X3 (pc' := 33) (Ls' := #[.val (.ref w_WRITE), .val (.ref w_READ), .val (.ref w_WRITE)]) d2_32 rfl rfl rfl ?_
  refine s_aloadN B X3 (pc' := 34) d2_33 rfl rfl rfl ?_
  exact r_ref B X3 (t := (.object "com/example/isolation/isolation/LockMode")) rfl rfl rfl rfl d2_34 ⟨rfl, rfl, e3⟩ (by decide) (by decide)

theorem pn_rm2_18 : plainName "com/example/isolation/isolation/LockMode" = true := by first | (simp [plainName, overriddenIn]; done) | decide +kernel
set_option maxRecDepth 65536 in
set_option maxHeartbeats 40000000 in
theorem rm2_18 (l : Launch) (Z : State) (a0 : Array Value) (hw : ∀ d ∈ tables_1, d.before a0 Z = true)  (w_SHARED w_WRITE w_MEMBERSHIP w_READ : Addr) (h0 : Heap) (F0 : OwnF Z h0 w_SHARED w_WRITE w_MEMBERSHIP w_READ)  :
    OMeets l Z mn1 prog_29_method_5_code 3 (some (.object "com/example/isolation/isolation/LockMode")) [] ({ frames := 0, cells := 0, slots := 0, locals := 0 } : Room) #[(.ref w_WRITE), (.ref w_MEMBERSHIP)] h0 (PureQ (some (.ref w_WRITE)) h0) := by
  refine OMeets.of pn_rm2_18 #[.val (.ref w_WRITE), .val (.ref w_MEMBERSHIP), .unset] (fun m => by first | rfl | (simp [entryFrame, mkF, argsToLocals, Value.category, maxLocals]; done)) ?_
  intro p e s m below meth c s₁ B X0 e0
  have F := F0
  obtain ⟨S_SHARED, E_SHARED, S_WRITE, E_WRITE, S_MEMBERSHIP, E_MEMBERSHIP, S_READ, E_READ, F_SHARED_ordinal, F_WRITE_ordinal, F_READ_ordinal, F_MEMBERSHIP_ordinal⟩ := F
  refine s_aloadN B X0 (pc' := 1) d2_0 rfl rfl rfl ?_
  refine s_aloadN B X0 (pc' := 2) d2_1 rfl rfl rfl ?_
  refine b_acmp_eq B X0 (py := 12) (pn := 5) d2_2 (by decide) (by decide) rfl (fun q => absurd q (own_ne_w_WRITE_w_MEMBERSHIP F0)) (fun _ => ?_)
  refine s_aloadN B X0 (pc' := 6) d2_5 rfl rfl rfl ?_
  refine s_getS B X0 (pc' := 9) e0 (tw16 hw) Via.refl S_SHARED d2_6 rfl (fun T1 X1 e1 => ?_)
  refine b_acmp_ne B X1 (py := 17) (pn := 12) d2_9 (by decide) (by decide) rfl (fun _ => ?_) (fun q => absurd q (own_ne_w_MEMBERSHIP_w_SHARED F0))
  refine s_aloadN B X1 (pc' := 18) d2_17 rfl rfl rfl ?_
  refine s_getS B X1 (pc' := 21) e1 (tw16 hw) Via.refl S_SHARED d2_18 rfl (fun T2 X2 e2 => ?_)
  refine b_acmp_ne B X2 (py := 29) (pn := 24) d2_21 (by decide) (by decide) rfl (fun _ => ?_) (fun q => absurd q (own_ne_w_WRITE_w_SHARED F0))
  refine s_getS B X2 (pc' := 32) e2 (tw22 hw) Via.refl S_WRITE d2_29 rfl (fun T3 X3 e3 => ?_)
  refine s_astoreN B X3 (pc' := 33) (Ls' := #[.val (.ref w_WRITE), .val (.ref w_MEMBERSHIP), .val (.ref w_WRITE)]) d2_32 rfl rfl rfl ?_
  refine s_aloadN B X3 (pc' := 34) d2_33 rfl rfl rfl ?_
  exact r_ref B X3 (t := (.object "com/example/isolation/isolation/LockMode")) rfl rfl rfl rfl d2_34 ⟨rfl, rfl, e3⟩ (by decide) (by decide)

theorem pn_rm2_19 : plainName "com/example/isolation/isolation/LockMode" = true := by first | (simp [plainName, overriddenIn]; done) | decide +kernel
set_option maxRecDepth 65536 in
set_option maxHeartbeats 40000000 in
theorem rm2_19 (l : Launch) (Z : State) (a0 : Array Value) (hw : ∀ d ∈ tables_1, d.before a0 Z = true)  (w_SHARED w_WRITE w_MEMBERSHIP w_READ : Addr) (h0 : Heap) (F0 : OwnF Z h0 w_SHARED w_WRITE w_MEMBERSHIP w_READ)  :
    OMeets l Z mn1 prog_29_method_5_code 3 (some (.object "com/example/isolation/isolation/LockMode")) [] ({ frames := 0, cells := 0, slots := 0, locals := 0 } : Room) #[(.ref w_WRITE), (.ref w_WRITE)] h0 (PureQ (some (.ref w_WRITE)) h0) := by
  refine OMeets.of pn_rm2_19 #[.val (.ref w_WRITE), .val (.ref w_WRITE), .unset] (fun m => by first | rfl | (simp [entryFrame, mkF, argsToLocals, Value.category, maxLocals]; done)) ?_
  intro p e s m below meth c s₁ B X0 e0
  have F := F0
  obtain ⟨S_SHARED, E_SHARED, S_WRITE, E_WRITE, S_MEMBERSHIP, E_MEMBERSHIP, S_READ, E_READ, F_SHARED_ordinal, F_WRITE_ordinal, F_READ_ordinal, F_MEMBERSHIP_ordinal⟩ := F
  refine s_aloadN B X0 (pc' := 1) d2_0 rfl rfl rfl ?_
  refine s_aloadN B X0 (pc' := 2) d2_1 rfl rfl rfl ?_
  refine b_acmp_eq B X0 (py := 12) (pn := 5) d2_2 (by decide) (by decide) rfl (fun _ => ?_) (fun q => absurd rfl q)
  refine s_aloadN B X0 (pc' := 13) d2_12 rfl rfl rfl ?_
  refine s_astoreN B X0 (pc' := 14) (Ls' := #[.val (.ref w_WRITE), .val (.ref w_WRITE), .val (.ref w_WRITE)]) d2_13 rfl rfl rfl ?_
  refine s_goto B X0 (pc' := 33) d2_14 (by decide) (by decide) ?_
  refine s_aloadN B X0 (pc' := 34) d2_33 rfl rfl rfl ?_
  exact r_ref B X0 (t := (.object "com/example/isolation/isolation/LockMode")) rfl rfl rfl rfl d2_34 ⟨rfl, rfl, e0⟩ (by decide) (by decide)

theorem pn_rm_law : plainName "com/example/isolation/isolation/LockModeJoinPinLaw" = true := by first | (simp [plainName, overriddenIn]; done) | decide +kernel
set_option maxRecDepth 65536 in
set_option maxHeartbeats 40000000 in
theorem rm_law (l : Launch) (Z : State) (a0 : Array Value) (hw : ∀ d ∈ tables_1, d.before a0 Z = true) (i0 : Int32) (i1 : Int32) (i2 : Int32) (w_SHARED w_WRITE w_MEMBERSHIP w_READ : Addr) (F0 : OwnF Z Z.heap w_SHARED w_WRITE w_MEMBERSHIP w_READ) :
    OMeets l Z x code maxLocals ret tables_1 room_1 #[(.int i0), (.int i1), (.int i2)] Z.heap (fun v h L => v = some (.int 1) ∧ Fr Z.heap.size L) := by
  refine OMeets.of pn_rm_law #[.val (.int i0), .val (.int i1), .val (.int i2), .unset, .unset, .unset, .unset, .unset, .unset, .unset, .unset, .unset] (fun m => by first | rfl | (simp [entryFrame, mkF, argsToLocals, Value.category, maxLocals]; done)) ?_
  intro p e s m below meth c s₁ B X0 e0
  have F := F0
  obtain ⟨S_SHARED, E_SHARED, S_WRITE, E_WRITE, S_MEMBERSHIP, E_MEMBERSHIP, S_READ, E_READ, F_SHARED_ordinal, F_WRITE_ordinal, F_READ_ordinal, F_MEMBERSHIP_ordinal⟩ := F
  refine s_iloadN B X0 (pc' := 1) at_0 rfl rfl ?_
  rcases own_and3 i0 with hm1 | hm1 | hm1 | hm1
  · refine p_static B X0 (y := mn0) (pc' := 4) (argsL := [(.int i0)]) (under := []) (W := 0) e0 (tw0 hw) (tw1 hw) (tw3 hw) (tw2 hw) (by decide) (rm_mode0 l Z a0 hw i0 hm1 w_SHARED w_WRITE w_MEMBERSHIP w_READ Z.heap F0) (lenOf pd_0 rfl) rfl rfl (by decide) (by decide) rfl rfl (by decide) (by decide) rfl at_1 rfl (fun T2 X2 e2 => ?_)
    show Go p e below _ (T2.setTop (mkF m 4 #[.val (.int i0), .val (.int i1), .val (.int i2), .unset, .unset, .unset, .unset, .unset, .unset, .unset, .unset, .unset] [(.ref w_SHARED)]))
    refine s_astoreN B X2 (pc' := 5) (Ls' := #[.val (.int i0), .val (.int i1), .val (.int i2), .val (.ref w_SHARED), .unset, .unset, .unset, .unset, .unset, .unset, .unset, .unset]) at_4 rfl rfl rfl ?_
    refine s_iloadN B X2 (pc' := 6) at_5 rfl rfl ?_
    rcases own_and3 i1 with hm3 | hm3 | hm3 | hm3
    · refine p_static B X2 (y := mn0) (pc' := 9) (argsL := [(.int i1)]) (under := []) (W := 0) e2 (tw0 hw) (tw1 hw) (tw3 hw) (tw2 hw) (by decide) (rm_mode0 l Z a0 hw i1 hm3 w_SHARED w_WRITE w_MEMBERSHIP w_READ Z.heap F0) (lenOf pd_0 rfl) rfl rfl (by decide) (by decide) rfl rfl (by decide) (by decide) rfl at_6 rfl (fun T4 X4 e4 => ?_)
      show Go p e below _ (T4.setTop (mkF m 9 #[.val (.int i0), .val (.int i1), .val (.int i2), .val (.ref w_SHARED), .unset, .unset, .unset, .unset, .unset, .unset, .unset, .unset] [(.ref w_SHARED)]))
      refine s_astore B X4 (pc' := 11) (Ls' := #[.val (.int i0), .val (.int i1), .val (.int i2), .val (.ref w_SHARED), .val (.ref w_SHARED), .unset, .unset, .unset, .unset, .unset, .unset, .unset]) at_9 rfl rfl rfl ?_
      refine s_iloadN B X4 (pc' := 12) at_11 rfl rfl ?_
      rcases own_and3 i2 with hm5 | hm5 | hm5 | hm5
      · refine p_static B X4 (y := mn0) (pc' := 15) (argsL := [(.int i2)]) (under := []) (W := 0) e4 (tw0 hw) (tw1 hw) (tw3 hw) (tw2 hw) (by decide) (rm_mode0 l Z a0 hw i2 hm5 w_SHARED w_WRITE w_MEMBERSHIP w_READ Z.heap F0) (lenOf pd_0 rfl) rfl rfl (by decide) (by decide) rfl rfl (by decide) (by decide) rfl at_12 rfl (fun T6 X6 e6 => ?_)
        show Go p e below _ (T6.setTop (mkF m 15 #[.val (.int i0), .val (.int i1), .val (.int i2), .val (.ref w_SHARED), .val (.ref w_SHARED), .unset, .unset, .unset, .unset, .unset, .unset, .unset] [(.ref w_SHARED)]))
        refine s_astore B X6 (pc' := 17) (Ls' := #[.val (.int i0), .val (.int i1), .val (.int i2), .val (.ref w_SHARED), .val (.ref w_SHARED), .val (.ref w_SHARED), .unset, .unset, .unset, .unset, .unset, .unset]) at_15 rfl rfl rfl ?_
        refine s_aloadN B X6 (pc' := 18) at_17 rfl rfl rfl ?_
        refine s_aload B X6 (pc' := 20) at_18 rfl rfl rfl ?_
        refine p_virtual B X6 (y := mn1) (pc' := 23) (argsL := [(.ref w_SHARED)]) (under := []) (W := 0) e6 (tw11 hw) (tw12 hw) (tw14 hw) (tw13 hw) (tw15 hw) (tw5 hw) (by decide) (rm2_0 l Z a0 hw  w_SHARED w_WRITE w_MEMBERSHIP w_READ Z.heap F0 ) E_SHARED (lenOf pd_1 rfl) rfl rfl (by decide) (by decide) rfl rfl (by decide) (by decide) rfl at_20 rfl (fun T7 X7 e7 => ?_)
        show Go p e below _ (T7.setTop (mkF m 23 #[.val (.int i0), .val (.int i1), .val (.int i2), .val (.ref w_SHARED), .val (.ref w_SHARED), .val (.ref w_SHARED), .unset, .unset, .unset, .unset, .unset, .unset] [(.ref w_SHARED)]))
        refine s_astore B X7 (pc' := 25) (Ls' := #[.val (.int i0), .val (.int i1), .val (.int i2), .val (.ref w_SHARED), .val (.ref w_SHARED), .val (.ref w_SHARED), .val (.ref w_SHARED), .unset, .unset, .unset, .unset, .unset]) at_23 rfl rfl rfl ?_
        refine s_aload B X7 (pc' := 27) at_25 rfl rfl rfl ?_
        refine s_ifnonnullY B X7 (pc' := 32) at_27 (by decide) (by decide) ?_
        refine s_aloadN B X7 (pc' := 33) at_32 rfl rfl rfl ?_
        refine p_static B X7 (y := mn2) (pc' := 36) (argsL := [(.ref w_SHARED)]) (under := []) (W := 0) e7 (tw17 hw) (tw18 hw) (tw19 hw) (tw2 hw) (by decide) (rm3_1 l Z a0 hw  w_SHARED w_WRITE w_MEMBERSHIP w_READ Z.heap F0 ) (lenOf pd_2 rfl) rfl rfl (by decide) (by decide) rfl rfl (by decide) (by decide) rfl at_33 rfl (fun T8 X8 e8 => ?_)
        show Go p e below _ (T8.setTop (mkF m 36 #[.val (.int i0), .val (.int i1), .val (.int i2), .val (.ref w_SHARED), .val (.ref w_SHARED), .val (.ref w_SHARED), .val (.ref w_SHARED), .unset, .unset, .unset, .unset, .unset] [(.int (8 : Int32))]))
        refine s_aload B X8 (pc' := 38) at_36 rfl rfl rfl ?_
        refine p_static B X8 (y := mn2) (pc' := 41) (argsL := [(.ref w_SHARED)]) (under := [(.int (8 : Int32))]) (W := 1) e8 (tw17 hw) (tw18 hw) (tw19 hw) (tw2 hw) (by decide) (rm3_1 l Z a0 hw  w_SHARED w_WRITE w_MEMBERSHIP w_READ Z.heap F0 ) (lenOf pd_2 rfl) rfl rfl (by decide) (by decide) rfl rfl (by decide) (by decide) rfl at_38 rfl (fun T9 X9 e9 => ?_)
        show Go p e below _ (T9.setTop (mkF m 41 #[.val (.int i0), .val (.int i1), .val (.int i2), .val (.ref w_SHARED), .val (.ref w_SHARED), .val (.ref w_SHARED), .val (.ref w_SHARED), .unset, .unset, .unset, .unset, .unset] [(.int (8 : Int32)), (.int (8 : Int32))]))
        refine s_ior B X9 (pc' := 42) (v := (8 : Int32)) at_41 rfl rfl ?_
        refine s_istore B X9 (pc' := 44) (Ls' := #[.val (.int i0), .val (.int i1), .val (.int i2), .val (.ref w_SHARED), .val (.ref w_SHARED), .val (.ref w_SHARED), .val (.ref w_SHARED), .val (.int (8 : Int32)), .unset, .unset, .unset, .unset]) at_42 rfl rfl ?_
        refine s_aload B X9 (pc' := 46) at_44 rfl rfl rfl ?_
        refine p_static B X9 (y := mn2) (pc' := 49) (argsL := [(.ref w_SHARED)]) (under := []) (W := 0) e9 (tw17 hw) (tw18 hw) (tw19 hw) (tw2 hw) (by decide) (rm3_1 l Z a0 hw  w_SHARED w_WRITE w_MEMBERSHIP w_READ Z.heap F0 ) (lenOf pd_2 rfl) rfl rfl (by decide) (by decide) rfl rfl (by decide) (by decide) rfl at_46 rfl (fun T10 X10 e10 => ?_)
        show Go p e below _ (T10.setTop (mkF m 49 #[.val (.int i0), .val (.int i1), .val (.int i2), .val (.ref w_SHARED), .val (.ref w_SHARED), .val (.ref w_SHARED), .val (.ref w_SHARED), .val (.int (8 : Int32)), .unset, .unset, .unset, .unset] [(.int (8 : Int32))]))
        refine s_istore B X10 (pc' := 51) (Ls' := #[.val (.int i0), .val (.int i1), .val (.int i2), .val (.ref w_SHARED), .val (.ref w_SHARED), .val (.ref w_SHARED), .val (.ref w_SHARED), .val (.int (8 : Int32)), .val (.int (8 : Int32)), .unset, .unset, .unset]) at_49 rfl rfl ?_
        refine s_aload B X10 (pc' := 53) at_51 rfl rfl rfl ?_
        refine p_static B X10 (y := mn2) (pc' := 56) (argsL := [(.ref w_SHARED)]) (under := []) (W := 0) e10 (tw17 hw) (tw18 hw) (tw19 hw) (tw2 hw) (by decide) (rm3_1 l Z a0 hw  w_SHARED w_WRITE w_MEMBERSHIP w_READ Z.heap F0 ) (lenOf pd_2 rfl) rfl rfl (by decide) (by decide) rfl rfl (by decide) (by decide) rfl at_53 rfl (fun T11 X11 e11 => ?_)
        show Go p e below _ (T11.setTop (mkF m 56 #[.val (.int i0), .val (.int i1), .val (.int i2), .val (.ref w_SHARED), .val (.ref w_SHARED), .val (.ref w_SHARED), .val (.ref w_SHARED), .val (.int (8 : Int32)), .val (.int (8 : Int32)), .unset, .unset, .unset] [(.int (8 : Int32))]))
        refine s_istore B X11 (pc' := 58) (Ls' := #[.val (.int i0), .val (.int i1), .val (.int i2), .val (.ref w_SHARED), .val (.ref w_SHARED), .val (.ref w_SHARED), .val (.ref w_SHARED), .val (.int (8 : Int32)), .val (.int (8 : Int32)), .val (.int (8 : Int32)), .unset, .unset]) at_56 rfl rfl ?_
        refine s_iload B X11 (pc' := 60) at_58 rfl rfl ?_
        refine s_iload B X11 (pc' := 62) at_60 rfl rfl ?_
        refine s_iand B X11 (pc' := 63) (v := (8 : Int32)) at_62 rfl rfl ?_
        refine s_iload B X11 (pc' := 65) at_63 rfl rfl ?_
        refine s_icmpN B X11 (pc' := 68) at_65 (by decide) rfl ?_
        refine s_iconst B X11 (pc' := 69) (v := (1 : Int32)) at_68 rfl rfl ?_
        refine s_goto B X11 (pc' := 73) at_69 (by decide) (by decide) ?_
        refine s_istore B X11 (pc' := 75) (Ls' := #[.val (.int i0), .val (.int i1), .val (.int i2), .val (.ref w_SHARED), .val (.ref w_SHARED), .val (.ref w_SHARED), .val (.ref w_SHARED), .val (.int (8 : Int32)), .val (.int (8 : Int32)), .val (.int (8 : Int32)), .val (.int (1 : Int32)), .unset]) at_73 rfl rfl ?_
        refine s_iload B X11 (pc' := 77) at_75 rfl rfl ?_
        refine s_iload B X11 (pc' := 79) at_77 rfl rfl ?_
        refine s_iand B X11 (pc' := 80) (v := (8 : Int32)) at_79 rfl rfl ?_
        refine s_iload B X11 (pc' := 82) at_80 rfl rfl ?_
        refine s_icmpN B X11 (pc' := 85) at_82 (by decide) rfl ?_
        refine s_iload B X11 (pc' := 87) at_85 rfl rfl ?_
        refine s_iload B X11 (pc' := 89) at_87 rfl rfl ?_
        refine s_iand B X11 (pc' := 90) (v := (8 : Int32)) at_89 rfl rfl ?_
        refine s_iload B X11 (pc' := 92) at_90 rfl rfl ?_
        refine s_icmpN B X11 (pc' := 95) at_92 (by decide) rfl ?_
        refine s_iconst B X11 (pc' := 96) (v := (1 : Int32)) at_95 rfl rfl ?_
        refine s_goto B X11 (pc' := 100) at_96 (by decide) (by decide) ?_
        refine s_istore B X11 (pc' := 102) (Ls' := #[.val (.int i0), .val (.int i1), .val (.int i2), .val (.ref w_SHARED), .val (.ref w_SHARED), .val (.ref w_SHARED), .val (.ref w_SHARED), .val (.int (8 : Int32)), .val (.int (8 : Int32)), .val (.int (8 : Int32)), .val (.int (1 : Int32)), .val (.int (1 : Int32))]) at_100 rfl rfl ?_
        refine s_iload B X11 (pc' := 104) at_102 rfl rfl ?_
        refine s_ifN B X11 (pc' := 107) at_104 (by decide) rfl ?_
        refine s_iload B X11 (pc' := 109) at_107 rfl rfl ?_
        refine s_ifN B X11 (pc' := 112) at_109 (by decide) rfl ?_
        refine s_iconst B X11 (pc' := 113) (v := (1 : Int32)) at_112 rfl rfl ?_
        refine s_goto B X11 (pc' := 117) at_113 (by decide) (by decide) ?_
        exact r_nar B X11 (t := .boolean) (by simp) rfl at_117 ⟨rfl, (Fr.nil _)⟩ (by decide) (by decide)
      · refine p_static B X4 (y := mn0) (pc' := 15) (argsL := [(.int i2)]) (under := []) (W := 0) e4 (tw0 hw) (tw1 hw) (tw3 hw) (tw2 hw) (by decide) (rm_mode1 l Z a0 hw i2 hm5 w_SHARED w_WRITE w_MEMBERSHIP w_READ Z.heap F0) (lenOf pd_0 rfl) rfl rfl (by decide) (by decide) rfl rfl (by decide) (by decide) rfl at_12 rfl (fun T12 X12 e12 => ?_)
        show Go p e below _ (T12.setTop (mkF m 15 #[.val (.int i0), .val (.int i1), .val (.int i2), .val (.ref w_SHARED), .val (.ref w_SHARED), .unset, .unset, .unset, .unset, .unset, .unset, .unset] [(.ref w_READ)]))
        refine s_astore B X12 (pc' := 17) (Ls' := #[.val (.int i0), .val (.int i1), .val (.int i2), .val (.ref w_SHARED), .val (.ref w_SHARED), .val (.ref w_READ), .unset, .unset, .unset, .unset, .unset, .unset]) at_15 rfl rfl rfl ?_
        refine s_aloadN B X12 (pc' := 18) at_17 rfl rfl rfl ?_
        refine s_aload B X12 (pc' := 20) at_18 rfl rfl rfl ?_
        refine p_virtual B X12 (y := mn1) (pc' := 23) (argsL := [(.ref w_SHARED)]) (under := []) (W := 0) e12 (tw11 hw) (tw12 hw) (tw14 hw) (tw13 hw) (tw15 hw) (tw5 hw) (by decide) (rm2_0 l Z a0 hw  w_SHARED w_WRITE w_MEMBERSHIP w_READ Z.heap F0 ) E_SHARED (lenOf pd_1 rfl) rfl rfl (by decide) (by decide) rfl rfl (by decide) (by decide) rfl at_20 rfl (fun T13 X13 e13 => ?_)
        show Go p e below _ (T13.setTop (mkF m 23 #[.val (.int i0), .val (.int i1), .val (.int i2), .val (.ref w_SHARED), .val (.ref w_SHARED), .val (.ref w_READ), .unset, .unset, .unset, .unset, .unset, .unset] [(.ref w_SHARED)]))
        refine s_astore B X13 (pc' := 25) (Ls' := #[.val (.int i0), .val (.int i1), .val (.int i2), .val (.ref w_SHARED), .val (.ref w_SHARED), .val (.ref w_READ), .val (.ref w_SHARED), .unset, .unset, .unset, .unset, .unset]) at_23 rfl rfl rfl ?_
        refine s_aload B X13 (pc' := 27) at_25 rfl rfl rfl ?_
        refine s_ifnonnullY B X13 (pc' := 32) at_27 (by decide) (by decide) ?_
        refine s_aloadN B X13 (pc' := 33) at_32 rfl rfl rfl ?_
        refine p_static B X13 (y := mn2) (pc' := 36) (argsL := [(.ref w_SHARED)]) (under := []) (W := 0) e13 (tw17 hw) (tw18 hw) (tw19 hw) (tw2 hw) (by decide) (rm3_1 l Z a0 hw  w_SHARED w_WRITE w_MEMBERSHIP w_READ Z.heap F0 ) (lenOf pd_2 rfl) rfl rfl (by decide) (by decide) rfl rfl (by decide) (by decide) rfl at_33 rfl (fun T14 X14 e14 => ?_)
        show Go p e below _ (T14.setTop (mkF m 36 #[.val (.int i0), .val (.int i1), .val (.int i2), .val (.ref w_SHARED), .val (.ref w_SHARED), .val (.ref w_READ), .val (.ref w_SHARED), .unset, .unset, .unset, .unset, .unset] [(.int (8 : Int32))]))
        refine s_aload B X14 (pc' := 38) at_36 rfl rfl rfl ?_
        refine p_static B X14 (y := mn2) (pc' := 41) (argsL := [(.ref w_SHARED)]) (under := [(.int (8 : Int32))]) (W := 1) e14 (tw17 hw) (tw18 hw) (tw19 hw) (tw2 hw) (by decide) (rm3_1 l Z a0 hw  w_SHARED w_WRITE w_MEMBERSHIP w_READ Z.heap F0 ) (lenOf pd_2 rfl) rfl rfl (by decide) (by decide) rfl rfl (by decide) (by decide) rfl at_38 rfl (fun T15 X15 e15 => ?_)
        show Go p e below _ (T15.setTop (mkF m 41 #[.val (.int i0), .val (.int i1), .val (.int i2), .val (.ref w_SHARED), .val (.ref w_SHARED), .val (.ref w_READ), .val (.ref w_SHARED), .unset, .unset, .unset, .unset, .unset] [(.int (8 : Int32)), (.int (8 : Int32))]))
        refine s_ior B X15 (pc' := 42) (v := (8 : Int32)) at_41 rfl rfl ?_
        refine s_istore B X15 (pc' := 44) (Ls' := #[.val (.int i0), .val (.int i1), .val (.int i2), .val (.ref w_SHARED), .val (.ref w_SHARED), .val (.ref w_READ), .val (.ref w_SHARED), .val (.int (8 : Int32)), .unset, .unset, .unset, .unset]) at_42 rfl rfl ?_
        refine s_aload B X15 (pc' := 46) at_44 rfl rfl rfl ?_
        refine p_static B X15 (y := mn2) (pc' := 49) (argsL := [(.ref w_SHARED)]) (under := []) (W := 0) e15 (tw17 hw) (tw18 hw) (tw19 hw) (tw2 hw) (by decide) (rm3_1 l Z a0 hw  w_SHARED w_WRITE w_MEMBERSHIP w_READ Z.heap F0 ) (lenOf pd_2 rfl) rfl rfl (by decide) (by decide) rfl rfl (by decide) (by decide) rfl at_46 rfl (fun T16 X16 e16 => ?_)
        show Go p e below _ (T16.setTop (mkF m 49 #[.val (.int i0), .val (.int i1), .val (.int i2), .val (.ref w_SHARED), .val (.ref w_SHARED), .val (.ref w_READ), .val (.ref w_SHARED), .val (.int (8 : Int32)), .unset, .unset, .unset, .unset] [(.int (8 : Int32))]))
        refine s_istore B X16 (pc' := 51) (Ls' := #[.val (.int i0), .val (.int i1), .val (.int i2), .val (.ref w_SHARED), .val (.ref w_SHARED), .val (.ref w_READ), .val (.ref w_SHARED), .val (.int (8 : Int32)), .val (.int (8 : Int32)), .unset, .unset, .unset]) at_49 rfl rfl ?_
        refine s_aload B X16 (pc' := 53) at_51 rfl rfl rfl ?_
        refine p_static B X16 (y := mn2) (pc' := 56) (argsL := [(.ref w_READ)]) (under := []) (W := 0) e16 (tw17 hw) (tw18 hw) (tw19 hw) (tw2 hw) (by decide) (rm3_2 l Z a0 hw  w_SHARED w_WRITE w_MEMBERSHIP w_READ Z.heap F0 ) (lenOf pd_2 rfl) rfl rfl (by decide) (by decide) rfl rfl (by decide) (by decide) rfl at_53 rfl (fun T17 X17 e17 => ?_)
        show Go p e below _ (T17.setTop (mkF m 56 #[.val (.int i0), .val (.int i1), .val (.int i2), .val (.ref w_SHARED), .val (.ref w_SHARED), .val (.ref w_READ), .val (.ref w_SHARED), .val (.int (8 : Int32)), .val (.int (8 : Int32)), .unset, .unset, .unset] [(.int (12 : Int32))]))
        refine s_istore B X17 (pc' := 58) (Ls' := #[.val (.int i0), .val (.int i1), .val (.int i2), .val (.ref w_SHARED), .val (.ref w_SHARED), .val (.ref w_READ), .val (.ref w_SHARED), .val (.int (8 : Int32)), .val (.int (8 : Int32)), .val (.int (12 : Int32)), .unset, .unset]) at_56 rfl rfl ?_
        refine s_iload B X17 (pc' := 60) at_58 rfl rfl ?_
        refine s_iload B X17 (pc' := 62) at_60 rfl rfl ?_
        refine s_iand B X17 (pc' := 63) (v := (8 : Int32)) at_62 rfl rfl ?_
        refine s_iload B X17 (pc' := 65) at_63 rfl rfl ?_
        refine s_icmpN B X17 (pc' := 68) at_65 (by decide) rfl ?_
        refine s_iconst B X17 (pc' := 69) (v := (1 : Int32)) at_68 rfl rfl ?_
        refine s_goto B X17 (pc' := 73) at_69 (by decide) (by decide) ?_
        refine s_istore B X17 (pc' := 75) (Ls' := #[.val (.int i0), .val (.int i1), .val (.int i2), .val (.ref w_SHARED), .val (.ref w_SHARED), .val (.ref w_READ), .val (.ref w_SHARED), .val (.int (8 : Int32)), .val (.int (8 : Int32)), .val (.int (12 : Int32)), .val (.int (1 : Int32)), .unset]) at_73 rfl rfl ?_
        refine s_iload B X17 (pc' := 77) at_75 rfl rfl ?_
        refine s_iload B X17 (pc' := 79) at_77 rfl rfl ?_
        refine s_iand B X17 (pc' := 80) (v := (8 : Int32)) at_79 rfl rfl ?_
        refine s_iload B X17 (pc' := 82) at_80 rfl rfl ?_
        refine s_icmpN B X17 (pc' := 85) at_82 (by decide) rfl ?_
        refine s_iload B X17 (pc' := 87) at_85 rfl rfl ?_
        refine s_iload B X17 (pc' := 89) at_87 rfl rfl ?_
        refine s_iand B X17 (pc' := 90) (v := (8 : Int32)) at_89 rfl rfl ?_
        refine s_iload B X17 (pc' := 92) at_90 rfl rfl ?_
        refine s_icmpN B X17 (pc' := 95) at_92 (by decide) rfl ?_
        refine s_iconst B X17 (pc' := 96) (v := (1 : Int32)) at_95 rfl rfl ?_
        refine s_goto B X17 (pc' := 100) at_96 (by decide) (by decide) ?_
        refine s_istore B X17 (pc' := 102) (Ls' := #[.val (.int i0), .val (.int i1), .val (.int i2), .val (.ref w_SHARED), .val (.ref w_SHARED), .val (.ref w_READ), .val (.ref w_SHARED), .val (.int (8 : Int32)), .val (.int (8 : Int32)), .val (.int (12 : Int32)), .val (.int (1 : Int32)), .val (.int (1 : Int32))]) at_100 rfl rfl ?_
        refine s_iload B X17 (pc' := 104) at_102 rfl rfl ?_
        refine s_ifN B X17 (pc' := 107) at_104 (by decide) rfl ?_
        refine s_iload B X17 (pc' := 109) at_107 rfl rfl ?_
        refine s_ifN B X17 (pc' := 112) at_109 (by decide) rfl ?_
        refine s_iconst B X17 (pc' := 113) (v := (1 : Int32)) at_112 rfl rfl ?_
        refine s_goto B X17 (pc' := 117) at_113 (by decide) (by decide) ?_
        exact r_nar B X17 (t := .boolean) (by simp) rfl at_117 ⟨rfl, (Fr.nil _)⟩ (by decide) (by decide)
      · refine p_static B X4 (y := mn0) (pc' := 15) (argsL := [(.int i2)]) (under := []) (W := 0) e4 (tw0 hw) (tw1 hw) (tw3 hw) (tw2 hw) (by decide) (rm_mode2 l Z a0 hw i2 hm5 w_SHARED w_WRITE w_MEMBERSHIP w_READ Z.heap F0) (lenOf pd_0 rfl) rfl rfl (by decide) (by decide) rfl rfl (by decide) (by decide) rfl at_12 rfl (fun T18 X18 e18 => ?_)
        show Go p e below _ (T18.setTop (mkF m 15 #[.val (.int i0), .val (.int i1), .val (.int i2), .val (.ref w_SHARED), .val (.ref w_SHARED), .unset, .unset, .unset, .unset, .unset, .unset, .unset] [(.ref w_MEMBERSHIP)]))
        refine s_astore B X18 (pc' := 17) (Ls' := #[.val (.int i0), .val (.int i1), .val (.int i2), .val (.ref w_SHARED), .val (.ref w_SHARED), .val (.ref w_MEMBERSHIP), .unset, .unset, .unset, .unset, .unset, .unset]) at_15 rfl rfl rfl ?_
        refine s_aloadN B X18 (pc' := 18) at_17 rfl rfl rfl ?_
        refine s_aload B X18 (pc' := 20) at_18 rfl rfl rfl ?_
        refine p_virtual B X18 (y := mn1) (pc' := 23) (argsL := [(.ref w_SHARED)]) (under := []) (W := 0) e18 (tw11 hw) (tw12 hw) (tw14 hw) (tw13 hw) (tw15 hw) (tw5 hw) (by decide) (rm2_0 l Z a0 hw  w_SHARED w_WRITE w_MEMBERSHIP w_READ Z.heap F0 ) E_SHARED (lenOf pd_1 rfl) rfl rfl (by decide) (by decide) rfl rfl (by decide) (by decide) rfl at_20 rfl (fun T19 X19 e19 => ?_)
        show Go p e below _ (T19.setTop (mkF m 23 #[.val (.int i0), .val (.int i1), .val (.int i2), .val (.ref w_SHARED), .val (.ref w_SHARED), .val (.ref w_MEMBERSHIP), .unset, .unset, .unset, .unset, .unset, .unset] [(.ref w_SHARED)]))
        refine s_astore B X19 (pc' := 25) (Ls' := #[.val (.int i0), .val (.int i1), .val (.int i2), .val (.ref w_SHARED), .val (.ref w_SHARED), .val (.ref w_MEMBERSHIP), .val (.ref w_SHARED), .unset, .unset, .unset, .unset, .unset]) at_23 rfl rfl rfl ?_
        refine s_aload B X19 (pc' := 27) at_25 rfl rfl rfl ?_
        refine s_ifnonnullY B X19 (pc' := 32) at_27 (by decide) (by decide) ?_
        refine s_aloadN B X19 (pc' := 33) at_32 rfl rfl rfl ?_
        refine p_static B X19 (y := mn2) (pc' := 36) (argsL := [(.ref w_SHARED)]) (under := []) (W := 0) e19 (tw17 hw) (tw18 hw) (tw19 hw) (tw2 hw) (by decide) (rm3_1 l Z a0 hw  w_SHARED w_WRITE w_MEMBERSHIP w_READ Z.heap F0 ) (lenOf pd_2 rfl) rfl rfl (by decide) (by decide) rfl rfl (by decide) (by decide) rfl at_33 rfl (fun T20 X20 e20 => ?_)
        show Go p e below _ (T20.setTop (mkF m 36 #[.val (.int i0), .val (.int i1), .val (.int i2), .val (.ref w_SHARED), .val (.ref w_SHARED), .val (.ref w_MEMBERSHIP), .val (.ref w_SHARED), .unset, .unset, .unset, .unset, .unset] [(.int (8 : Int32))]))
        refine s_aload B X20 (pc' := 38) at_36 rfl rfl rfl ?_
        refine p_static B X20 (y := mn2) (pc' := 41) (argsL := [(.ref w_SHARED)]) (under := [(.int (8 : Int32))]) (W := 1) e20 (tw17 hw) (tw18 hw) (tw19 hw) (tw2 hw) (by decide) (rm3_1 l Z a0 hw  w_SHARED w_WRITE w_MEMBERSHIP w_READ Z.heap F0 ) (lenOf pd_2 rfl) rfl rfl (by decide) (by decide) rfl rfl (by decide) (by decide) rfl at_38 rfl (fun T21 X21 e21 => ?_)
        show Go p e below _ (T21.setTop (mkF m 41 #[.val (.int i0), .val (.int i1), .val (.int i2), .val (.ref w_SHARED), .val (.ref w_SHARED), .val (.ref w_MEMBERSHIP), .val (.ref w_SHARED), .unset, .unset, .unset, .unset, .unset] [(.int (8 : Int32)), (.int (8 : Int32))]))
        refine s_ior B X21 (pc' := 42) (v := (8 : Int32)) at_41 rfl rfl ?_
        refine s_istore B X21 (pc' := 44) (Ls' := #[.val (.int i0), .val (.int i1), .val (.int i2), .val (.ref w_SHARED), .val (.ref w_SHARED), .val (.ref w_MEMBERSHIP), .val (.ref w_SHARED), .val (.int (8 : Int32)), .unset, .unset, .unset, .unset]) at_42 rfl rfl ?_
        refine s_aload B X21 (pc' := 46) at_44 rfl rfl rfl ?_
        refine p_static B X21 (y := mn2) (pc' := 49) (argsL := [(.ref w_SHARED)]) (under := []) (W := 0) e21 (tw17 hw) (tw18 hw) (tw19 hw) (tw2 hw) (by decide) (rm3_1 l Z a0 hw  w_SHARED w_WRITE w_MEMBERSHIP w_READ Z.heap F0 ) (lenOf pd_2 rfl) rfl rfl (by decide) (by decide) rfl rfl (by decide) (by decide) rfl at_46 rfl (fun T22 X22 e22 => ?_)
        show Go p e below _ (T22.setTop (mkF m 49 #[.val (.int i0), .val (.int i1), .val (.int i2), .val (.ref w_SHARED), .val (.ref w_SHARED), .val (.ref w_MEMBERSHIP), .val (.ref w_SHARED), .val (.int (8 : Int32)), .unset, .unset, .unset, .unset] [(.int (8 : Int32))]))
        refine s_istore B X22 (pc' := 51) (Ls' := #[.val (.int i0), .val (.int i1), .val (.int i2), .val (.ref w_SHARED), .val (.ref w_SHARED), .val (.ref w_MEMBERSHIP), .val (.ref w_SHARED), .val (.int (8 : Int32)), .val (.int (8 : Int32)), .unset, .unset, .unset]) at_49 rfl rfl ?_
        refine s_aload B X22 (pc' := 53) at_51 rfl rfl rfl ?_
        refine p_static B X22 (y := mn2) (pc' := 56) (argsL := [(.ref w_MEMBERSHIP)]) (under := []) (W := 0) e22 (tw17 hw) (tw18 hw) (tw19 hw) (tw2 hw) (by decide) (rm3_3 l Z a0 hw  w_SHARED w_WRITE w_MEMBERSHIP w_READ Z.heap F0 ) (lenOf pd_2 rfl) rfl rfl (by decide) (by decide) rfl rfl (by decide) (by decide) rfl at_53 rfl (fun T23 X23 e23 => ?_)
        show Go p e below _ (T23.setTop (mkF m 56 #[.val (.int i0), .val (.int i1), .val (.int i2), .val (.ref w_SHARED), .val (.ref w_SHARED), .val (.ref w_MEMBERSHIP), .val (.ref w_SHARED), .val (.int (8 : Int32)), .val (.int (8 : Int32)), .unset, .unset, .unset] [(.int (10 : Int32))]))
        refine s_istore B X23 (pc' := 58) (Ls' := #[.val (.int i0), .val (.int i1), .val (.int i2), .val (.ref w_SHARED), .val (.ref w_SHARED), .val (.ref w_MEMBERSHIP), .val (.ref w_SHARED), .val (.int (8 : Int32)), .val (.int (8 : Int32)), .val (.int (10 : Int32)), .unset, .unset]) at_56 rfl rfl ?_
        refine s_iload B X23 (pc' := 60) at_58 rfl rfl ?_
        refine s_iload B X23 (pc' := 62) at_60 rfl rfl ?_
        refine s_iand B X23 (pc' := 63) (v := (8 : Int32)) at_62 rfl rfl ?_
        refine s_iload B X23 (pc' := 65) at_63 rfl rfl ?_
        refine s_icmpN B X23 (pc' := 68) at_65 (by decide) rfl ?_
        refine s_iconst B X23 (pc' := 69) (v := (1 : Int32)) at_68 rfl rfl ?_
        refine s_goto B X23 (pc' := 73) at_69 (by decide) (by decide) ?_
        refine s_istore B X23 (pc' := 75) (Ls' := #[.val (.int i0), .val (.int i1), .val (.int i2), .val (.ref w_SHARED), .val (.ref w_SHARED), .val (.ref w_MEMBERSHIP), .val (.ref w_SHARED), .val (.int (8 : Int32)), .val (.int (8 : Int32)), .val (.int (10 : Int32)), .val (.int (1 : Int32)), .unset]) at_73 rfl rfl ?_
        refine s_iload B X23 (pc' := 77) at_75 rfl rfl ?_
        refine s_iload B X23 (pc' := 79) at_77 rfl rfl ?_
        refine s_iand B X23 (pc' := 80) (v := (8 : Int32)) at_79 rfl rfl ?_
        refine s_iload B X23 (pc' := 82) at_80 rfl rfl ?_
        refine s_icmpN B X23 (pc' := 85) at_82 (by decide) rfl ?_
        refine s_iload B X23 (pc' := 87) at_85 rfl rfl ?_
        refine s_iload B X23 (pc' := 89) at_87 rfl rfl ?_
        refine s_iand B X23 (pc' := 90) (v := (8 : Int32)) at_89 rfl rfl ?_
        refine s_iload B X23 (pc' := 92) at_90 rfl rfl ?_
        refine s_icmpN B X23 (pc' := 95) at_92 (by decide) rfl ?_
        refine s_iconst B X23 (pc' := 96) (v := (1 : Int32)) at_95 rfl rfl ?_
        refine s_goto B X23 (pc' := 100) at_96 (by decide) (by decide) ?_
        refine s_istore B X23 (pc' := 102) (Ls' := #[.val (.int i0), .val (.int i1), .val (.int i2), .val (.ref w_SHARED), .val (.ref w_SHARED), .val (.ref w_MEMBERSHIP), .val (.ref w_SHARED), .val (.int (8 : Int32)), .val (.int (8 : Int32)), .val (.int (10 : Int32)), .val (.int (1 : Int32)), .val (.int (1 : Int32))]) at_100 rfl rfl ?_
        refine s_iload B X23 (pc' := 104) at_102 rfl rfl ?_
        refine s_ifN B X23 (pc' := 107) at_104 (by decide) rfl ?_
        refine s_iload B X23 (pc' := 109) at_107 rfl rfl ?_
        refine s_ifN B X23 (pc' := 112) at_109 (by decide) rfl ?_
        refine s_iconst B X23 (pc' := 113) (v := (1 : Int32)) at_112 rfl rfl ?_
        refine s_goto B X23 (pc' := 117) at_113 (by decide) (by decide) ?_
        exact r_nar B X23 (t := .boolean) (by simp) rfl at_117 ⟨rfl, (Fr.nil _)⟩ (by decide) (by decide)
      · refine p_static B X4 (y := mn0) (pc' := 15) (argsL := [(.int i2)]) (under := []) (W := 0) e4 (tw0 hw) (tw1 hw) (tw3 hw) (tw2 hw) (by decide) (rm_mode3 l Z a0 hw i2 hm5 w_SHARED w_WRITE w_MEMBERSHIP w_READ Z.heap F0) (lenOf pd_0 rfl) rfl rfl (by decide) (by decide) rfl rfl (by decide) (by decide) rfl at_12 rfl (fun T24 X24 e24 => ?_)
        show Go p e below _ (T24.setTop (mkF m 15 #[.val (.int i0), .val (.int i1), .val (.int i2), .val (.ref w_SHARED), .val (.ref w_SHARED), .unset, .unset, .unset, .unset, .unset, .unset, .unset] [(.ref w_WRITE)]))
        refine s_astore B X24 (pc' := 17) (Ls' := #[.val (.int i0), .val (.int i1), .val (.int i2), .val (.ref w_SHARED), .val (.ref w_SHARED), .val (.ref w_WRITE), .unset, .unset, .unset, .unset, .unset, .unset]) at_15 rfl rfl rfl ?_
        refine s_aloadN B X24 (pc' := 18) at_17 rfl rfl rfl ?_
        refine s_aload B X24 (pc' := 20) at_18 rfl rfl rfl ?_
        refine p_virtual B X24 (y := mn1) (pc' := 23) (argsL := [(.ref w_SHARED)]) (under := []) (W := 0) e24 (tw11 hw) (tw12 hw) (tw14 hw) (tw13 hw) (tw15 hw) (tw5 hw) (by decide) (rm2_0 l Z a0 hw  w_SHARED w_WRITE w_MEMBERSHIP w_READ Z.heap F0 ) E_SHARED (lenOf pd_1 rfl) rfl rfl (by decide) (by decide) rfl rfl (by decide) (by decide) rfl at_20 rfl (fun T25 X25 e25 => ?_)
        show Go p e below _ (T25.setTop (mkF m 23 #[.val (.int i0), .val (.int i1), .val (.int i2), .val (.ref w_SHARED), .val (.ref w_SHARED), .val (.ref w_WRITE), .unset, .unset, .unset, .unset, .unset, .unset] [(.ref w_SHARED)]))
        refine s_astore B X25 (pc' := 25) (Ls' := #[.val (.int i0), .val (.int i1), .val (.int i2), .val (.ref w_SHARED), .val (.ref w_SHARED), .val (.ref w_WRITE), .val (.ref w_SHARED), .unset, .unset, .unset, .unset, .unset]) at_23 rfl rfl rfl ?_
        refine s_aload B X25 (pc' := 27) at_25 rfl rfl rfl ?_
        refine s_ifnonnullY B X25 (pc' := 32) at_27 (by decide) (by decide) ?_
        refine s_aloadN B X25 (pc' := 33) at_32 rfl rfl rfl ?_
        refine p_static B X25 (y := mn2) (pc' := 36) (argsL := [(.ref w_SHARED)]) (under := []) (W := 0) e25 (tw17 hw) (tw18 hw) (tw19 hw) (tw2 hw) (by decide) (rm3_1 l Z a0 hw  w_SHARED w_WRITE w_MEMBERSHIP w_READ Z.heap F0 ) (lenOf pd_2 rfl) rfl rfl (by decide) (by decide) rfl rfl (by decide) (by decide) rfl at_33 rfl (fun T26 X26 e26 => ?_)
        show Go p e below _ (T26.setTop (mkF m 36 #[.val (.int i0), .val (.int i1), .val (.int i2), .val (.ref w_SHARED), .val (.ref w_SHARED), .val (.ref w_WRITE), .val (.ref w_SHARED), .unset, .unset, .unset, .unset, .unset] [(.int (8 : Int32))]))
        refine s_aload B X26 (pc' := 38) at_36 rfl rfl rfl ?_
        refine p_static B X26 (y := mn2) (pc' := 41) (argsL := [(.ref w_SHARED)]) (under := [(.int (8 : Int32))]) (W := 1) e26 (tw17 hw) (tw18 hw) (tw19 hw) (tw2 hw) (by decide) (rm3_1 l Z a0 hw  w_SHARED w_WRITE w_MEMBERSHIP w_READ Z.heap F0 ) (lenOf pd_2 rfl) rfl rfl (by decide) (by decide) rfl rfl (by decide) (by decide) rfl at_38 rfl (fun T27 X27 e27 => ?_)
        show Go p e below _ (T27.setTop (mkF m 41 #[.val (.int i0), .val (.int i1), .val (.int i2), .val (.ref w_SHARED), .val (.ref w_SHARED), .val (.ref w_WRITE), .val (.ref w_SHARED), .unset, .unset, .unset, .unset, .unset] [(.int (8 : Int32)), (.int (8 : Int32))]))
        refine s_ior B X27 (pc' := 42) (v := (8 : Int32)) at_41 rfl rfl ?_
        refine s_istore B X27 (pc' := 44) (Ls' := #[.val (.int i0), .val (.int i1), .val (.int i2), .val (.ref w_SHARED), .val (.ref w_SHARED), .val (.ref w_WRITE), .val (.ref w_SHARED), .val (.int (8 : Int32)), .unset, .unset, .unset, .unset]) at_42 rfl rfl ?_
        refine s_aload B X27 (pc' := 46) at_44 rfl rfl rfl ?_
        refine p_static B X27 (y := mn2) (pc' := 49) (argsL := [(.ref w_SHARED)]) (under := []) (W := 0) e27 (tw17 hw) (tw18 hw) (tw19 hw) (tw2 hw) (by decide) (rm3_1 l Z a0 hw  w_SHARED w_WRITE w_MEMBERSHIP w_READ Z.heap F0 ) (lenOf pd_2 rfl) rfl rfl (by decide) (by decide) rfl rfl (by decide) (by decide) rfl at_46 rfl (fun T28 X28 e28 => ?_)
        show Go p e below _ (T28.setTop (mkF m 49 #[.val (.int i0), .val (.int i1), .val (.int i2), .val (.ref w_SHARED), .val (.ref w_SHARED), .val (.ref w_WRITE), .val (.ref w_SHARED), .val (.int (8 : Int32)), .unset, .unset, .unset, .unset] [(.int (8 : Int32))]))
        refine s_istore B X28 (pc' := 51) (Ls' := #[.val (.int i0), .val (.int i1), .val (.int i2), .val (.ref w_SHARED), .val (.ref w_SHARED), .val (.ref w_WRITE), .val (.ref w_SHARED), .val (.int (8 : Int32)), .val (.int (8 : Int32)), .unset, .unset, .unset]) at_49 rfl rfl ?_
        refine s_aload B X28 (pc' := 53) at_51 rfl rfl rfl ?_
        refine p_static B X28 (y := mn2) (pc' := 56) (argsL := [(.ref w_WRITE)]) (under := []) (W := 0) e28 (tw17 hw) (tw18 hw) (tw19 hw) (tw2 hw) (by decide) (rm3_4 l Z a0 hw  w_SHARED w_WRITE w_MEMBERSHIP w_READ Z.heap F0 ) (lenOf pd_2 rfl) rfl rfl (by decide) (by decide) rfl rfl (by decide) (by decide) rfl at_53 rfl (fun T29 X29 e29 => ?_)
        show Go p e below _ (T29.setTop (mkF m 56 #[.val (.int i0), .val (.int i1), .val (.int i2), .val (.ref w_SHARED), .val (.ref w_SHARED), .val (.ref w_WRITE), .val (.ref w_SHARED), .val (.int (8 : Int32)), .val (.int (8 : Int32)), .unset, .unset, .unset] [(.int (15 : Int32))]))
        refine s_istore B X29 (pc' := 58) (Ls' := #[.val (.int i0), .val (.int i1), .val (.int i2), .val (.ref w_SHARED), .val (.ref w_SHARED), .val (.ref w_WRITE), .val (.ref w_SHARED), .val (.int (8 : Int32)), .val (.int (8 : Int32)), .val (.int (15 : Int32)), .unset, .unset]) at_56 rfl rfl ?_
        refine s_iload B X29 (pc' := 60) at_58 rfl rfl ?_
        refine s_iload B X29 (pc' := 62) at_60 rfl rfl ?_
        refine s_iand B X29 (pc' := 63) (v := (8 : Int32)) at_62 rfl rfl ?_
        refine s_iload B X29 (pc' := 65) at_63 rfl rfl ?_
        refine s_icmpN B X29 (pc' := 68) at_65 (by decide) rfl ?_
        refine s_iconst B X29 (pc' := 69) (v := (1 : Int32)) at_68 rfl rfl ?_
        refine s_goto B X29 (pc' := 73) at_69 (by decide) (by decide) ?_
        refine s_istore B X29 (pc' := 75) (Ls' := #[.val (.int i0), .val (.int i1), .val (.int i2), .val (.ref w_SHARED), .val (.ref w_SHARED), .val (.ref w_WRITE), .val (.ref w_SHARED), .val (.int (8 : Int32)), .val (.int (8 : Int32)), .val (.int (15 : Int32)), .val (.int (1 : Int32)), .unset]) at_73 rfl rfl ?_
        refine s_iload B X29 (pc' := 77) at_75 rfl rfl ?_
        refine s_iload B X29 (pc' := 79) at_77 rfl rfl ?_
        refine s_iand B X29 (pc' := 80) (v := (8 : Int32)) at_79 rfl rfl ?_
        refine s_iload B X29 (pc' := 82) at_80 rfl rfl ?_
        refine s_icmpN B X29 (pc' := 85) at_82 (by decide) rfl ?_
        refine s_iload B X29 (pc' := 87) at_85 rfl rfl ?_
        refine s_iload B X29 (pc' := 89) at_87 rfl rfl ?_
        refine s_iand B X29 (pc' := 90) (v := (8 : Int32)) at_89 rfl rfl ?_
        refine s_iload B X29 (pc' := 92) at_90 rfl rfl ?_
        refine s_icmpN B X29 (pc' := 95) at_92 (by decide) rfl ?_
        refine s_iconst B X29 (pc' := 96) (v := (1 : Int32)) at_95 rfl rfl ?_
        refine s_goto B X29 (pc' := 100) at_96 (by decide) (by decide) ?_
        refine s_istore B X29 (pc' := 102) (Ls' := #[.val (.int i0), .val (.int i1), .val (.int i2), .val (.ref w_SHARED), .val (.ref w_SHARED), .val (.ref w_WRITE), .val (.ref w_SHARED), .val (.int (8 : Int32)), .val (.int (8 : Int32)), .val (.int (15 : Int32)), .val (.int (1 : Int32)), .val (.int (1 : Int32))]) at_100 rfl rfl ?_
        refine s_iload B X29 (pc' := 104) at_102 rfl rfl ?_
        refine s_ifN B X29 (pc' := 107) at_104 (by decide) rfl ?_
        refine s_iload B X29 (pc' := 109) at_107 rfl rfl ?_
        refine s_ifN B X29 (pc' := 112) at_109 (by decide) rfl ?_
        refine s_iconst B X29 (pc' := 113) (v := (1 : Int32)) at_112 rfl rfl ?_
        refine s_goto B X29 (pc' := 117) at_113 (by decide) (by decide) ?_
        exact r_nar B X29 (t := .boolean) (by simp) rfl at_117 ⟨rfl, (Fr.nil _)⟩ (by decide) (by decide)
    · refine p_static B X2 (y := mn0) (pc' := 9) (argsL := [(.int i1)]) (under := []) (W := 0) e2 (tw0 hw) (tw1 hw) (tw3 hw) (tw2 hw) (by decide) (rm_mode1 l Z a0 hw i1 hm3 w_SHARED w_WRITE w_MEMBERSHIP w_READ Z.heap F0) (lenOf pd_0 rfl) rfl rfl (by decide) (by decide) rfl rfl (by decide) (by decide) rfl at_6 rfl (fun T30 X30 e30 => ?_)
      show Go p e below _ (T30.setTop (mkF m 9 #[.val (.int i0), .val (.int i1), .val (.int i2), .val (.ref w_SHARED), .unset, .unset, .unset, .unset, .unset, .unset, .unset, .unset] [(.ref w_READ)]))
      refine s_astore B X30 (pc' := 11) (Ls' := #[.val (.int i0), .val (.int i1), .val (.int i2), .val (.ref w_SHARED), .val (.ref w_READ), .unset, .unset, .unset, .unset, .unset, .unset, .unset]) at_9 rfl rfl rfl ?_
      refine s_iloadN B X30 (pc' := 12) at_11 rfl rfl ?_
      rcases own_and3 i2 with hm31 | hm31 | hm31 | hm31
      · refine p_static B X30 (y := mn0) (pc' := 15) (argsL := [(.int i2)]) (under := []) (W := 0) e30 (tw0 hw) (tw1 hw) (tw3 hw) (tw2 hw) (by decide) (rm_mode0 l Z a0 hw i2 hm31 w_SHARED w_WRITE w_MEMBERSHIP w_READ Z.heap F0) (lenOf pd_0 rfl) rfl rfl (by decide) (by decide) rfl rfl (by decide) (by decide) rfl at_12 rfl (fun T32 X32 e32 => ?_)
        show Go p e below _ (T32.setTop (mkF m 15 #[.val (.int i0), .val (.int i1), .val (.int i2), .val (.ref w_SHARED), .val (.ref w_READ), .unset, .unset, .unset, .unset, .unset, .unset, .unset] [(.ref w_SHARED)]))
        refine s_astore B X32 (pc' := 17) (Ls' := #[.val (.int i0), .val (.int i1), .val (.int i2), .val (.ref w_SHARED), .val (.ref w_READ), .val (.ref w_SHARED), .unset, .unset, .unset, .unset, .unset, .unset]) at_15 rfl rfl rfl ?_
        refine s_aloadN B X32 (pc' := 18) at_17 rfl rfl rfl ?_
        refine s_aload B X32 (pc' := 20) at_18 rfl rfl rfl ?_
        refine p_virtual B X32 (y := mn1) (pc' := 23) (argsL := [(.ref w_READ)]) (under := []) (W := 0) e32 (tw11 hw) (tw12 hw) (tw14 hw) (tw13 hw) (tw15 hw) (tw5 hw) (by decide) (rm2_5 l Z a0 hw  w_SHARED w_WRITE w_MEMBERSHIP w_READ Z.heap F0 ) E_SHARED (lenOf pd_1 rfl) rfl rfl (by decide) (by decide) rfl rfl (by decide) (by decide) rfl at_20 rfl (fun T33 X33 e33 => ?_)
        show Go p e below _ (T33.setTop (mkF m 23 #[.val (.int i0), .val (.int i1), .val (.int i2), .val (.ref w_SHARED), .val (.ref w_READ), .val (.ref w_SHARED), .unset, .unset, .unset, .unset, .unset, .unset] [(.ref w_READ)]))
        refine s_astore B X33 (pc' := 25) (Ls' := #[.val (.int i0), .val (.int i1), .val (.int i2), .val (.ref w_SHARED), .val (.ref w_READ), .val (.ref w_SHARED), .val (.ref w_READ), .unset, .unset, .unset, .unset, .unset]) at_23 rfl rfl rfl ?_
        refine s_aload B X33 (pc' := 27) at_25 rfl rfl rfl ?_
        refine s_ifnonnullY B X33 (pc' := 32) at_27 (by decide) (by decide) ?_
        refine s_aloadN B X33 (pc' := 33) at_32 rfl rfl rfl ?_
        refine p_static B X33 (y := mn2) (pc' := 36) (argsL := [(.ref w_SHARED)]) (under := []) (W := 0) e33 (tw17 hw) (tw18 hw) (tw19 hw) (tw2 hw) (by decide) (rm3_1 l Z a0 hw  w_SHARED w_WRITE w_MEMBERSHIP w_READ Z.heap F0 ) (lenOf pd_2 rfl) rfl rfl (by decide) (by decide) rfl rfl (by decide) (by decide) rfl at_33 rfl (fun T34 X34 e34 => ?_)
        show Go p e below _ (T34.setTop (mkF m 36 #[.val (.int i0), .val (.int i1), .val (.int i2), .val (.ref w_SHARED), .val (.ref w_READ), .val (.ref w_SHARED), .val (.ref w_READ), .unset, .unset, .unset, .unset, .unset] [(.int (8 : Int32))]))
        refine s_aload B X34 (pc' := 38) at_36 rfl rfl rfl ?_
        refine p_static B X34 (y := mn2) (pc' := 41) (argsL := [(.ref w_READ)]) (under := [(.int (8 : Int32))]) (W := 1) e34 (tw17 hw) (tw18 hw) (tw19 hw) (tw2 hw) (by decide) (rm3_2 l Z a0 hw  w_SHARED w_WRITE w_MEMBERSHIP w_READ Z.heap F0 ) (lenOf pd_2 rfl) rfl rfl (by decide) (by decide) rfl rfl (by decide) (by decide) rfl at_38 rfl (fun T35 X35 e35 => ?_)
        show Go p e below _ (T35.setTop (mkF m 41 #[.val (.int i0), .val (.int i1), .val (.int i2), .val (.ref w_SHARED), .val (.ref w_READ), .val (.ref w_SHARED), .val (.ref w_READ), .unset, .unset, .unset, .unset, .unset] [(.int (12 : Int32)), (.int (8 : Int32))]))
        refine s_ior B X35 (pc' := 42) (v := (12 : Int32)) at_41 rfl rfl ?_
        refine s_istore B X35 (pc' := 44) (Ls' := #[.val (.int i0), .val (.int i1), .val (.int i2), .val (.ref w_SHARED), .val (.ref w_READ), .val (.ref w_SHARED), .val (.ref w_READ), .val (.int (12 : Int32)), .unset, .unset, .unset, .unset]) at_42 rfl rfl ?_
        refine s_aload B X35 (pc' := 46) at_44 rfl rfl rfl ?_
        refine p_static B X35 (y := mn2) (pc' := 49) (argsL := [(.ref w_READ)]) (under := []) (W := 0) e35 (tw17 hw) (tw18 hw) (tw19 hw) (tw2 hw) (by decide) (rm3_2 l Z a0 hw  w_SHARED w_WRITE w_MEMBERSHIP w_READ Z.heap F0 ) (lenOf pd_2 rfl) rfl rfl (by decide) (by decide) rfl rfl (by decide) (by decide) rfl at_46 rfl (fun T36 X36 e36 => ?_)
        show Go p e below _ (T36.setTop (mkF m 49 #[.val (.int i0), .val (.int i1), .val (.int i2), .val (.ref w_SHARED), .val (.ref w_READ), .val (.ref w_SHARED), .val (.ref w_READ), .val (.int (12 : Int32)), .unset, .unset, .unset, .unset] [(.int (12 : Int32))]))
        refine s_istore B X36 (pc' := 51) (Ls' := #[.val (.int i0), .val (.int i1), .val (.int i2), .val (.ref w_SHARED), .val (.ref w_READ), .val (.ref w_SHARED), .val (.ref w_READ), .val (.int (12 : Int32)), .val (.int (12 : Int32)), .unset, .unset, .unset]) at_49 rfl rfl ?_
        refine s_aload B X36 (pc' := 53) at_51 rfl rfl rfl ?_
        refine p_static B X36 (y := mn2) (pc' := 56) (argsL := [(.ref w_SHARED)]) (under := []) (W := 0) e36 (tw17 hw) (tw18 hw) (tw19 hw) (tw2 hw) (by decide) (rm3_1 l Z a0 hw  w_SHARED w_WRITE w_MEMBERSHIP w_READ Z.heap F0 ) (lenOf pd_2 rfl) rfl rfl (by decide) (by decide) rfl rfl (by decide) (by decide) rfl at_53 rfl (fun T37 X37 e37 => ?_)
        show Go p e below _ (T37.setTop (mkF m 56 #[.val (.int i0), .val (.int i1), .val (.int i2), .val (.ref w_SHARED), .val (.ref w_READ), .val (.ref w_SHARED), .val (.ref w_READ), .val (.int (12 : Int32)), .val (.int (12 : Int32)), .unset, .unset, .unset] [(.int (8 : Int32))]))
        refine s_istore B X37 (pc' := 58) (Ls' := #[.val (.int i0), .val (.int i1), .val (.int i2), .val (.ref w_SHARED), .val (.ref w_READ), .val (.ref w_SHARED), .val (.ref w_READ), .val (.int (12 : Int32)), .val (.int (12 : Int32)), .val (.int (8 : Int32)), .unset, .unset]) at_56 rfl rfl ?_
        refine s_iload B X37 (pc' := 60) at_58 rfl rfl ?_
        refine s_iload B X37 (pc' := 62) at_60 rfl rfl ?_
        refine s_iand B X37 (pc' := 63) (v := (12 : Int32)) at_62 rfl rfl ?_
        refine s_iload B X37 (pc' := 65) at_63 rfl rfl ?_
        refine s_icmpN B X37 (pc' := 68) at_65 (by decide) rfl ?_
        refine s_iconst B X37 (pc' := 69) (v := (1 : Int32)) at_68 rfl rfl ?_
        refine s_goto B X37 (pc' := 73) at_69 (by decide) (by decide) ?_
        refine s_istore B X37 (pc' := 75) (Ls' := #[.val (.int i0), .val (.int i1), .val (.int i2), .val (.ref w_SHARED), .val (.ref w_READ), .val (.ref w_SHARED), .val (.ref w_READ), .val (.int (12 : Int32)), .val (.int (12 : Int32)), .val (.int (8 : Int32)), .val (.int (1 : Int32)), .unset]) at_73 rfl rfl ?_
        refine s_iload B X37 (pc' := 77) at_75 rfl rfl ?_
        refine s_iload B X37 (pc' := 79) at_77 rfl rfl ?_
        refine s_iand B X37 (pc' := 80) (v := (8 : Int32)) at_79 rfl rfl ?_
        refine s_iload B X37 (pc' := 82) at_80 rfl rfl ?_
        refine s_icmpY B X37 (pc' := 95) at_82 (by decide) (by decide) (by decide) ?_
        refine s_iconst B X37 (pc' := 96) (v := (1 : Int32)) at_95 rfl rfl ?_
        refine s_goto B X37 (pc' := 100) at_96 (by decide) (by decide) ?_
        refine s_istore B X37 (pc' := 102) (Ls' := #[.val (.int i0), .val (.int i1), .val (.int i2), .val (.ref w_SHARED), .val (.ref w_READ), .val (.ref w_SHARED), .val (.ref w_READ), .val (.int (12 : Int32)), .val (.int (12 : Int32)), .val (.int (8 : Int32)), .val (.int (1 : Int32)), .val (.int (1 : Int32))]) at_100 rfl rfl ?_
        refine s_iload B X37 (pc' := 104) at_102 rfl rfl ?_
        refine s_ifN B X37 (pc' := 107) at_104 (by decide) rfl ?_
        refine s_iload B X37 (pc' := 109) at_107 rfl rfl ?_
        refine s_ifN B X37 (pc' := 112) at_109 (by decide) rfl ?_
        refine s_iconst B X37 (pc' := 113) (v := (1 : Int32)) at_112 rfl rfl ?_
        refine s_goto B X37 (pc' := 117) at_113 (by decide) (by decide) ?_
        exact r_nar B X37 (t := .boolean) (by simp) rfl at_117 ⟨rfl, (Fr.nil _)⟩ (by decide) (by decide)
      · refine p_static B X30 (y := mn0) (pc' := 15) (argsL := [(.int i2)]) (under := []) (W := 0) e30 (tw0 hw) (tw1 hw) (tw3 hw) (tw2 hw) (by decide) (rm_mode1 l Z a0 hw i2 hm31 w_SHARED w_WRITE w_MEMBERSHIP w_READ Z.heap F0) (lenOf pd_0 rfl) rfl rfl (by decide) (by decide) rfl rfl (by decide) (by decide) rfl at_12 rfl (fun T38 X38 e38 => ?_)
        show Go p e below _ (T38.setTop (mkF m 15 #[.val (.int i0), .val (.int i1), .val (.int i2), .val (.ref w_SHARED), .val (.ref w_READ), .unset, .unset, .unset, .unset, .unset, .unset, .unset] [(.ref w_READ)]))
        refine s_astore B X38 (pc' := 17) (Ls' := #[.val (.int i0), .val (.int i1), .val (.int i2), .val (.ref w_SHARED), .val (.ref w_READ), .val (.ref w_READ), .unset, .unset, .unset, .unset, .unset, .unset]) at_15 rfl rfl rfl ?_
        refine s_aloadN B X38 (pc' := 18) at_17 rfl rfl rfl ?_
        refine s_aload B X38 (pc' := 20) at_18 rfl rfl rfl ?_
        refine p_virtual B X38 (y := mn1) (pc' := 23) (argsL := [(.ref w_READ)]) (under := []) (W := 0) e38 (tw11 hw) (tw12 hw) (tw14 hw) (tw13 hw) (tw15 hw) (tw5 hw) (by decide) (rm2_5 l Z a0 hw  w_SHARED w_WRITE w_MEMBERSHIP w_READ Z.heap F0 ) E_SHARED (lenOf pd_1 rfl) rfl rfl (by decide) (by decide) rfl rfl (by decide) (by decide) rfl at_20 rfl (fun T39 X39 e39 => ?_)
        show Go p e below _ (T39.setTop (mkF m 23 #[.val (.int i0), .val (.int i1), .val (.int i2), .val (.ref w_SHARED), .val (.ref w_READ), .val (.ref w_READ), .unset, .unset, .unset, .unset, .unset, .unset] [(.ref w_READ)]))
        refine s_astore B X39 (pc' := 25) (Ls' := #[.val (.int i0), .val (.int i1), .val (.int i2), .val (.ref w_SHARED), .val (.ref w_READ), .val (.ref w_READ), .val (.ref w_READ), .unset, .unset, .unset, .unset, .unset]) at_23 rfl rfl rfl ?_
        refine s_aload B X39 (pc' := 27) at_25 rfl rfl rfl ?_
        refine s_ifnonnullY B X39 (pc' := 32) at_27 (by decide) (by decide) ?_
        refine s_aloadN B X39 (pc' := 33) at_32 rfl rfl rfl ?_
        refine p_static B X39 (y := mn2) (pc' := 36) (argsL := [(.ref w_SHARED)]) (under := []) (W := 0) e39 (tw17 hw) (tw18 hw) (tw19 hw) (tw2 hw) (by decide) (rm3_1 l Z a0 hw  w_SHARED w_WRITE w_MEMBERSHIP w_READ Z.heap F0 ) (lenOf pd_2 rfl) rfl rfl (by decide) (by decide) rfl rfl (by decide) (by decide) rfl at_33 rfl (fun T40 X40 e40 => ?_)
        show Go p e below _ (T40.setTop (mkF m 36 #[.val (.int i0), .val (.int i1), .val (.int i2), .val (.ref w_SHARED), .val (.ref w_READ), .val (.ref w_READ), .val (.ref w_READ), .unset, .unset, .unset, .unset, .unset] [(.int (8 : Int32))]))
        refine s_aload B X40 (pc' := 38) at_36 rfl rfl rfl ?_
        refine p_static B X40 (y := mn2) (pc' := 41) (argsL := [(.ref w_READ)]) (under := [(.int (8 : Int32))]) (W := 1) e40 (tw17 hw) (tw18 hw) (tw19 hw) (tw2 hw) (by decide) (rm3_2 l Z a0 hw  w_SHARED w_WRITE w_MEMBERSHIP w_READ Z.heap F0 ) (lenOf pd_2 rfl) rfl rfl (by decide) (by decide) rfl rfl (by decide) (by decide) rfl at_38 rfl (fun T41 X41 e41 => ?_)
        show Go p e below _ (T41.setTop (mkF m 41 #[.val (.int i0), .val (.int i1), .val (.int i2), .val (.ref w_SHARED), .val (.ref w_READ), .val (.ref w_READ), .val (.ref w_READ), .unset, .unset, .unset, .unset, .unset] [(.int (12 : Int32)), (.int (8 : Int32))]))
        refine s_ior B X41 (pc' := 42) (v := (12 : Int32)) at_41 rfl rfl ?_
        refine s_istore B X41 (pc' := 44) (Ls' := #[.val (.int i0), .val (.int i1), .val (.int i2), .val (.ref w_SHARED), .val (.ref w_READ), .val (.ref w_READ), .val (.ref w_READ), .val (.int (12 : Int32)), .unset, .unset, .unset, .unset]) at_42 rfl rfl ?_
        refine s_aload B X41 (pc' := 46) at_44 rfl rfl rfl ?_
        refine p_static B X41 (y := mn2) (pc' := 49) (argsL := [(.ref w_READ)]) (under := []) (W := 0) e41 (tw17 hw) (tw18 hw) (tw19 hw) (tw2 hw) (by decide) (rm3_2 l Z a0 hw  w_SHARED w_WRITE w_MEMBERSHIP w_READ Z.heap F0 ) (lenOf pd_2 rfl) rfl rfl (by decide) (by decide) rfl rfl (by decide) (by decide) rfl at_46 rfl (fun T42 X42 e42 => ?_)
        show Go p e below _ (T42.setTop (mkF m 49 #[.val (.int i0), .val (.int i1), .val (.int i2), .val (.ref w_SHARED), .val (.ref w_READ), .val (.ref w_READ), .val (.ref w_READ), .val (.int (12 : Int32)), .unset, .unset, .unset, .unset] [(.int (12 : Int32))]))
        refine s_istore B X42 (pc' := 51) (Ls' := #[.val (.int i0), .val (.int i1), .val (.int i2), .val (.ref w_SHARED), .val (.ref w_READ), .val (.ref w_READ), .val (.ref w_READ), .val (.int (12 : Int32)), .val (.int (12 : Int32)), .unset, .unset, .unset]) at_49 rfl rfl ?_
        refine s_aload B X42 (pc' := 53) at_51 rfl rfl rfl ?_
        refine p_static B X42 (y := mn2) (pc' := 56) (argsL := [(.ref w_READ)]) (under := []) (W := 0) e42 (tw17 hw) (tw18 hw) (tw19 hw) (tw2 hw) (by decide) (rm3_2 l Z a0 hw  w_SHARED w_WRITE w_MEMBERSHIP w_READ Z.heap F0 ) (lenOf pd_2 rfl) rfl rfl (by decide) (by decide) rfl rfl (by decide) (by decide) rfl at_53 rfl (fun T43 X43 e43 => ?_)
        show Go p e below _ (T43.setTop (mkF m 56 #[.val (.int i0), .val (.int i1), .val (.int i2), .val (.ref w_SHARED), .val (.ref w_READ), .val (.ref w_READ), .val (.ref w_READ), .val (.int (12 : Int32)), .val (.int (12 : Int32)), .unset, .unset, .unset] [(.int (12 : Int32))]))
        refine s_istore B X43 (pc' := 58) (Ls' := #[.val (.int i0), .val (.int i1), .val (.int i2), .val (.ref w_SHARED), .val (.ref w_READ), .val (.ref w_READ), .val (.ref w_READ), .val (.int (12 : Int32)), .val (.int (12 : Int32)), .val (.int (12 : Int32)), .unset, .unset]) at_56 rfl rfl ?_
        refine s_iload B X43 (pc' := 60) at_58 rfl rfl ?_
        refine s_iload B X43 (pc' := 62) at_60 rfl rfl ?_
        refine s_iand B X43 (pc' := 63) (v := (12 : Int32)) at_62 rfl rfl ?_
        refine s_iload B X43 (pc' := 65) at_63 rfl rfl ?_
        refine s_icmpN B X43 (pc' := 68) at_65 (by decide) rfl ?_
        refine s_iconst B X43 (pc' := 69) (v := (1 : Int32)) at_68 rfl rfl ?_
        refine s_goto B X43 (pc' := 73) at_69 (by decide) (by decide) ?_
        refine s_istore B X43 (pc' := 75) (Ls' := #[.val (.int i0), .val (.int i1), .val (.int i2), .val (.ref w_SHARED), .val (.ref w_READ), .val (.ref w_READ), .val (.ref w_READ), .val (.int (12 : Int32)), .val (.int (12 : Int32)), .val (.int (12 : Int32)), .val (.int (1 : Int32)), .unset]) at_73 rfl rfl ?_
        refine s_iload B X43 (pc' := 77) at_75 rfl rfl ?_
        refine s_iload B X43 (pc' := 79) at_77 rfl rfl ?_
        refine s_iand B X43 (pc' := 80) (v := (12 : Int32)) at_79 rfl rfl ?_
        refine s_iload B X43 (pc' := 82) at_80 rfl rfl ?_
        refine s_icmpN B X43 (pc' := 85) at_82 (by decide) rfl ?_
        refine s_iload B X43 (pc' := 87) at_85 rfl rfl ?_
        refine s_iload B X43 (pc' := 89) at_87 rfl rfl ?_
        refine s_iand B X43 (pc' := 90) (v := (12 : Int32)) at_89 rfl rfl ?_
        refine s_iload B X43 (pc' := 92) at_90 rfl rfl ?_
        refine s_icmpN B X43 (pc' := 95) at_92 (by decide) rfl ?_
        refine s_iconst B X43 (pc' := 96) (v := (1 : Int32)) at_95 rfl rfl ?_
        refine s_goto B X43 (pc' := 100) at_96 (by decide) (by decide) ?_
        refine s_istore B X43 (pc' := 102) (Ls' := #[.val (.int i0), .val (.int i1), .val (.int i2), .val (.ref w_SHARED), .val (.ref w_READ), .val (.ref w_READ), .val (.ref w_READ), .val (.int (12 : Int32)), .val (.int (12 : Int32)), .val (.int (12 : Int32)), .val (.int (1 : Int32)), .val (.int (1 : Int32))]) at_100 rfl rfl ?_
        refine s_iload B X43 (pc' := 104) at_102 rfl rfl ?_
        refine s_ifN B X43 (pc' := 107) at_104 (by decide) rfl ?_
        refine s_iload B X43 (pc' := 109) at_107 rfl rfl ?_
        refine s_ifN B X43 (pc' := 112) at_109 (by decide) rfl ?_
        refine s_iconst B X43 (pc' := 113) (v := (1 : Int32)) at_112 rfl rfl ?_
        refine s_goto B X43 (pc' := 117) at_113 (by decide) (by decide) ?_
        exact r_nar B X43 (t := .boolean) (by simp) rfl at_117 ⟨rfl, (Fr.nil _)⟩ (by decide) (by decide)
      · refine p_static B X30 (y := mn0) (pc' := 15) (argsL := [(.int i2)]) (under := []) (W := 0) e30 (tw0 hw) (tw1 hw) (tw3 hw) (tw2 hw) (by decide) (rm_mode2 l Z a0 hw i2 hm31 w_SHARED w_WRITE w_MEMBERSHIP w_READ Z.heap F0) (lenOf pd_0 rfl) rfl rfl (by decide) (by decide) rfl rfl (by decide) (by decide) rfl at_12 rfl (fun T44 X44 e44 => ?_)
        show Go p e below _ (T44.setTop (mkF m 15 #[.val (.int i0), .val (.int i1), .val (.int i2), .val (.ref w_SHARED), .val (.ref w_READ), .unset, .unset, .unset, .unset, .unset, .unset, .unset] [(.ref w_MEMBERSHIP)]))
        refine s_astore B X44 (pc' := 17) (Ls' := #[.val (.int i0), .val (.int i1), .val (.int i2), .val (.ref w_SHARED), .val (.ref w_READ), .val (.ref w_MEMBERSHIP), .unset, .unset, .unset, .unset, .unset, .unset]) at_15 rfl rfl rfl ?_
        refine s_aloadN B X44 (pc' := 18) at_17 rfl rfl rfl ?_
        refine s_aload B X44 (pc' := 20) at_18 rfl rfl rfl ?_
        refine p_virtual B X44 (y := mn1) (pc' := 23) (argsL := [(.ref w_READ)]) (under := []) (W := 0) e44 (tw11 hw) (tw12 hw) (tw14 hw) (tw13 hw) (tw15 hw) (tw5 hw) (by decide) (rm2_5 l Z a0 hw  w_SHARED w_WRITE w_MEMBERSHIP w_READ Z.heap F0 ) E_SHARED (lenOf pd_1 rfl) rfl rfl (by decide) (by decide) rfl rfl (by decide) (by decide) rfl at_20 rfl (fun T45 X45 e45 => ?_)
        show Go p e below _ (T45.setTop (mkF m 23 #[.val (.int i0), .val (.int i1), .val (.int i2), .val (.ref w_SHARED), .val (.ref w_READ), .val (.ref w_MEMBERSHIP), .unset, .unset, .unset, .unset, .unset, .unset] [(.ref w_READ)]))
        refine s_astore B X45 (pc' := 25) (Ls' := #[.val (.int i0), .val (.int i1), .val (.int i2), .val (.ref w_SHARED), .val (.ref w_READ), .val (.ref w_MEMBERSHIP), .val (.ref w_READ), .unset, .unset, .unset, .unset, .unset]) at_23 rfl rfl rfl ?_
        refine s_aload B X45 (pc' := 27) at_25 rfl rfl rfl ?_
        refine s_ifnonnullY B X45 (pc' := 32) at_27 (by decide) (by decide) ?_
        refine s_aloadN B X45 (pc' := 33) at_32 rfl rfl rfl ?_
        refine p_static B X45 (y := mn2) (pc' := 36) (argsL := [(.ref w_SHARED)]) (under := []) (W := 0) e45 (tw17 hw) (tw18 hw) (tw19 hw) (tw2 hw) (by decide) (rm3_1 l Z a0 hw  w_SHARED w_WRITE w_MEMBERSHIP w_READ Z.heap F0 ) (lenOf pd_2 rfl) rfl rfl (by decide) (by decide) rfl rfl (by decide) (by decide) rfl at_33 rfl (fun T46 X46 e46 => ?_)
        show Go p e below _ (T46.setTop (mkF m 36 #[.val (.int i0), .val (.int i1), .val (.int i2), .val (.ref w_SHARED), .val (.ref w_READ), .val (.ref w_MEMBERSHIP), .val (.ref w_READ), .unset, .unset, .unset, .unset, .unset] [(.int (8 : Int32))]))
        refine s_aload B X46 (pc' := 38) at_36 rfl rfl rfl ?_
        refine p_static B X46 (y := mn2) (pc' := 41) (argsL := [(.ref w_READ)]) (under := [(.int (8 : Int32))]) (W := 1) e46 (tw17 hw) (tw18 hw) (tw19 hw) (tw2 hw) (by decide) (rm3_2 l Z a0 hw  w_SHARED w_WRITE w_MEMBERSHIP w_READ Z.heap F0 ) (lenOf pd_2 rfl) rfl rfl (by decide) (by decide) rfl rfl (by decide) (by decide) rfl at_38 rfl (fun T47 X47 e47 => ?_)
        show Go p e below _ (T47.setTop (mkF m 41 #[.val (.int i0), .val (.int i1), .val (.int i2), .val (.ref w_SHARED), .val (.ref w_READ), .val (.ref w_MEMBERSHIP), .val (.ref w_READ), .unset, .unset, .unset, .unset, .unset] [(.int (12 : Int32)), (.int (8 : Int32))]))
        refine s_ior B X47 (pc' := 42) (v := (12 : Int32)) at_41 rfl rfl ?_
        refine s_istore B X47 (pc' := 44) (Ls' := #[.val (.int i0), .val (.int i1), .val (.int i2), .val (.ref w_SHARED), .val (.ref w_READ), .val (.ref w_MEMBERSHIP), .val (.ref w_READ), .val (.int (12 : Int32)), .unset, .unset, .unset, .unset]) at_42 rfl rfl ?_
        refine s_aload B X47 (pc' := 46) at_44 rfl rfl rfl ?_
        refine p_static B X47 (y := mn2) (pc' := 49) (argsL := [(.ref w_READ)]) (under := []) (W := 0) e47 (tw17 hw) (tw18 hw) (tw19 hw) (tw2 hw) (by decide) (rm3_2 l Z a0 hw  w_SHARED w_WRITE w_MEMBERSHIP w_READ Z.heap F0 ) (lenOf pd_2 rfl) rfl rfl (by decide) (by decide) rfl rfl (by decide) (by decide) rfl at_46 rfl (fun T48 X48 e48 => ?_)
        show Go p e below _ (T48.setTop (mkF m 49 #[.val (.int i0), .val (.int i1), .val (.int i2), .val (.ref w_SHARED), .val (.ref w_READ), .val (.ref w_MEMBERSHIP), .val (.ref w_READ), .val (.int (12 : Int32)), .unset, .unset, .unset, .unset] [(.int (12 : Int32))]))
        refine s_istore B X48 (pc' := 51) (Ls' := #[.val (.int i0), .val (.int i1), .val (.int i2), .val (.ref w_SHARED), .val (.ref w_READ), .val (.ref w_MEMBERSHIP), .val (.ref w_READ), .val (.int (12 : Int32)), .val (.int (12 : Int32)), .unset, .unset, .unset]) at_49 rfl rfl ?_
        refine s_aload B X48 (pc' := 53) at_51 rfl rfl rfl ?_
        refine p_static B X48 (y := mn2) (pc' := 56) (argsL := [(.ref w_MEMBERSHIP)]) (under := []) (W := 0) e48 (tw17 hw) (tw18 hw) (tw19 hw) (tw2 hw) (by decide) (rm3_3 l Z a0 hw  w_SHARED w_WRITE w_MEMBERSHIP w_READ Z.heap F0 ) (lenOf pd_2 rfl) rfl rfl (by decide) (by decide) rfl rfl (by decide) (by decide) rfl at_53 rfl (fun T49 X49 e49 => ?_)
        show Go p e below _ (T49.setTop (mkF m 56 #[.val (.int i0), .val (.int i1), .val (.int i2), .val (.ref w_SHARED), .val (.ref w_READ), .val (.ref w_MEMBERSHIP), .val (.ref w_READ), .val (.int (12 : Int32)), .val (.int (12 : Int32)), .unset, .unset, .unset] [(.int (10 : Int32))]))
        refine s_istore B X49 (pc' := 58) (Ls' := #[.val (.int i0), .val (.int i1), .val (.int i2), .val (.ref w_SHARED), .val (.ref w_READ), .val (.ref w_MEMBERSHIP), .val (.ref w_READ), .val (.int (12 : Int32)), .val (.int (12 : Int32)), .val (.int (10 : Int32)), .unset, .unset]) at_56 rfl rfl ?_
        refine s_iload B X49 (pc' := 60) at_58 rfl rfl ?_
        refine s_iload B X49 (pc' := 62) at_60 rfl rfl ?_
        refine s_iand B X49 (pc' := 63) (v := (12 : Int32)) at_62 rfl rfl ?_
        refine s_iload B X49 (pc' := 65) at_63 rfl rfl ?_
        refine s_icmpN B X49 (pc' := 68) at_65 (by decide) rfl ?_
        refine s_iconst B X49 (pc' := 69) (v := (1 : Int32)) at_68 rfl rfl ?_
        refine s_goto B X49 (pc' := 73) at_69 (by decide) (by decide) ?_
        refine s_istore B X49 (pc' := 75) (Ls' := #[.val (.int i0), .val (.int i1), .val (.int i2), .val (.ref w_SHARED), .val (.ref w_READ), .val (.ref w_MEMBERSHIP), .val (.ref w_READ), .val (.int (12 : Int32)), .val (.int (12 : Int32)), .val (.int (10 : Int32)), .val (.int (1 : Int32)), .unset]) at_73 rfl rfl ?_
        refine s_iload B X49 (pc' := 77) at_75 rfl rfl ?_
        refine s_iload B X49 (pc' := 79) at_77 rfl rfl ?_
        refine s_iand B X49 (pc' := 80) (v := (8 : Int32)) at_79 rfl rfl ?_
        refine s_iload B X49 (pc' := 82) at_80 rfl rfl ?_
        refine s_icmpY B X49 (pc' := 95) at_82 (by decide) (by decide) (by decide) ?_
        refine s_iconst B X49 (pc' := 96) (v := (1 : Int32)) at_95 rfl rfl ?_
        refine s_goto B X49 (pc' := 100) at_96 (by decide) (by decide) ?_
        refine s_istore B X49 (pc' := 102) (Ls' := #[.val (.int i0), .val (.int i1), .val (.int i2), .val (.ref w_SHARED), .val (.ref w_READ), .val (.ref w_MEMBERSHIP), .val (.ref w_READ), .val (.int (12 : Int32)), .val (.int (12 : Int32)), .val (.int (10 : Int32)), .val (.int (1 : Int32)), .val (.int (1 : Int32))]) at_100 rfl rfl ?_
        refine s_iload B X49 (pc' := 104) at_102 rfl rfl ?_
        refine s_ifN B X49 (pc' := 107) at_104 (by decide) rfl ?_
        refine s_iload B X49 (pc' := 109) at_107 rfl rfl ?_
        refine s_ifN B X49 (pc' := 112) at_109 (by decide) rfl ?_
        refine s_iconst B X49 (pc' := 113) (v := (1 : Int32)) at_112 rfl rfl ?_
        refine s_goto B X49 (pc' := 117) at_113 (by decide) (by decide) ?_
        exact r_nar B X49 (t := .boolean) (by simp) rfl at_117 ⟨rfl, (Fr.nil _)⟩ (by decide) (by decide)
      · refine p_static B X30 (y := mn0) (pc' := 15) (argsL := [(.int i2)]) (under := []) (W := 0) e30 (tw0 hw) (tw1 hw) (tw3 hw) (tw2 hw) (by decide) (rm_mode3 l Z a0 hw i2 hm31 w_SHARED w_WRITE w_MEMBERSHIP w_READ Z.heap F0) (lenOf pd_0 rfl) rfl rfl (by decide) (by decide) rfl rfl (by decide) (by decide) rfl at_12 rfl (fun T50 X50 e50 => ?_)
        show Go p e below _ (T50.setTop (mkF m 15 #[.val (.int i0), .val (.int i1), .val (.int i2), .val (.ref w_SHARED), .val (.ref w_READ), .unset, .unset, .unset, .unset, .unset, .unset, .unset] [(.ref w_WRITE)]))
        refine s_astore B X50 (pc' := 17) (Ls' := #[.val (.int i0), .val (.int i1), .val (.int i2), .val (.ref w_SHARED), .val (.ref w_READ), .val (.ref w_WRITE), .unset, .unset, .unset, .unset, .unset, .unset]) at_15 rfl rfl rfl ?_
        refine s_aloadN B X50 (pc' := 18) at_17 rfl rfl rfl ?_
        refine s_aload B X50 (pc' := 20) at_18 rfl rfl rfl ?_
        refine p_virtual B X50 (y := mn1) (pc' := 23) (argsL := [(.ref w_READ)]) (under := []) (W := 0) e50 (tw11 hw) (tw12 hw) (tw14 hw) (tw13 hw) (tw15 hw) (tw5 hw) (by decide) (rm2_5 l Z a0 hw  w_SHARED w_WRITE w_MEMBERSHIP w_READ Z.heap F0 ) E_SHARED (lenOf pd_1 rfl) rfl rfl (by decide) (by decide) rfl rfl (by decide) (by decide) rfl at_20 rfl (fun T51 X51 e51 => ?_)
        show Go p e below _ (T51.setTop (mkF m 23 #[.val (.int i0), .val (.int i1), .val (.int i2), .val (.ref w_SHARED), .val (.ref w_READ), .val (.ref w_WRITE), .unset, .unset, .unset, .unset, .unset, .unset] [(.ref w_READ)]))
        refine s_astore B X51 (pc' := 25) (Ls' := #[.val (.int i0), .val (.int i1), .val (.int i2), .val (.ref w_SHARED), .val (.ref w_READ), .val (.ref w_WRITE), .val (.ref w_READ), .unset, .unset, .unset, .unset, .unset]) at_23 rfl rfl rfl ?_
        refine s_aload B X51 (pc' := 27) at_25 rfl rfl rfl ?_
        refine s_ifnonnullY B X51 (pc' := 32) at_27 (by decide) (by decide) ?_
        refine s_aloadN B X51 (pc' := 33) at_32 rfl rfl rfl ?_
        refine p_static B X51 (y := mn2) (pc' := 36) (argsL := [(.ref w_SHARED)]) (under := []) (W := 0) e51 (tw17 hw) (tw18 hw) (tw19 hw) (tw2 hw) (by decide) (rm3_1 l Z a0 hw  w_SHARED w_WRITE w_MEMBERSHIP w_READ Z.heap F0 ) (lenOf pd_2 rfl) rfl rfl (by decide) (by decide) rfl rfl (by decide) (by decide) rfl at_33 rfl (fun T52 X52 e52 => ?_)
        show Go p e below _ (T52.setTop (mkF m 36 #[.val (.int i0), .val (.int i1), .val (.int i2), .val (.ref w_SHARED), .val (.ref w_READ), .val (.ref w_WRITE), .val (.ref w_READ), .unset, .unset, .unset, .unset, .unset] [(.int (8 : Int32))]))
        refine s_aload B X52 (pc' := 38) at_36 rfl rfl rfl ?_
        refine p_static B X52 (y := mn2) (pc' := 41) (argsL := [(.ref w_READ)]) (under := [(.int (8 : Int32))]) (W := 1) e52 (tw17 hw) (tw18 hw) (tw19 hw) (tw2 hw) (by decide) (rm3_2 l Z a0 hw  w_SHARED w_WRITE w_MEMBERSHIP w_READ Z.heap F0 ) (lenOf pd_2 rfl) rfl rfl (by decide) (by decide) rfl rfl (by decide) (by decide) rfl at_38 rfl (fun T53 X53 e53 => ?_)
        show Go p e below _ (T53.setTop (mkF m 41 #[.val (.int i0), .val (.int i1), .val (.int i2), .val (.ref w_SHARED), .val (.ref w_READ), .val (.ref w_WRITE), .val (.ref w_READ), .unset, .unset, .unset, .unset, .unset] [(.int (12 : Int32)), (.int (8 : Int32))]))
        refine s_ior B X53 (pc' := 42) (v := (12 : Int32)) at_41 rfl rfl ?_
        refine s_istore B X53 (pc' := 44) (Ls' := #[.val (.int i0), .val (.int i1), .val (.int i2), .val (.ref w_SHARED), .val (.ref w_READ), .val (.ref w_WRITE), .val (.ref w_READ), .val (.int (12 : Int32)), .unset, .unset, .unset, .unset]) at_42 rfl rfl ?_
        refine s_aload B X53 (pc' := 46) at_44 rfl rfl rfl ?_
        refine p_static B X53 (y := mn2) (pc' := 49) (argsL := [(.ref w_READ)]) (under := []) (W := 0) e53 (tw17 hw) (tw18 hw) (tw19 hw) (tw2 hw) (by decide) (rm3_2 l Z a0 hw  w_SHARED w_WRITE w_MEMBERSHIP w_READ Z.heap F0 ) (lenOf pd_2 rfl) rfl rfl (by decide) (by decide) rfl rfl (by decide) (by decide) rfl at_46 rfl (fun T54 X54 e54 => ?_)
        show Go p e below _ (T54.setTop (mkF m 49 #[.val (.int i0), .val (.int i1), .val (.int i2), .val (.ref w_SHARED), .val (.ref w_READ), .val (.ref w_WRITE), .val (.ref w_READ), .val (.int (12 : Int32)), .unset, .unset, .unset, .unset] [(.int (12 : Int32))]))
        refine s_istore B X54 (pc' := 51) (Ls' := #[.val (.int i0), .val (.int i1), .val (.int i2), .val (.ref w_SHARED), .val (.ref w_READ), .val (.ref w_WRITE), .val (.ref w_READ), .val (.int (12 : Int32)), .val (.int (12 : Int32)), .unset, .unset, .unset]) at_49 rfl rfl ?_
        refine s_aload B X54 (pc' := 53) at_51 rfl rfl rfl ?_
        refine p_static B X54 (y := mn2) (pc' := 56) (argsL := [(.ref w_WRITE)]) (under := []) (W := 0) e54 (tw17 hw) (tw18 hw) (tw19 hw) (tw2 hw) (by decide) (rm3_4 l Z a0 hw  w_SHARED w_WRITE w_MEMBERSHIP w_READ Z.heap F0 ) (lenOf pd_2 rfl) rfl rfl (by decide) (by decide) rfl rfl (by decide) (by decide) rfl at_53 rfl (fun T55 X55 e55 => ?_)
        show Go p e below _ (T55.setTop (mkF m 56 #[.val (.int i0), .val (.int i1), .val (.int i2), .val (.ref w_SHARED), .val (.ref w_READ), .val (.ref w_WRITE), .val (.ref w_READ), .val (.int (12 : Int32)), .val (.int (12 : Int32)), .unset, .unset, .unset] [(.int (15 : Int32))]))
        refine s_istore B X55 (pc' := 58) (Ls' := #[.val (.int i0), .val (.int i1), .val (.int i2), .val (.ref w_SHARED), .val (.ref w_READ), .val (.ref w_WRITE), .val (.ref w_READ), .val (.int (12 : Int32)), .val (.int (12 : Int32)), .val (.int (15 : Int32)), .unset, .unset]) at_56 rfl rfl ?_
        refine s_iload B X55 (pc' := 60) at_58 rfl rfl ?_
        refine s_iload B X55 (pc' := 62) at_60 rfl rfl ?_
        refine s_iand B X55 (pc' := 63) (v := (12 : Int32)) at_62 rfl rfl ?_
        refine s_iload B X55 (pc' := 65) at_63 rfl rfl ?_
        refine s_icmpN B X55 (pc' := 68) at_65 (by decide) rfl ?_
        refine s_iconst B X55 (pc' := 69) (v := (1 : Int32)) at_68 rfl rfl ?_
        refine s_goto B X55 (pc' := 73) at_69 (by decide) (by decide) ?_
        refine s_istore B X55 (pc' := 75) (Ls' := #[.val (.int i0), .val (.int i1), .val (.int i2), .val (.ref w_SHARED), .val (.ref w_READ), .val (.ref w_WRITE), .val (.ref w_READ), .val (.int (12 : Int32)), .val (.int (12 : Int32)), .val (.int (15 : Int32)), .val (.int (1 : Int32)), .unset]) at_73 rfl rfl ?_
        refine s_iload B X55 (pc' := 77) at_75 rfl rfl ?_
        refine s_iload B X55 (pc' := 79) at_77 rfl rfl ?_
        refine s_iand B X55 (pc' := 80) (v := (12 : Int32)) at_79 rfl rfl ?_
        refine s_iload B X55 (pc' := 82) at_80 rfl rfl ?_
        refine s_icmpN B X55 (pc' := 85) at_82 (by decide) rfl ?_
        refine s_iload B X55 (pc' := 87) at_85 rfl rfl ?_
        refine s_iload B X55 (pc' := 89) at_87 rfl rfl ?_
        refine s_iand B X55 (pc' := 90) (v := (12 : Int32)) at_89 rfl rfl ?_
        refine s_iload B X55 (pc' := 92) at_90 rfl rfl ?_
        refine s_icmpN B X55 (pc' := 95) at_92 (by decide) rfl ?_
        refine s_iconst B X55 (pc' := 96) (v := (1 : Int32)) at_95 rfl rfl ?_
        refine s_goto B X55 (pc' := 100) at_96 (by decide) (by decide) ?_
        refine s_istore B X55 (pc' := 102) (Ls' := #[.val (.int i0), .val (.int i1), .val (.int i2), .val (.ref w_SHARED), .val (.ref w_READ), .val (.ref w_WRITE), .val (.ref w_READ), .val (.int (12 : Int32)), .val (.int (12 : Int32)), .val (.int (15 : Int32)), .val (.int (1 : Int32)), .val (.int (1 : Int32))]) at_100 rfl rfl ?_
        refine s_iload B X55 (pc' := 104) at_102 rfl rfl ?_
        refine s_ifN B X55 (pc' := 107) at_104 (by decide) rfl ?_
        refine s_iload B X55 (pc' := 109) at_107 rfl rfl ?_
        refine s_ifN B X55 (pc' := 112) at_109 (by decide) rfl ?_
        refine s_iconst B X55 (pc' := 113) (v := (1 : Int32)) at_112 rfl rfl ?_
        refine s_goto B X55 (pc' := 117) at_113 (by decide) (by decide) ?_
        exact r_nar B X55 (t := .boolean) (by simp) rfl at_117 ⟨rfl, (Fr.nil _)⟩ (by decide) (by decide)
    · refine p_static B X2 (y := mn0) (pc' := 9) (argsL := [(.int i1)]) (under := []) (W := 0) e2 (tw0 hw) (tw1 hw) (tw3 hw) (tw2 hw) (by decide) (rm_mode2 l Z a0 hw i1 hm3 w_SHARED w_WRITE w_MEMBERSHIP w_READ Z.heap F0) (lenOf pd_0 rfl) rfl rfl (by decide) (by decide) rfl rfl (by decide) (by decide) rfl at_6 rfl (fun T56 X56 e56 => ?_)
      show Go p e below _ (T56.setTop (mkF m 9 #[.val (.int i0), .val (.int i1), .val (.int i2), .val (.ref w_SHARED), .unset, .unset, .unset, .unset, .unset, .unset, .unset, .unset] [(.ref w_MEMBERSHIP)]))
      refine s_astore B X56 (pc' := 11) (Ls' := #[.val (.int i0), .val (.int i1), .val (.int i2), .val (.ref w_SHARED), .val (.ref w_MEMBERSHIP), .unset, .unset, .unset, .unset, .unset, .unset, .unset]) at_9 rfl rfl rfl ?_
      refine s_iloadN B X56 (pc' := 12) at_11 rfl rfl ?_
      rcases own_and3 i2 with hm57 | hm57 | hm57 | hm57
      · refine p_static B X56 (y := mn0) (pc' := 15) (argsL := [(.int i2)]) (under := []) (W := 0) e56 (tw0 hw) (tw1 hw) (tw3 hw) (tw2 hw) (by decide) (rm_mode0 l Z a0 hw i2 hm57 w_SHARED w_WRITE w_MEMBERSHIP w_READ Z.heap F0) (lenOf pd_0 rfl) rfl rfl (by decide) (by decide) rfl rfl (by decide) (by decide) rfl at_12 rfl (fun T58 X58 e58 => ?_)
        show Go p e below _ (T58.setTop (mkF m 15 #[.val (.int i0), .val (.int i1), .val (.int i2), .val (.ref w_SHARED), .val (.ref w_MEMBERSHIP), .unset, .unset, .unset, .unset, .unset, .unset, .unset] [(.ref w_SHARED)]))
        refine s_astore B X58 (pc' := 17) (Ls' := #[.val (.int i0), .val (.int i1), .val (.int i2), .val (.ref w_SHARED), .val (.ref w_MEMBERSHIP), .val (.ref w_SHARED), .unset, .unset, .unset, .unset, .unset, .unset]) at_15 rfl rfl rfl ?_
        refine s_aloadN B X58 (pc' := 18) at_17 rfl rfl rfl ?_
        refine s_aload B X58 (pc' := 20) at_18 rfl rfl rfl ?_
        refine p_virtual B X58 (y := mn1) (pc' := 23) (argsL := [(.ref w_MEMBERSHIP)]) (under := []) (W := 0) e58 (tw11 hw) (tw12 hw) (tw14 hw) (tw13 hw) (tw15 hw) (tw5 hw) (by decide) (rm2_6 l Z a0 hw  w_SHARED w_WRITE w_MEMBERSHIP w_READ Z.heap F0 ) E_SHARED (lenOf pd_1 rfl) rfl rfl (by decide) (by decide) rfl rfl (by decide) (by decide) rfl at_20 rfl (fun T59 X59 e59 => ?_)
        show Go p e below _ (T59.setTop (mkF m 23 #[.val (.int i0), .val (.int i1), .val (.int i2), .val (.ref w_SHARED), .val (.ref w_MEMBERSHIP), .val (.ref w_SHARED), .unset, .unset, .unset, .unset, .unset, .unset] [(.ref w_MEMBERSHIP)]))
        refine s_astore B X59 (pc' := 25) (Ls' := #[.val (.int i0), .val (.int i1), .val (.int i2), .val (.ref w_SHARED), .val (.ref w_MEMBERSHIP), .val (.ref w_SHARED), .val (.ref w_MEMBERSHIP), .unset, .unset, .unset, .unset, .unset]) at_23 rfl rfl rfl ?_
        refine s_aload B X59 (pc' := 27) at_25 rfl rfl rfl ?_
        refine s_ifnonnullY B X59 (pc' := 32) at_27 (by decide) (by decide) ?_
        refine s_aloadN B X59 (pc' := 33) at_32 rfl rfl rfl ?_
        refine p_static B X59 (y := mn2) (pc' := 36) (argsL := [(.ref w_SHARED)]) (under := []) (W := 0) e59 (tw17 hw) (tw18 hw) (tw19 hw) (tw2 hw) (by decide) (rm3_1 l Z a0 hw  w_SHARED w_WRITE w_MEMBERSHIP w_READ Z.heap F0 ) (lenOf pd_2 rfl) rfl rfl (by decide) (by decide) rfl rfl (by decide) (by decide) rfl at_33 rfl (fun T60 X60 e60 => ?_)
        show Go p e below _ (T60.setTop (mkF m 36 #[.val (.int i0), .val (.int i1), .val (.int i2), .val (.ref w_SHARED), .val (.ref w_MEMBERSHIP), .val (.ref w_SHARED), .val (.ref w_MEMBERSHIP), .unset, .unset, .unset, .unset, .unset] [(.int (8 : Int32))]))
        refine s_aload B X60 (pc' := 38) at_36 rfl rfl rfl ?_
        refine p_static B X60 (y := mn2) (pc' := 41) (argsL := [(.ref w_MEMBERSHIP)]) (under := [(.int (8 : Int32))]) (W := 1) e60 (tw17 hw) (tw18 hw) (tw19 hw) (tw2 hw) (by decide) (rm3_3 l Z a0 hw  w_SHARED w_WRITE w_MEMBERSHIP w_READ Z.heap F0 ) (lenOf pd_2 rfl) rfl rfl (by decide) (by decide) rfl rfl (by decide) (by decide) rfl at_38 rfl (fun T61 X61 e61 => ?_)
        show Go p e below _ (T61.setTop (mkF m 41 #[.val (.int i0), .val (.int i1), .val (.int i2), .val (.ref w_SHARED), .val (.ref w_MEMBERSHIP), .val (.ref w_SHARED), .val (.ref w_MEMBERSHIP), .unset, .unset, .unset, .unset, .unset] [(.int (10 : Int32)), (.int (8 : Int32))]))
        refine s_ior B X61 (pc' := 42) (v := (10 : Int32)) at_41 rfl rfl ?_
        refine s_istore B X61 (pc' := 44) (Ls' := #[.val (.int i0), .val (.int i1), .val (.int i2), .val (.ref w_SHARED), .val (.ref w_MEMBERSHIP), .val (.ref w_SHARED), .val (.ref w_MEMBERSHIP), .val (.int (10 : Int32)), .unset, .unset, .unset, .unset]) at_42 rfl rfl ?_
        refine s_aload B X61 (pc' := 46) at_44 rfl rfl rfl ?_
        refine p_static B X61 (y := mn2) (pc' := 49) (argsL := [(.ref w_MEMBERSHIP)]) (under := []) (W := 0) e61 (tw17 hw) (tw18 hw) (tw19 hw) (tw2 hw) (by decide) (rm3_3 l Z a0 hw  w_SHARED w_WRITE w_MEMBERSHIP w_READ Z.heap F0 ) (lenOf pd_2 rfl) rfl rfl (by decide) (by decide) rfl rfl (by decide) (by decide) rfl at_46 rfl (fun T62 X62 e62 => ?_)
        show Go p e below _ (T62.setTop (mkF m 49 #[.val (.int i0), .val (.int i1), .val (.int i2), .val (.ref w_SHARED), .val (.ref w_MEMBERSHIP), .val (.ref w_SHARED), .val (.ref w_MEMBERSHIP), .val (.int (10 : Int32)), .unset, .unset, .unset, .unset] [(.int (10 : Int32))]))
        refine s_istore B X62 (pc' := 51) (Ls' := #[.val (.int i0), .val (.int i1), .val (.int i2), .val (.ref w_SHARED), .val (.ref w_MEMBERSHIP), .val (.ref w_SHARED), .val (.ref w_MEMBERSHIP), .val (.int (10 : Int32)), .val (.int (10 : Int32)), .unset, .unset, .unset]) at_49 rfl rfl ?_
        refine s_aload B X62 (pc' := 53) at_51 rfl rfl rfl ?_
        refine p_static B X62 (y := mn2) (pc' := 56) (argsL := [(.ref w_SHARED)]) (under := []) (W := 0) e62 (tw17 hw) (tw18 hw) (tw19 hw) (tw2 hw) (by decide) (rm3_1 l Z a0 hw  w_SHARED w_WRITE w_MEMBERSHIP w_READ Z.heap F0 ) (lenOf pd_2 rfl) rfl rfl (by decide) (by decide) rfl rfl (by decide) (by decide) rfl at_53 rfl (fun T63 X63 e63 => ?_)
        show Go p e below _ (T63.setTop (mkF m 56 #[.val (.int i0), .val (.int i1), .val (.int i2), .val (.ref w_SHARED), .val (.ref w_MEMBERSHIP), .val (.ref w_SHARED), .val (.ref w_MEMBERSHIP), .val (.int (10 : Int32)), .val (.int (10 : Int32)), .unset, .unset, .unset] [(.int (8 : Int32))]))
        refine s_istore B X63 (pc' := 58) (Ls' := #[.val (.int i0), .val (.int i1), .val (.int i2), .val (.ref w_SHARED), .val (.ref w_MEMBERSHIP), .val (.ref w_SHARED), .val (.ref w_MEMBERSHIP), .val (.int (10 : Int32)), .val (.int (10 : Int32)), .val (.int (8 : Int32)), .unset, .unset]) at_56 rfl rfl ?_
        refine s_iload B X63 (pc' := 60) at_58 rfl rfl ?_
        refine s_iload B X63 (pc' := 62) at_60 rfl rfl ?_
        refine s_iand B X63 (pc' := 63) (v := (10 : Int32)) at_62 rfl rfl ?_
        refine s_iload B X63 (pc' := 65) at_63 rfl rfl ?_
        refine s_icmpN B X63 (pc' := 68) at_65 (by decide) rfl ?_
        refine s_iconst B X63 (pc' := 69) (v := (1 : Int32)) at_68 rfl rfl ?_
        refine s_goto B X63 (pc' := 73) at_69 (by decide) (by decide) ?_
        refine s_istore B X63 (pc' := 75) (Ls' := #[.val (.int i0), .val (.int i1), .val (.int i2), .val (.ref w_SHARED), .val (.ref w_MEMBERSHIP), .val (.ref w_SHARED), .val (.ref w_MEMBERSHIP), .val (.int (10 : Int32)), .val (.int (10 : Int32)), .val (.int (8 : Int32)), .val (.int (1 : Int32)), .unset]) at_73 rfl rfl ?_
        refine s_iload B X63 (pc' := 77) at_75 rfl rfl ?_
        refine s_iload B X63 (pc' := 79) at_77 rfl rfl ?_
        refine s_iand B X63 (pc' := 80) (v := (8 : Int32)) at_79 rfl rfl ?_
        refine s_iload B X63 (pc' := 82) at_80 rfl rfl ?_
        refine s_icmpY B X63 (pc' := 95) at_82 (by decide) (by decide) (by decide) ?_
        refine s_iconst B X63 (pc' := 96) (v := (1 : Int32)) at_95 rfl rfl ?_
        refine s_goto B X63 (pc' := 100) at_96 (by decide) (by decide) ?_
        refine s_istore B X63 (pc' := 102) (Ls' := #[.val (.int i0), .val (.int i1), .val (.int i2), .val (.ref w_SHARED), .val (.ref w_MEMBERSHIP), .val (.ref w_SHARED), .val (.ref w_MEMBERSHIP), .val (.int (10 : Int32)), .val (.int (10 : Int32)), .val (.int (8 : Int32)), .val (.int (1 : Int32)), .val (.int (1 : Int32))]) at_100 rfl rfl ?_
        refine s_iload B X63 (pc' := 104) at_102 rfl rfl ?_
        refine s_ifN B X63 (pc' := 107) at_104 (by decide) rfl ?_
        refine s_iload B X63 (pc' := 109) at_107 rfl rfl ?_
        refine s_ifN B X63 (pc' := 112) at_109 (by decide) rfl ?_
        refine s_iconst B X63 (pc' := 113) (v := (1 : Int32)) at_112 rfl rfl ?_
        refine s_goto B X63 (pc' := 117) at_113 (by decide) (by decide) ?_
        exact r_nar B X63 (t := .boolean) (by simp) rfl at_117 ⟨rfl, (Fr.nil _)⟩ (by decide) (by decide)
      · refine p_static B X56 (y := mn0) (pc' := 15) (argsL := [(.int i2)]) (under := []) (W := 0) e56 (tw0 hw) (tw1 hw) (tw3 hw) (tw2 hw) (by decide) (rm_mode1 l Z a0 hw i2 hm57 w_SHARED w_WRITE w_MEMBERSHIP w_READ Z.heap F0) (lenOf pd_0 rfl) rfl rfl (by decide) (by decide) rfl rfl (by decide) (by decide) rfl at_12 rfl (fun T64 X64 e64 => ?_)
        show Go p e below _ (T64.setTop (mkF m 15 #[.val (.int i0), .val (.int i1), .val (.int i2), .val (.ref w_SHARED), .val (.ref w_MEMBERSHIP), .unset, .unset, .unset, .unset, .unset, .unset, .unset] [(.ref w_READ)]))
        refine s_astore B X64 (pc' := 17) (Ls' := #[.val (.int i0), .val (.int i1), .val (.int i2), .val (.ref w_SHARED), .val (.ref w_MEMBERSHIP), .val (.ref w_READ), .unset, .unset, .unset, .unset, .unset, .unset]) at_15 rfl rfl rfl ?_
        refine s_aloadN B X64 (pc' := 18) at_17 rfl rfl rfl ?_
        refine s_aload B X64 (pc' := 20) at_18 rfl rfl rfl ?_
        refine p_virtual B X64 (y := mn1) (pc' := 23) (argsL := [(.ref w_MEMBERSHIP)]) (under := []) (W := 0) e64 (tw11 hw) (tw12 hw) (tw14 hw) (tw13 hw) (tw15 hw) (tw5 hw) (by decide) (rm2_6 l Z a0 hw  w_SHARED w_WRITE w_MEMBERSHIP w_READ Z.heap F0 ) E_SHARED (lenOf pd_1 rfl) rfl rfl (by decide) (by decide) rfl rfl (by decide) (by decide) rfl at_20 rfl (fun T65 X65 e65 => ?_)
        show Go p e below _ (T65.setTop (mkF m 23 #[.val (.int i0), .val (.int i1), .val (.int i2), .val (.ref w_SHARED), .val (.ref w_MEMBERSHIP), .val (.ref w_READ), .unset, .unset, .unset, .unset, .unset, .unset] [(.ref w_MEMBERSHIP)]))
        refine s_astore B X65 (pc' := 25) (Ls' := #[.val (.int i0), .val (.int i1), .val (.int i2), .val (.ref w_SHARED), .val (.ref w_MEMBERSHIP), .val (.ref w_READ), .val (.ref w_MEMBERSHIP), .unset, .unset, .unset, .unset, .unset]) at_23 rfl rfl rfl ?_
        refine s_aload B X65 (pc' := 27) at_25 rfl rfl rfl ?_
        refine s_ifnonnullY B X65 (pc' := 32) at_27 (by decide) (by decide) ?_
        refine s_aloadN B X65 (pc' := 33) at_32 rfl rfl rfl ?_
        refine p_static B X65 (y := mn2) (pc' := 36) (argsL := [(.ref w_SHARED)]) (under := []) (W := 0) e65 (tw17 hw) (tw18 hw) (tw19 hw) (tw2 hw) (by decide) (rm3_1 l Z a0 hw  w_SHARED w_WRITE w_MEMBERSHIP w_READ Z.heap F0 ) (lenOf pd_2 rfl) rfl rfl (by decide) (by decide) rfl rfl (by decide) (by decide) rfl at_33 rfl (fun T66 X66 e66 => ?_)
        show Go p e below _ (T66.setTop (mkF m 36 #[.val (.int i0), .val (.int i1), .val (.int i2), .val (.ref w_SHARED), .val (.ref w_MEMBERSHIP), .val (.ref w_READ), .val (.ref w_MEMBERSHIP), .unset, .unset, .unset, .unset, .unset] [(.int (8 : Int32))]))
        refine s_aload B X66 (pc' := 38) at_36 rfl rfl rfl ?_
        refine p_static B X66 (y := mn2) (pc' := 41) (argsL := [(.ref w_MEMBERSHIP)]) (under := [(.int (8 : Int32))]) (W := 1) e66 (tw17 hw) (tw18 hw) (tw19 hw) (tw2 hw) (by decide) (rm3_3 l Z a0 hw  w_SHARED w_WRITE w_MEMBERSHIP w_READ Z.heap F0 ) (lenOf pd_2 rfl) rfl rfl (by decide) (by decide) rfl rfl (by decide) (by decide) rfl at_38 rfl (fun T67 X67 e67 => ?_)
        show Go p e below _ (T67.setTop (mkF m 41 #[.val (.int i0), .val (.int i1), .val (.int i2), .val (.ref w_SHARED), .val (.ref w_MEMBERSHIP), .val (.ref w_READ), .val (.ref w_MEMBERSHIP), .unset, .unset, .unset, .unset, .unset] [(.int (10 : Int32)), (.int (8 : Int32))]))
        refine s_ior B X67 (pc' := 42) (v := (10 : Int32)) at_41 rfl rfl ?_
        refine s_istore B X67 (pc' := 44) (Ls' := #[.val (.int i0), .val (.int i1), .val (.int i2), .val (.ref w_SHARED), .val (.ref w_MEMBERSHIP), .val (.ref w_READ), .val (.ref w_MEMBERSHIP), .val (.int (10 : Int32)), .unset, .unset, .unset, .unset]) at_42 rfl rfl ?_
        refine s_aload B X67 (pc' := 46) at_44 rfl rfl rfl ?_
        refine p_static B X67 (y := mn2) (pc' := 49) (argsL := [(.ref w_MEMBERSHIP)]) (under := []) (W := 0) e67 (tw17 hw) (tw18 hw) (tw19 hw) (tw2 hw) (by decide) (rm3_3 l Z a0 hw  w_SHARED w_WRITE w_MEMBERSHIP w_READ Z.heap F0 ) (lenOf pd_2 rfl) rfl rfl (by decide) (by decide) rfl rfl (by decide) (by decide) rfl at_46 rfl (fun T68 X68 e68 => ?_)
        show Go p e below _ (T68.setTop (mkF m 49 #[.val (.int i0), .val (.int i1), .val (.int i2), .val (.ref w_SHARED), .val (.ref w_MEMBERSHIP), .val (.ref w_READ), .val (.ref w_MEMBERSHIP), .val (.int (10 : Int32)), .unset, .unset, .unset, .unset] [(.int (10 : Int32))]))
        refine s_istore B X68 (pc' := 51) (Ls' := #[.val (.int i0), .val (.int i1), .val (.int i2), .val (.ref w_SHARED), .val (.ref w_MEMBERSHIP), .val (.ref w_READ), .val (.ref w_MEMBERSHIP), .val (.int (10 : Int32)), .val (.int (10 : Int32)), .unset, .unset, .unset]) at_49 rfl rfl ?_
        refine s_aload B X68 (pc' := 53) at_51 rfl rfl rfl ?_
        refine p_static B X68 (y := mn2) (pc' := 56) (argsL := [(.ref w_READ)]) (under := []) (W := 0) e68 (tw17 hw) (tw18 hw) (tw19 hw) (tw2 hw) (by decide) (rm3_2 l Z a0 hw  w_SHARED w_WRITE w_MEMBERSHIP w_READ Z.heap F0 ) (lenOf pd_2 rfl) rfl rfl (by decide) (by decide) rfl rfl (by decide) (by decide) rfl at_53 rfl (fun T69 X69 e69 => ?_)
        show Go p e below _ (T69.setTop (mkF m 56 #[.val (.int i0), .val (.int i1), .val (.int i2), .val (.ref w_SHARED), .val (.ref w_MEMBERSHIP), .val (.ref w_READ), .val (.ref w_MEMBERSHIP), .val (.int (10 : Int32)), .val (.int (10 : Int32)), .unset, .unset, .unset] [(.int (12 : Int32))]))
        refine s_istore B X69 (pc' := 58) (Ls' := #[.val (.int i0), .val (.int i1), .val (.int i2), .val (.ref w_SHARED), .val (.ref w_MEMBERSHIP), .val (.ref w_READ), .val (.ref w_MEMBERSHIP), .val (.int (10 : Int32)), .val (.int (10 : Int32)), .val (.int (12 : Int32)), .unset, .unset]) at_56 rfl rfl ?_
        refine s_iload B X69 (pc' := 60) at_58 rfl rfl ?_
        refine s_iload B X69 (pc' := 62) at_60 rfl rfl ?_
        refine s_iand B X69 (pc' := 63) (v := (10 : Int32)) at_62 rfl rfl ?_
        refine s_iload B X69 (pc' := 65) at_63 rfl rfl ?_
        refine s_icmpN B X69 (pc' := 68) at_65 (by decide) rfl ?_
        refine s_iconst B X69 (pc' := 69) (v := (1 : Int32)) at_68 rfl rfl ?_
        refine s_goto B X69 (pc' := 73) at_69 (by decide) (by decide) ?_
        refine s_istore B X69 (pc' := 75) (Ls' := #[.val (.int i0), .val (.int i1), .val (.int i2), .val (.ref w_SHARED), .val (.ref w_MEMBERSHIP), .val (.ref w_READ), .val (.ref w_MEMBERSHIP), .val (.int (10 : Int32)), .val (.int (10 : Int32)), .val (.int (12 : Int32)), .val (.int (1 : Int32)), .unset]) at_73 rfl rfl ?_
        refine s_iload B X69 (pc' := 77) at_75 rfl rfl ?_
        refine s_iload B X69 (pc' := 79) at_77 rfl rfl ?_
        refine s_iand B X69 (pc' := 80) (v := (8 : Int32)) at_79 rfl rfl ?_
        refine s_iload B X69 (pc' := 82) at_80 rfl rfl ?_
        refine s_icmpY B X69 (pc' := 95) at_82 (by decide) (by decide) (by decide) ?_
        refine s_iconst B X69 (pc' := 96) (v := (1 : Int32)) at_95 rfl rfl ?_
        refine s_goto B X69 (pc' := 100) at_96 (by decide) (by decide) ?_
        refine s_istore B X69 (pc' := 102) (Ls' := #[.val (.int i0), .val (.int i1), .val (.int i2), .val (.ref w_SHARED), .val (.ref w_MEMBERSHIP), .val (.ref w_READ), .val (.ref w_MEMBERSHIP), .val (.int (10 : Int32)), .val (.int (10 : Int32)), .val (.int (12 : Int32)), .val (.int (1 : Int32)), .val (.int (1 : Int32))]) at_100 rfl rfl ?_
        refine s_iload B X69 (pc' := 104) at_102 rfl rfl ?_
        refine s_ifN B X69 (pc' := 107) at_104 (by decide) rfl ?_
        refine s_iload B X69 (pc' := 109) at_107 rfl rfl ?_
        refine s_ifN B X69 (pc' := 112) at_109 (by decide) rfl ?_
        refine s_iconst B X69 (pc' := 113) (v := (1 : Int32)) at_112 rfl rfl ?_
        refine s_goto B X69 (pc' := 117) at_113 (by decide) (by decide) ?_
        exact r_nar B X69 (t := .boolean) (by simp) rfl at_117 ⟨rfl, (Fr.nil _)⟩ (by decide) (by decide)
      · refine p_static B X56 (y := mn0) (pc' := 15) (argsL := [(.int i2)]) (under := []) (W := 0) e56 (tw0 hw) (tw1 hw) (tw3 hw) (tw2 hw) (by decide) (rm_mode2 l Z a0 hw i2 hm57 w_SHARED w_WRITE w_MEMBERSHIP w_READ Z.heap F0) (lenOf pd_0 rfl) rfl rfl (by decide) (by decide) rfl rfl (by decide) (by decide) rfl at_12 rfl (fun T70 X70 e70 => ?_)
        show Go p e below _ (T70.setTop (mkF m 15 #[.val (.int i0), .val (.int i1), .val (.int i2), .val (.ref w_SHARED), .val (.ref w_MEMBERSHIP), .unset, .unset, .unset, .unset, .unset, .unset, .unset] [(.ref w_MEMBERSHIP)]))
        refine s_astore B X70 (pc' := 17) (Ls' := #[.val (.int i0), .val (.int i1), .val (.int i2), .val (.ref w_SHARED), .val (.ref w_MEMBERSHIP), .val (.ref w_MEMBERSHIP), .unset, .unset, .unset, .unset, .unset, .unset]) at_15 rfl rfl rfl ?_
        refine s_aloadN B X70 (pc' := 18) at_17 rfl rfl rfl ?_
        refine s_aload B X70 (pc' := 20) at_18 rfl rfl rfl ?_
        refine p_virtual B X70 (y := mn1) (pc' := 23) (argsL := [(.ref w_MEMBERSHIP)]) (under := []) (W := 0) e70 (tw11 hw) (tw12 hw) (tw14 hw) (tw13 hw) (tw15 hw) (tw5 hw) (by decide) (rm2_6 l Z a0 hw  w_SHARED w_WRITE w_MEMBERSHIP w_READ Z.heap F0 ) E_SHARED (lenOf pd_1 rfl) rfl rfl (by decide) (by decide) rfl rfl (by decide) (by decide) rfl at_20 rfl (fun T71 X71 e71 => ?_)
        show Go p e below _ (T71.setTop (mkF m 23 #[.val (.int i0), .val (.int i1), .val (.int i2), .val (.ref w_SHARED), .val (.ref w_MEMBERSHIP), .val (.ref w_MEMBERSHIP), .unset, .unset, .unset, .unset, .unset, .unset] [(.ref w_MEMBERSHIP)]))
        refine s_astore B X71 (pc' := 25) (Ls' := #[.val (.int i0), .val (.int i1), .val (.int i2), .val (.ref w_SHARED), .val (.ref w_MEMBERSHIP), .val (.ref w_MEMBERSHIP), .val (.ref w_MEMBERSHIP), .unset, .unset, .unset, .unset, .unset]) at_23 rfl rfl rfl ?_
        refine s_aload B X71 (pc' := 27) at_25 rfl rfl rfl ?_
        refine s_ifnonnullY B X71 (pc' := 32) at_27 (by decide) (by decide) ?_
        refine s_aloadN B X71 (pc' := 33) at_32 rfl rfl rfl ?_
        refine p_static B X71 (y := mn2) (pc' := 36) (argsL := [(.ref w_SHARED)]) (under := []) (W := 0) e71 (tw17 hw) (tw18 hw) (tw19 hw) (tw2 hw) (by decide) (rm3_1 l Z a0 hw  w_SHARED w_WRITE w_MEMBERSHIP w_READ Z.heap F0 ) (lenOf pd_2 rfl) rfl rfl (by decide) (by decide) rfl rfl (by decide) (by decide) rfl at_33 rfl (fun T72 X72 e72 => ?_)
        show Go p e below _ (T72.setTop (mkF m 36 #[.val (.int i0), .val (.int i1), .val (.int i2), .val (.ref w_SHARED), .val (.ref w_MEMBERSHIP), .val (.ref w_MEMBERSHIP), .val (.ref w_MEMBERSHIP), .unset, .unset, .unset, .unset, .unset] [(.int (8 : Int32))]))
        refine s_aload B X72 (pc' := 38) at_36 rfl rfl rfl ?_
        refine p_static B X72 (y := mn2) (pc' := 41) (argsL := [(.ref w_MEMBERSHIP)]) (under := [(.int (8 : Int32))]) (W := 1) e72 (tw17 hw) (tw18 hw) (tw19 hw) (tw2 hw) (by decide) (rm3_3 l Z a0 hw  w_SHARED w_WRITE w_MEMBERSHIP w_READ Z.heap F0 ) (lenOf pd_2 rfl) rfl rfl (by decide) (by decide) rfl rfl (by decide) (by decide) rfl at_38 rfl (fun T73 X73 e73 => ?_)
        show Go p e below _ (T73.setTop (mkF m 41 #[.val (.int i0), .val (.int i1), .val (.int i2), .val (.ref w_SHARED), .val (.ref w_MEMBERSHIP), .val (.ref w_MEMBERSHIP), .val (.ref w_MEMBERSHIP), .unset, .unset, .unset, .unset, .unset] [(.int (10 : Int32)), (.int (8 : Int32))]))
        refine s_ior B X73 (pc' := 42) (v := (10 : Int32)) at_41 rfl rfl ?_
        refine s_istore B X73 (pc' := 44) (Ls' := #[.val (.int i0), .val (.int i1), .val (.int i2), .val (.ref w_SHARED), .val (.ref w_MEMBERSHIP), .val (.ref w_MEMBERSHIP), .val (.ref w_MEMBERSHIP), .val (.int (10 : Int32)), .unset, .unset, .unset, .unset]) at_42 rfl rfl ?_
        refine s_aload B X73 (pc' := 46) at_44 rfl rfl rfl ?_
        refine p_static B X73 (y := mn2) (pc' := 49) (argsL := [(.ref w_MEMBERSHIP)]) (under := []) (W := 0) e73 (tw17 hw) (tw18 hw) (tw19 hw) (tw2 hw) (by decide) (rm3_3 l Z a0 hw  w_SHARED w_WRITE w_MEMBERSHIP w_READ Z.heap F0 ) (lenOf pd_2 rfl) rfl rfl (by decide) (by decide) rfl rfl (by decide) (by decide) rfl at_46 rfl (fun T74 X74 e74 => ?_)
        show Go p e below _ (T74.setTop (mkF m 49 #[.val (.int i0), .val (.int i1), .val (.int i2), .val (.ref w_SHARED), .val (.ref w_MEMBERSHIP), .val (.ref w_MEMBERSHIP), .val (.ref w_MEMBERSHIP), .val (.int (10 : Int32)), .unset, .unset, .unset, .unset] [(.int (10 : Int32))]))
        refine s_istore B X74 (pc' := 51) (Ls' := #[.val (.int i0), .val (.int i1), .val (.int i2), .val (.ref w_SHARED), .val (.ref w_MEMBERSHIP), .val (.ref w_MEMBERSHIP), .val (.ref w_MEMBERSHIP), .val (.int (10 : Int32)), .val (.int (10 : Int32)), .unset, .unset, .unset]) at_49 rfl rfl ?_
        refine s_aload B X74 (pc' := 53) at_51 rfl rfl rfl ?_
        refine p_static B X74 (y := mn2) (pc' := 56) (argsL := [(.ref w_MEMBERSHIP)]) (under := []) (W := 0) e74 (tw17 hw) (tw18 hw) (tw19 hw) (tw2 hw) (by decide) (rm3_3 l Z a0 hw  w_SHARED w_WRITE w_MEMBERSHIP w_READ Z.heap F0 ) (lenOf pd_2 rfl) rfl rfl (by decide) (by decide) rfl rfl (by decide) (by decide) rfl at_53 rfl (fun T75 X75 e75 => ?_)
        show Go p e below _ (T75.setTop (mkF m 56 #[.val (.int i0), .val (.int i1), .val (.int i2), .val (.ref w_SHARED), .val (.ref w_MEMBERSHIP), .val (.ref w_MEMBERSHIP), .val (.ref w_MEMBERSHIP), .val (.int (10 : Int32)), .val (.int (10 : Int32)), .unset, .unset, .unset] [(.int (10 : Int32))]))
        refine s_istore B X75 (pc' := 58) (Ls' := #[.val (.int i0), .val (.int i1), .val (.int i2), .val (.ref w_SHARED), .val (.ref w_MEMBERSHIP), .val (.ref w_MEMBERSHIP), .val (.ref w_MEMBERSHIP), .val (.int (10 : Int32)), .val (.int (10 : Int32)), .val (.int (10 : Int32)), .unset, .unset]) at_56 rfl rfl ?_
        refine s_iload B X75 (pc' := 60) at_58 rfl rfl ?_
        refine s_iload B X75 (pc' := 62) at_60 rfl rfl ?_
        refine s_iand B X75 (pc' := 63) (v := (10 : Int32)) at_62 rfl rfl ?_
        refine s_iload B X75 (pc' := 65) at_63 rfl rfl ?_
        refine s_icmpN B X75 (pc' := 68) at_65 (by decide) rfl ?_
        refine s_iconst B X75 (pc' := 69) (v := (1 : Int32)) at_68 rfl rfl ?_
        refine s_goto B X75 (pc' := 73) at_69 (by decide) (by decide) ?_
        refine s_istore B X75 (pc' := 75) (Ls' := #[.val (.int i0), .val (.int i1), .val (.int i2), .val (.ref w_SHARED), .val (.ref w_MEMBERSHIP), .val (.ref w_MEMBERSHIP), .val (.ref w_MEMBERSHIP), .val (.int (10 : Int32)), .val (.int (10 : Int32)), .val (.int (10 : Int32)), .val (.int (1 : Int32)), .unset]) at_73 rfl rfl ?_
        refine s_iload B X75 (pc' := 77) at_75 rfl rfl ?_
        refine s_iload B X75 (pc' := 79) at_77 rfl rfl ?_
        refine s_iand B X75 (pc' := 80) (v := (10 : Int32)) at_79 rfl rfl ?_
        refine s_iload B X75 (pc' := 82) at_80 rfl rfl ?_
        refine s_icmpN B X75 (pc' := 85) at_82 (by decide) rfl ?_
        refine s_iload B X75 (pc' := 87) at_85 rfl rfl ?_
        refine s_iload B X75 (pc' := 89) at_87 rfl rfl ?_
        refine s_iand B X75 (pc' := 90) (v := (10 : Int32)) at_89 rfl rfl ?_
        refine s_iload B X75 (pc' := 92) at_90 rfl rfl ?_
        refine s_icmpN B X75 (pc' := 95) at_92 (by decide) rfl ?_
        refine s_iconst B X75 (pc' := 96) (v := (1 : Int32)) at_95 rfl rfl ?_
        refine s_goto B X75 (pc' := 100) at_96 (by decide) (by decide) ?_
        refine s_istore B X75 (pc' := 102) (Ls' := #[.val (.int i0), .val (.int i1), .val (.int i2), .val (.ref w_SHARED), .val (.ref w_MEMBERSHIP), .val (.ref w_MEMBERSHIP), .val (.ref w_MEMBERSHIP), .val (.int (10 : Int32)), .val (.int (10 : Int32)), .val (.int (10 : Int32)), .val (.int (1 : Int32)), .val (.int (1 : Int32))]) at_100 rfl rfl ?_
        refine s_iload B X75 (pc' := 104) at_102 rfl rfl ?_
        refine s_ifN B X75 (pc' := 107) at_104 (by decide) rfl ?_
        refine s_iload B X75 (pc' := 109) at_107 rfl rfl ?_
        refine s_ifN B X75 (pc' := 112) at_109 (by decide) rfl ?_
        refine s_iconst B X75 (pc' := 113) (v := (1 : Int32)) at_112 rfl rfl ?_
        refine s_goto B X75 (pc' := 117) at_113 (by decide) (by decide) ?_
        exact r_nar B X75 (t := .boolean) (by simp) rfl at_117 ⟨rfl, (Fr.nil _)⟩ (by decide) (by decide)
      · refine p_static B X56 (y := mn0) (pc' := 15) (argsL := [(.int i2)]) (under := []) (W := 0) e56 (tw0 hw) (tw1 hw) (tw3 hw) (tw2 hw) (by decide) (rm_mode3 l Z a0 hw i2 hm57 w_SHARED w_WRITE w_MEMBERSHIP w_READ Z.heap F0) (lenOf pd_0 rfl) rfl rfl (by decide) (by decide) rfl rfl (by decide) (by decide) rfl at_12 rfl (fun T76 X76 e76 => ?_)
        show Go p e below _ (T76.setTop (mkF m 15 #[.val (.int i0), .val (.int i1), .val (.int i2), .val (.ref w_SHARED), .val (.ref w_MEMBERSHIP), .unset, .unset, .unset, .unset, .unset, .unset, .unset] [(.ref w_WRITE)]))
        refine s_astore B X76 (pc' := 17) (Ls' := #[.val (.int i0), .val (.int i1), .val (.int i2), .val (.ref w_SHARED), .val (.ref w_MEMBERSHIP), .val (.ref w_WRITE), .unset, .unset, .unset, .unset, .unset, .unset]) at_15 rfl rfl rfl ?_
        refine s_aloadN B X76 (pc' := 18) at_17 rfl rfl rfl ?_
        refine s_aload B X76 (pc' := 20) at_18 rfl rfl rfl ?_
        refine p_virtual B X76 (y := mn1) (pc' := 23) (argsL := [(.ref w_MEMBERSHIP)]) (under := []) (W := 0) e76 (tw11 hw) (tw12 hw) (tw14 hw) (tw13 hw) (tw15 hw) (tw5 hw) (by decide) (rm2_6 l Z a0 hw  w_SHARED w_WRITE w_MEMBERSHIP w_READ Z.heap F0 ) E_SHARED (lenOf pd_1 rfl) rfl rfl (by decide) (by decide) rfl rfl (by decide) (by decide) rfl at_20 rfl (fun T77 X77 e77 => ?_)
        show Go p e below _ (T77.setTop (mkF m 23 #[.val (.int i0), .val (.int i1), .val (.int i2), .val (.ref w_SHARED), .val (.ref w_MEMBERSHIP), .val (.ref w_WRITE), .unset, .unset, .unset, .unset, .unset, .unset] [(.ref w_MEMBERSHIP)]))
        refine s_astore B X77 (pc' := 25) (Ls' := #[.val (.int i0), .val (.int i1), .val (.int i2), .val (.ref w_SHARED), .val (.ref w_MEMBERSHIP), .val (.ref w_WRITE), .val (.ref w_MEMBERSHIP), .unset, .unset, .unset, .unset, .unset]) at_23 rfl rfl rfl ?_
        refine s_aload B X77 (pc' := 27) at_25 rfl rfl rfl ?_
        refine s_ifnonnullY B X77 (pc' := 32) at_27 (by decide) (by decide) ?_
        refine s_aloadN B X77 (pc' := 33) at_32 rfl rfl rfl ?_
        refine p_static B X77 (y := mn2) (pc' := 36) (argsL := [(.ref w_SHARED)]) (under := []) (W := 0) e77 (tw17 hw) (tw18 hw) (tw19 hw) (tw2 hw) (by decide) (rm3_1 l Z a0 hw  w_SHARED w_WRITE w_MEMBERSHIP w_READ Z.heap F0 ) (lenOf pd_2 rfl) rfl rfl (by decide) (by decide) rfl rfl (by decide) (by decide) rfl at_33 rfl (fun T78 X78 e78 => ?_)
        show Go p e below _ (T78.setTop (mkF m 36 #[.val (.int i0), .val (.int i1), .val (.int i2), .val (.ref w_SHARED), .val (.ref w_MEMBERSHIP), .val (.ref w_WRITE), .val (.ref w_MEMBERSHIP), .unset, .unset, .unset, .unset, .unset] [(.int (8 : Int32))]))
        refine s_aload B X78 (pc' := 38) at_36 rfl rfl rfl ?_
        refine p_static B X78 (y := mn2) (pc' := 41) (argsL := [(.ref w_MEMBERSHIP)]) (under := [(.int (8 : Int32))]) (W := 1) e78 (tw17 hw) (tw18 hw) (tw19 hw) (tw2 hw) (by decide) (rm3_3 l Z a0 hw  w_SHARED w_WRITE w_MEMBERSHIP w_READ Z.heap F0 ) (lenOf pd_2 rfl) rfl rfl (by decide) (by decide) rfl rfl (by decide) (by decide) rfl at_38 rfl (fun T79 X79 e79 => ?_)
        show Go p e below _ (T79.setTop (mkF m 41 #[.val (.int i0), .val (.int i1), .val (.int i2), .val (.ref w_SHARED), .val (.ref w_MEMBERSHIP), .val (.ref w_WRITE), .val (.ref w_MEMBERSHIP), .unset, .unset, .unset, .unset, .unset] [(.int (10 : Int32)), (.int (8 : Int32))]))
        refine s_ior B X79 (pc' := 42) (v := (10 : Int32)) at_41 rfl rfl ?_
        refine s_istore B X79 (pc' := 44) (Ls' := #[.val (.int i0), .val (.int i1), .val (.int i2), .val (.ref w_SHARED), .val (.ref w_MEMBERSHIP), .val (.ref w_WRITE), .val (.ref w_MEMBERSHIP), .val (.int (10 : Int32)), .unset, .unset, .unset, .unset]) at_42 rfl rfl ?_
        refine s_aload B X79 (pc' := 46) at_44 rfl rfl rfl ?_
        refine p_static B X79 (y := mn2) (pc' := 49) (argsL := [(.ref w_MEMBERSHIP)]) (under := []) (W := 0) e79 (tw17 hw) (tw18 hw) (tw19 hw) (tw2 hw) (by decide) (rm3_3 l Z a0 hw  w_SHARED w_WRITE w_MEMBERSHIP w_READ Z.heap F0 ) (lenOf pd_2 rfl) rfl rfl (by decide) (by decide) rfl rfl (by decide) (by decide) rfl at_46 rfl (fun T80 X80 e80 => ?_)
        show Go p e below _ (T80.setTop (mkF m 49 #[.val (.int i0), .val (.int i1), .val (.int i2), .val (.ref w_SHARED), .val (.ref w_MEMBERSHIP), .val (.ref w_WRITE), .val (.ref w_MEMBERSHIP), .val (.int (10 : Int32)), .unset, .unset, .unset, .unset] [(.int (10 : Int32))]))
        refine s_istore B X80 (pc' := 51) (Ls' := #[.val (.int i0), .val (.int i1), .val (.int i2), .val (.ref w_SHARED), .val (.ref w_MEMBERSHIP), .val (.ref w_WRITE), .val (.ref w_MEMBERSHIP), .val (.int (10 : Int32)), .val (.int (10 : Int32)), .unset, .unset, .unset]) at_49 rfl rfl ?_
        refine s_aload B X80 (pc' := 53) at_51 rfl rfl rfl ?_
        refine p_static B X80 (y := mn2) (pc' := 56) (argsL := [(.ref w_WRITE)]) (under := []) (W := 0) e80 (tw17 hw) (tw18 hw) (tw19 hw) (tw2 hw) (by decide) (rm3_4 l Z a0 hw  w_SHARED w_WRITE w_MEMBERSHIP w_READ Z.heap F0 ) (lenOf pd_2 rfl) rfl rfl (by decide) (by decide) rfl rfl (by decide) (by decide) rfl at_53 rfl (fun T81 X81 e81 => ?_)
        show Go p e below _ (T81.setTop (mkF m 56 #[.val (.int i0), .val (.int i1), .val (.int i2), .val (.ref w_SHARED), .val (.ref w_MEMBERSHIP), .val (.ref w_WRITE), .val (.ref w_MEMBERSHIP), .val (.int (10 : Int32)), .val (.int (10 : Int32)), .unset, .unset, .unset] [(.int (15 : Int32))]))
        refine s_istore B X81 (pc' := 58) (Ls' := #[.val (.int i0), .val (.int i1), .val (.int i2), .val (.ref w_SHARED), .val (.ref w_MEMBERSHIP), .val (.ref w_WRITE), .val (.ref w_MEMBERSHIP), .val (.int (10 : Int32)), .val (.int (10 : Int32)), .val (.int (15 : Int32)), .unset, .unset]) at_56 rfl rfl ?_
        refine s_iload B X81 (pc' := 60) at_58 rfl rfl ?_
        refine s_iload B X81 (pc' := 62) at_60 rfl rfl ?_
        refine s_iand B X81 (pc' := 63) (v := (10 : Int32)) at_62 rfl rfl ?_
        refine s_iload B X81 (pc' := 65) at_63 rfl rfl ?_
        refine s_icmpN B X81 (pc' := 68) at_65 (by decide) rfl ?_
        refine s_iconst B X81 (pc' := 69) (v := (1 : Int32)) at_68 rfl rfl ?_
        refine s_goto B X81 (pc' := 73) at_69 (by decide) (by decide) ?_
        refine s_istore B X81 (pc' := 75) (Ls' := #[.val (.int i0), .val (.int i1), .val (.int i2), .val (.ref w_SHARED), .val (.ref w_MEMBERSHIP), .val (.ref w_WRITE), .val (.ref w_MEMBERSHIP), .val (.int (10 : Int32)), .val (.int (10 : Int32)), .val (.int (15 : Int32)), .val (.int (1 : Int32)), .unset]) at_73 rfl rfl ?_
        refine s_iload B X81 (pc' := 77) at_75 rfl rfl ?_
        refine s_iload B X81 (pc' := 79) at_77 rfl rfl ?_
        refine s_iand B X81 (pc' := 80) (v := (10 : Int32)) at_79 rfl rfl ?_
        refine s_iload B X81 (pc' := 82) at_80 rfl rfl ?_
        refine s_icmpN B X81 (pc' := 85) at_82 (by decide) rfl ?_
        refine s_iload B X81 (pc' := 87) at_85 rfl rfl ?_
        refine s_iload B X81 (pc' := 89) at_87 rfl rfl ?_
        refine s_iand B X81 (pc' := 90) (v := (10 : Int32)) at_89 rfl rfl ?_
        refine s_iload B X81 (pc' := 92) at_90 rfl rfl ?_
        refine s_icmpN B X81 (pc' := 95) at_92 (by decide) rfl ?_
        refine s_iconst B X81 (pc' := 96) (v := (1 : Int32)) at_95 rfl rfl ?_
        refine s_goto B X81 (pc' := 100) at_96 (by decide) (by decide) ?_
        refine s_istore B X81 (pc' := 102) (Ls' := #[.val (.int i0), .val (.int i1), .val (.int i2), .val (.ref w_SHARED), .val (.ref w_MEMBERSHIP), .val (.ref w_WRITE), .val (.ref w_MEMBERSHIP), .val (.int (10 : Int32)), .val (.int (10 : Int32)), .val (.int (15 : Int32)), .val (.int (1 : Int32)), .val (.int (1 : Int32))]) at_100 rfl rfl ?_
        refine s_iload B X81 (pc' := 104) at_102 rfl rfl ?_
        refine s_ifN B X81 (pc' := 107) at_104 (by decide) rfl ?_
        refine s_iload B X81 (pc' := 109) at_107 rfl rfl ?_
        refine s_ifN B X81 (pc' := 112) at_109 (by decide) rfl ?_
        refine s_iconst B X81 (pc' := 113) (v := (1 : Int32)) at_112 rfl rfl ?_
        refine s_goto B X81 (pc' := 117) at_113 (by decide) (by decide) ?_
        exact r_nar B X81 (t := .boolean) (by simp) rfl at_117 ⟨rfl, (Fr.nil _)⟩ (by decide) (by decide)
    · refine p_static B X2 (y := mn0) (pc' := 9) (argsL := [(.int i1)]) (under := []) (W := 0) e2 (tw0 hw) (tw1 hw) (tw3 hw) (tw2 hw) (by decide) (rm_mode3 l Z a0 hw i1 hm3 w_SHARED w_WRITE w_MEMBERSHIP w_READ Z.heap F0) (lenOf pd_0 rfl) rfl rfl (by decide) (by decide) rfl rfl (by decide) (by decide) rfl at_6 rfl (fun T82 X82 e82 => ?_)
      show Go p e below _ (T82.setTop (mkF m 9 #[.val (.int i0), .val (.int i1), .val (.int i2), .val (.ref w_SHARED), .unset, .unset, .unset, .unset, .unset, .unset, .unset, .unset] [(.ref w_WRITE)]))
      refine s_astore B X82 (pc' := 11) (Ls' := #[.val (.int i0), .val (.int i1), .val (.int i2), .val (.ref w_SHARED), .val (.ref w_WRITE), .unset, .unset, .unset, .unset, .unset, .unset, .unset]) at_9 rfl rfl rfl ?_
      refine s_iloadN B X82 (pc' := 12) at_11 rfl rfl ?_
      rcases own_and3 i2 with hm83 | hm83 | hm83 | hm83
      · refine p_static B X82 (y := mn0) (pc' := 15) (argsL := [(.int i2)]) (under := []) (W := 0) e82 (tw0 hw) (tw1 hw) (tw3 hw) (tw2 hw) (by decide) (rm_mode0 l Z a0 hw i2 hm83 w_SHARED w_WRITE w_MEMBERSHIP w_READ Z.heap F0) (lenOf pd_0 rfl) rfl rfl (by decide) (by decide) rfl rfl (by decide) (by decide) rfl at_12 rfl (fun T84 X84 e84 => ?_)
        show Go p e below _ (T84.setTop (mkF m 15 #[.val (.int i0), .val (.int i1), .val (.int i2), .val (.ref w_SHARED), .val (.ref w_WRITE), .unset, .unset, .unset, .unset, .unset, .unset, .unset] [(.ref w_SHARED)]))
        refine s_astore B X84 (pc' := 17) (Ls' := #[.val (.int i0), .val (.int i1), .val (.int i2), .val (.ref w_SHARED), .val (.ref w_WRITE), .val (.ref w_SHARED), .unset, .unset, .unset, .unset, .unset, .unset]) at_15 rfl rfl rfl ?_
        refine s_aloadN B X84 (pc' := 18) at_17 rfl rfl rfl ?_
        refine s_aload B X84 (pc' := 20) at_18 rfl rfl rfl ?_
        refine p_virtual B X84 (y := mn1) (pc' := 23) (argsL := [(.ref w_WRITE)]) (under := []) (W := 0) e84 (tw11 hw) (tw12 hw) (tw14 hw) (tw13 hw) (tw15 hw) (tw5 hw) (by decide) (rm2_7 l Z a0 hw  w_SHARED w_WRITE w_MEMBERSHIP w_READ Z.heap F0 ) E_SHARED (lenOf pd_1 rfl) rfl rfl (by decide) (by decide) rfl rfl (by decide) (by decide) rfl at_20 rfl (fun T85 X85 e85 => ?_)
        show Go p e below _ (T85.setTop (mkF m 23 #[.val (.int i0), .val (.int i1), .val (.int i2), .val (.ref w_SHARED), .val (.ref w_WRITE), .val (.ref w_SHARED), .unset, .unset, .unset, .unset, .unset, .unset] [(.ref w_WRITE)]))
        refine s_astore B X85 (pc' := 25) (Ls' := #[.val (.int i0), .val (.int i1), .val (.int i2), .val (.ref w_SHARED), .val (.ref w_WRITE), .val (.ref w_SHARED), .val (.ref w_WRITE), .unset, .unset, .unset, .unset, .unset]) at_23 rfl rfl rfl ?_
        refine s_aload B X85 (pc' := 27) at_25 rfl rfl rfl ?_
        refine s_ifnonnullY B X85 (pc' := 32) at_27 (by decide) (by decide) ?_
        refine s_aloadN B X85 (pc' := 33) at_32 rfl rfl rfl ?_
        refine p_static B X85 (y := mn2) (pc' := 36) (argsL := [(.ref w_SHARED)]) (under := []) (W := 0) e85 (tw17 hw) (tw18 hw) (tw19 hw) (tw2 hw) (by decide) (rm3_1 l Z a0 hw  w_SHARED w_WRITE w_MEMBERSHIP w_READ Z.heap F0 ) (lenOf pd_2 rfl) rfl rfl (by decide) (by decide) rfl rfl (by decide) (by decide) rfl at_33 rfl (fun T86 X86 e86 => ?_)
        show Go p e below _ (T86.setTop (mkF m 36 #[.val (.int i0), .val (.int i1), .val (.int i2), .val (.ref w_SHARED), .val (.ref w_WRITE), .val (.ref w_SHARED), .val (.ref w_WRITE), .unset, .unset, .unset, .unset, .unset] [(.int (8 : Int32))]))
        refine s_aload B X86 (pc' := 38) at_36 rfl rfl rfl ?_
        refine p_static B X86 (y := mn2) (pc' := 41) (argsL := [(.ref w_WRITE)]) (under := [(.int (8 : Int32))]) (W := 1) e86 (tw17 hw) (tw18 hw) (tw19 hw) (tw2 hw) (by decide) (rm3_4 l Z a0 hw  w_SHARED w_WRITE w_MEMBERSHIP w_READ Z.heap F0 ) (lenOf pd_2 rfl) rfl rfl (by decide) (by decide) rfl rfl (by decide) (by decide) rfl at_38 rfl (fun T87 X87 e87 => ?_)
        show Go p e below _ (T87.setTop (mkF m 41 #[.val (.int i0), .val (.int i1), .val (.int i2), .val (.ref w_SHARED), .val (.ref w_WRITE), .val (.ref w_SHARED), .val (.ref w_WRITE), .unset, .unset, .unset, .unset, .unset] [(.int (15 : Int32)), (.int (8 : Int32))]))
        refine s_ior B X87 (pc' := 42) (v := (15 : Int32)) at_41 rfl rfl ?_
        refine s_istore B X87 (pc' := 44) (Ls' := #[.val (.int i0), .val (.int i1), .val (.int i2), .val (.ref w_SHARED), .val (.ref w_WRITE), .val (.ref w_SHARED), .val (.ref w_WRITE), .val (.int (15 : Int32)), .unset, .unset, .unset, .unset]) at_42 rfl rfl ?_
        refine s_aload B X87 (pc' := 46) at_44 rfl rfl rfl ?_
        refine p_static B X87 (y := mn2) (pc' := 49) (argsL := [(.ref w_WRITE)]) (under := []) (W := 0) e87 (tw17 hw) (tw18 hw) (tw19 hw) (tw2 hw) (by decide) (rm3_4 l Z a0 hw  w_SHARED w_WRITE w_MEMBERSHIP w_READ Z.heap F0 ) (lenOf pd_2 rfl) rfl rfl (by decide) (by decide) rfl rfl (by decide) (by decide) rfl at_46 rfl (fun T88 X88 e88 => ?_)
        show Go p e below _ (T88.setTop (mkF m 49 #[.val (.int i0), .val (.int i1), .val (.int i2), .val (.ref w_SHARED), .val (.ref w_WRITE), .val (.ref w_SHARED), .val (.ref w_WRITE), .val (.int (15 : Int32)), .unset, .unset, .unset, .unset] [(.int (15 : Int32))]))
        refine s_istore B X88 (pc' := 51) (Ls' := #[.val (.int i0), .val (.int i1), .val (.int i2), .val (.ref w_SHARED), .val (.ref w_WRITE), .val (.ref w_SHARED), .val (.ref w_WRITE), .val (.int (15 : Int32)), .val (.int (15 : Int32)), .unset, .unset, .unset]) at_49 rfl rfl ?_
        refine s_aload B X88 (pc' := 53) at_51 rfl rfl rfl ?_
        refine p_static B X88 (y := mn2) (pc' := 56) (argsL := [(.ref w_SHARED)]) (under := []) (W := 0) e88 (tw17 hw) (tw18 hw) (tw19 hw) (tw2 hw) (by decide) (rm3_1 l Z a0 hw  w_SHARED w_WRITE w_MEMBERSHIP w_READ Z.heap F0 ) (lenOf pd_2 rfl) rfl rfl (by decide) (by decide) rfl rfl (by decide) (by decide) rfl at_53 rfl (fun T89 X89 e89 => ?_)
        show Go p e below _ (T89.setTop (mkF m 56 #[.val (.int i0), .val (.int i1), .val (.int i2), .val (.ref w_SHARED), .val (.ref w_WRITE), .val (.ref w_SHARED), .val (.ref w_WRITE), .val (.int (15 : Int32)), .val (.int (15 : Int32)), .unset, .unset, .unset] [(.int (8 : Int32))]))
        refine s_istore B X89 (pc' := 58) (Ls' := #[.val (.int i0), .val (.int i1), .val (.int i2), .val (.ref w_SHARED), .val (.ref w_WRITE), .val (.ref w_SHARED), .val (.ref w_WRITE), .val (.int (15 : Int32)), .val (.int (15 : Int32)), .val (.int (8 : Int32)), .unset, .unset]) at_56 rfl rfl ?_
        refine s_iload B X89 (pc' := 60) at_58 rfl rfl ?_
        refine s_iload B X89 (pc' := 62) at_60 rfl rfl ?_
        refine s_iand B X89 (pc' := 63) (v := (15 : Int32)) at_62 rfl rfl ?_
        refine s_iload B X89 (pc' := 65) at_63 rfl rfl ?_
        refine s_icmpN B X89 (pc' := 68) at_65 (by decide) rfl ?_
        refine s_iconst B X89 (pc' := 69) (v := (1 : Int32)) at_68 rfl rfl ?_
        refine s_goto B X89 (pc' := 73) at_69 (by decide) (by decide) ?_
        refine s_istore B X89 (pc' := 75) (Ls' := #[.val (.int i0), .val (.int i1), .val (.int i2), .val (.ref w_SHARED), .val (.ref w_WRITE), .val (.ref w_SHARED), .val (.ref w_WRITE), .val (.int (15 : Int32)), .val (.int (15 : Int32)), .val (.int (8 : Int32)), .val (.int (1 : Int32)), .unset]) at_73 rfl rfl ?_
        refine s_iload B X89 (pc' := 77) at_75 rfl rfl ?_
        refine s_iload B X89 (pc' := 79) at_77 rfl rfl ?_
        refine s_iand B X89 (pc' := 80) (v := (8 : Int32)) at_79 rfl rfl ?_
        refine s_iload B X89 (pc' := 82) at_80 rfl rfl ?_
        refine s_icmpY B X89 (pc' := 95) at_82 (by decide) (by decide) (by decide) ?_
        refine s_iconst B X89 (pc' := 96) (v := (1 : Int32)) at_95 rfl rfl ?_
        refine s_goto B X89 (pc' := 100) at_96 (by decide) (by decide) ?_
        refine s_istore B X89 (pc' := 102) (Ls' := #[.val (.int i0), .val (.int i1), .val (.int i2), .val (.ref w_SHARED), .val (.ref w_WRITE), .val (.ref w_SHARED), .val (.ref w_WRITE), .val (.int (15 : Int32)), .val (.int (15 : Int32)), .val (.int (8 : Int32)), .val (.int (1 : Int32)), .val (.int (1 : Int32))]) at_100 rfl rfl ?_
        refine s_iload B X89 (pc' := 104) at_102 rfl rfl ?_
        refine s_ifN B X89 (pc' := 107) at_104 (by decide) rfl ?_
        refine s_iload B X89 (pc' := 109) at_107 rfl rfl ?_
        refine s_ifN B X89 (pc' := 112) at_109 (by decide) rfl ?_
        refine s_iconst B X89 (pc' := 113) (v := (1 : Int32)) at_112 rfl rfl ?_
        refine s_goto B X89 (pc' := 117) at_113 (by decide) (by decide) ?_
        exact r_nar B X89 (t := .boolean) (by simp) rfl at_117 ⟨rfl, (Fr.nil _)⟩ (by decide) (by decide)
      · refine p_static B X82 (y := mn0) (pc' := 15) (argsL := [(.int i2)]) (under := []) (W := 0) e82 (tw0 hw) (tw1 hw) (tw3 hw) (tw2 hw) (by decide) (rm_mode1 l Z a0 hw i2 hm83 w_SHARED w_WRITE w_MEMBERSHIP w_READ Z.heap F0) (lenOf pd_0 rfl) rfl rfl (by decide) (by decide) rfl rfl (by decide) (by decide) rfl at_12 rfl (fun T90 X90 e90 => ?_)
        show Go p e below _ (T90.setTop (mkF m 15 #[.val (.int i0), .val (.int i1), .val (.int i2), .val (.ref w_SHARED), .val (.ref w_WRITE), .unset, .unset, .unset, .unset, .unset, .unset, .unset] [(.ref w_READ)]))
        refine s_astore B X90 (pc' := 17) (Ls' := #[.val (.int i0), .val (.int i1), .val (.int i2), .val (.ref w_SHARED), .val (.ref w_WRITE), .val (.ref w_READ), .unset, .unset, .unset, .unset, .unset, .unset]) at_15 rfl rfl rfl ?_
        refine s_aloadN B X90 (pc' := 18) at_17 rfl rfl rfl ?_
        refine s_aload B X90 (pc' := 20) at_18 rfl rfl rfl ?_
        refine p_virtual B X90 (y := mn1) (pc' := 23) (argsL := [(.ref w_WRITE)]) (under := []) (W := 0) e90 (tw11 hw) (tw12 hw) (tw14 hw) (tw13 hw) (tw15 hw) (tw5 hw) (by decide) (rm2_7 l Z a0 hw  w_SHARED w_WRITE w_MEMBERSHIP w_READ Z.heap F0 ) E_SHARED (lenOf pd_1 rfl) rfl rfl (by decide) (by decide) rfl rfl (by decide) (by decide) rfl at_20 rfl (fun T91 X91 e91 => ?_)
        show Go p e below _ (T91.setTop (mkF m 23 #[.val (.int i0), .val (.int i1), .val (.int i2), .val (.ref w_SHARED), .val (.ref w_WRITE), .val (.ref w_READ), .unset, .unset, .unset, .unset, .unset, .unset] [(.ref w_WRITE)]))
        refine s_astore B X91 (pc' := 25) (Ls' := #[.val (.int i0), .val (.int i1), .val (.int i2), .val (.ref w_SHARED), .val (.ref w_WRITE), .val (.ref w_READ), .val (.ref w_WRITE), .unset, .unset, .unset, .unset, .unset]) at_23 rfl rfl rfl ?_
        refine s_aload B X91 (pc' := 27) at_25 rfl rfl rfl ?_
        refine s_ifnonnullY B X91 (pc' := 32) at_27 (by decide) (by decide) ?_
        refine s_aloadN B X91 (pc' := 33) at_32 rfl rfl rfl ?_
        refine p_static B X91 (y := mn2) (pc' := 36) (argsL := [(.ref w_SHARED)]) (under := []) (W := 0) e91 (tw17 hw) (tw18 hw) (tw19 hw) (tw2 hw) (by decide) (rm3_1 l Z a0 hw  w_SHARED w_WRITE w_MEMBERSHIP w_READ Z.heap F0 ) (lenOf pd_2 rfl) rfl rfl (by decide) (by decide) rfl rfl (by decide) (by decide) rfl at_33 rfl (fun T92 X92 e92 => ?_)
        show Go p e below _ (T92.setTop (mkF m 36 #[.val (.int i0), .val (.int i1), .val (.int i2), .val (.ref w_SHARED), .val (.ref w_WRITE), .val (.ref w_READ), .val (.ref w_WRITE), .unset, .unset, .unset, .unset, .unset] [(.int (8 : Int32))]))
        refine s_aload B X92 (pc' := 38) at_36 rfl rfl rfl ?_
        refine p_static B X92 (y := mn2) (pc' := 41) (argsL := [(.ref w_WRITE)]) (under := [(.int (8 : Int32))]) (W := 1) e92 (tw17 hw) (tw18 hw) (tw19 hw) (tw2 hw) (by decide) (rm3_4 l Z a0 hw  w_SHARED w_WRITE w_MEMBERSHIP w_READ Z.heap F0 ) (lenOf pd_2 rfl) rfl rfl (by decide) (by decide) rfl rfl (by decide) (by decide) rfl at_38 rfl (fun T93 X93 e93 => ?_)
        show Go p e below _ (T93.setTop (mkF m 41 #[.val (.int i0), .val (.int i1), .val (.int i2), .val (.ref w_SHARED), .val (.ref w_WRITE), .val (.ref w_READ), .val (.ref w_WRITE), .unset, .unset, .unset, .unset, .unset] [(.int (15 : Int32)), (.int (8 : Int32))]))
        refine s_ior B X93 (pc' := 42) (v := (15 : Int32)) at_41 rfl rfl ?_
        refine s_istore B X93 (pc' := 44) (Ls' := #[.val (.int i0), .val (.int i1), .val (.int i2), .val (.ref w_SHARED), .val (.ref w_WRITE), .val (.ref w_READ), .val (.ref w_WRITE), .val (.int (15 : Int32)), .unset, .unset, .unset, .unset]) at_42 rfl rfl ?_
        refine s_aload B X93 (pc' := 46) at_44 rfl rfl rfl ?_
        refine p_static B X93 (y := mn2) (pc' := 49) (argsL := [(.ref w_WRITE)]) (under := []) (W := 0) e93 (tw17 hw) (tw18 hw) (tw19 hw) (tw2 hw) (by decide) (rm3_4 l Z a0 hw  w_SHARED w_WRITE w_MEMBERSHIP w_READ Z.heap F0 ) (lenOf pd_2 rfl) rfl rfl (by decide) (by decide) rfl rfl (by decide) (by decide) rfl at_46 rfl (fun T94 X94 e94 => ?_)
        show Go p e below _ (T94.setTop (mkF m 49 #[.val (.int i0), .val (.int i1), .val (.int i2), .val (.ref w_SHARED), .val (.ref w_WRITE), .val (.ref w_READ), .val (.ref w_WRITE), .val (.int (15 : Int32)), .unset, .unset, .unset, .unset] [(.int (15 : Int32))]))
        refine s_istore B X94 (pc' := 51) (Ls' := #[.val (.int i0), .val (.int i1), .val (.int i2), .val (.ref w_SHARED), .val (.ref w_WRITE), .val (.ref w_READ), .val (.ref w_WRITE), .val (.int (15 : Int32)), .val (.int (15 : Int32)), .unset, .unset, .unset]) at_49 rfl rfl ?_
        refine s_aload B X94 (pc' := 53) at_51 rfl rfl rfl ?_
        refine p_static B X94 (y := mn2) (pc' := 56) (argsL := [(.ref w_READ)]) (under := []) (W := 0) e94 (tw17 hw) (tw18 hw) (tw19 hw) (tw2 hw) (by decide) (rm3_2 l Z a0 hw  w_SHARED w_WRITE w_MEMBERSHIP w_READ Z.heap F0 ) (lenOf pd_2 rfl) rfl rfl (by decide) (by decide) rfl rfl (by decide) (by decide) rfl at_53 rfl (fun T95 X95 e95 => ?_)
        show Go p e below _ (T95.setTop (mkF m 56 #[.val (.int i0), .val (.int i1), .val (.int i2), .val (.ref w_SHARED), .val (.ref w_WRITE), .val (.ref w_READ), .val (.ref w_WRITE), .val (.int (15 : Int32)), .val (.int (15 : Int32)), .unset, .unset, .unset] [(.int (12 : Int32))]))
        refine s_istore B X95 (pc' := 58) (Ls' := #[.val (.int i0), .val (.int i1), .val (.int i2), .val (.ref w_SHARED), .val (.ref w_WRITE), .val (.ref w_READ), .val (.ref w_WRITE), .val (.int (15 : Int32)), .val (.int (15 : Int32)), .val (.int (12 : Int32)), .unset, .unset]) at_56 rfl rfl ?_
        refine s_iload B X95 (pc' := 60) at_58 rfl rfl ?_
        refine s_iload B X95 (pc' := 62) at_60 rfl rfl ?_
        refine s_iand B X95 (pc' := 63) (v := (15 : Int32)) at_62 rfl rfl ?_
        refine s_iload B X95 (pc' := 65) at_63 rfl rfl ?_
        refine s_icmpN B X95 (pc' := 68) at_65 (by decide) rfl ?_
        refine s_iconst B X95 (pc' := 69) (v := (1 : Int32)) at_68 rfl rfl ?_
        refine s_goto B X95 (pc' := 73) at_69 (by decide) (by decide) ?_
        refine s_istore B X95 (pc' := 75) (Ls' := #[.val (.int i0), .val (.int i1), .val (.int i2), .val (.ref w_SHARED), .val (.ref w_WRITE), .val (.ref w_READ), .val (.ref w_WRITE), .val (.int (15 : Int32)), .val (.int (15 : Int32)), .val (.int (12 : Int32)), .val (.int (1 : Int32)), .unset]) at_73 rfl rfl ?_
        refine s_iload B X95 (pc' := 77) at_75 rfl rfl ?_
        refine s_iload B X95 (pc' := 79) at_77 rfl rfl ?_
        refine s_iand B X95 (pc' := 80) (v := (12 : Int32)) at_79 rfl rfl ?_
        refine s_iload B X95 (pc' := 82) at_80 rfl rfl ?_
        refine s_icmpY B X95 (pc' := 95) at_82 (by decide) (by decide) (by decide) ?_
        refine s_iconst B X95 (pc' := 96) (v := (1 : Int32)) at_95 rfl rfl ?_
        refine s_goto B X95 (pc' := 100) at_96 (by decide) (by decide) ?_
        refine s_istore B X95 (pc' := 102) (Ls' := #[.val (.int i0), .val (.int i1), .val (.int i2), .val (.ref w_SHARED), .val (.ref w_WRITE), .val (.ref w_READ), .val (.ref w_WRITE), .val (.int (15 : Int32)), .val (.int (15 : Int32)), .val (.int (12 : Int32)), .val (.int (1 : Int32)), .val (.int (1 : Int32))]) at_100 rfl rfl ?_
        refine s_iload B X95 (pc' := 104) at_102 rfl rfl ?_
        refine s_ifN B X95 (pc' := 107) at_104 (by decide) rfl ?_
        refine s_iload B X95 (pc' := 109) at_107 rfl rfl ?_
        refine s_ifN B X95 (pc' := 112) at_109 (by decide) rfl ?_
        refine s_iconst B X95 (pc' := 113) (v := (1 : Int32)) at_112 rfl rfl ?_
        refine s_goto B X95 (pc' := 117) at_113 (by decide) (by decide) ?_
        exact r_nar B X95 (t := .boolean) (by simp) rfl at_117 ⟨rfl, (Fr.nil _)⟩ (by decide) (by decide)
      · refine p_static B X82 (y := mn0) (pc' := 15) (argsL := [(.int i2)]) (under := []) (W := 0) e82 (tw0 hw) (tw1 hw) (tw3 hw) (tw2 hw) (by decide) (rm_mode2 l Z a0 hw i2 hm83 w_SHARED w_WRITE w_MEMBERSHIP w_READ Z.heap F0) (lenOf pd_0 rfl) rfl rfl (by decide) (by decide) rfl rfl (by decide) (by decide) rfl at_12 rfl (fun T96 X96 e96 => ?_)
        show Go p e below _ (T96.setTop (mkF m 15 #[.val (.int i0), .val (.int i1), .val (.int i2), .val (.ref w_SHARED), .val (.ref w_WRITE), .unset, .unset, .unset, .unset, .unset, .unset, .unset] [(.ref w_MEMBERSHIP)]))
        refine s_astore B X96 (pc' := 17) (Ls' := #[.val (.int i0), .val (.int i1), .val (.int i2), .val (.ref w_SHARED), .val (.ref w_WRITE), .val (.ref w_MEMBERSHIP), .unset, .unset, .unset, .unset, .unset, .unset]) at_15 rfl rfl rfl ?_
        refine s_aloadN B X96 (pc' := 18) at_17 rfl rfl rfl ?_
        refine s_aload B X96 (pc' := 20) at_18 rfl rfl rfl ?_
        refine p_virtual B X96 (y := mn1) (pc' := 23) (argsL := [(.ref w_WRITE)]) (under := []) (W := 0) e96 (tw11 hw) (tw12 hw) (tw14 hw) (tw13 hw) (tw15 hw) (tw5 hw) (by decide) (rm2_7 l Z a0 hw  w_SHARED w_WRITE w_MEMBERSHIP w_READ Z.heap F0 ) E_SHARED (lenOf pd_1 rfl) rfl rfl (by decide) (by decide) rfl rfl (by decide) (by decide) rfl at_20 rfl (fun T97 X97 e97 => ?_)
        show Go p e below _ (T97.setTop (mkF m 23 #[.val (.int i0), .val (.int i1), .val (.int i2), .val (.ref w_SHARED), .val (.ref w_WRITE), .val (.ref w_MEMBERSHIP), .unset, .unset, .unset, .unset, .unset, .unset] [(.ref w_WRITE)]))
        refine s_astore B X97 (pc' := 25) (Ls' := #[.val (.int i0), .val (.int i1), .val (.int i2), .val (.ref w_SHARED), .val (.ref w_WRITE), .val (.ref w_MEMBERSHIP), .val (.ref w_WRITE), .unset, .unset, .unset, .unset, .unset]) at_23 rfl rfl rfl ?_
        refine s_aload B X97 (pc' := 27) at_25 rfl rfl rfl ?_
        refine s_ifnonnullY B X97 (pc' := 32) at_27 (by decide) (by decide) ?_
        refine s_aloadN B X97 (pc' := 33) at_32 rfl rfl rfl ?_
        refine p_static B X97 (y := mn2) (pc' := 36) (argsL := [(.ref w_SHARED)]) (under := []) (W := 0) e97 (tw17 hw) (tw18 hw) (tw19 hw) (tw2 hw) (by decide) (rm3_1 l Z a0 hw  w_SHARED w_WRITE w_MEMBERSHIP w_READ Z.heap F0 ) (lenOf pd_2 rfl) rfl rfl (by decide) (by decide) rfl rfl (by decide) (by decide) rfl at_33 rfl (fun T98 X98 e98 => ?_)
        show Go p e below _ (T98.setTop (mkF m 36 #[.val (.int i0), .val (.int i1), .val (.int i2), .val (.ref w_SHARED), .val (.ref w_WRITE), .val (.ref w_MEMBERSHIP), .val (.ref w_WRITE), .unset, .unset, .unset, .unset, .unset] [(.int (8 : Int32))]))
        refine s_aload B X98 (pc' := 38) at_36 rfl rfl rfl ?_
        refine p_static B X98 (y := mn2) (pc' := 41) (argsL := [(.ref w_WRITE)]) (under := [(.int (8 : Int32))]) (W := 1) e98 (tw17 hw) (tw18 hw) (tw19 hw) (tw2 hw) (by decide) (rm3_4 l Z a0 hw  w_SHARED w_WRITE w_MEMBERSHIP w_READ Z.heap F0 ) (lenOf pd_2 rfl) rfl rfl (by decide) (by decide) rfl rfl (by decide) (by decide) rfl at_38 rfl (fun T99 X99 e99 => ?_)
        show Go p e below _ (T99.setTop (mkF m 41 #[.val (.int i0), .val (.int i1), .val (.int i2), .val (.ref w_SHARED), .val (.ref w_WRITE), .val (.ref w_MEMBERSHIP), .val (.ref w_WRITE), .unset, .unset, .unset, .unset, .unset] [(.int (15 : Int32)), (.int (8 : Int32))]))
        refine s_ior B X99 (pc' := 42) (v := (15 : Int32)) at_41 rfl rfl ?_
        refine s_istore B X99 (pc' := 44) (Ls' := #[.val (.int i0), .val (.int i1), .val (.int i2), .val (.ref w_SHARED), .val (.ref w_WRITE), .val (.ref w_MEMBERSHIP), .val (.ref w_WRITE), .val (.int (15 : Int32)), .unset, .unset, .unset, .unset]) at_42 rfl rfl ?_
        refine s_aload B X99 (pc' := 46) at_44 rfl rfl rfl ?_
        refine p_static B X99 (y := mn2) (pc' := 49) (argsL := [(.ref w_WRITE)]) (under := []) (W := 0) e99 (tw17 hw) (tw18 hw) (tw19 hw) (tw2 hw) (by decide) (rm3_4 l Z a0 hw  w_SHARED w_WRITE w_MEMBERSHIP w_READ Z.heap F0 ) (lenOf pd_2 rfl) rfl rfl (by decide) (by decide) rfl rfl (by decide) (by decide) rfl at_46 rfl (fun T100 X100 e100 => ?_)
        show Go p e below _ (T100.setTop (mkF m 49 #[.val (.int i0), .val (.int i1), .val (.int i2), .val (.ref w_SHARED), .val (.ref w_WRITE), .val (.ref w_MEMBERSHIP), .val (.ref w_WRITE), .val (.int (15 : Int32)), .unset, .unset, .unset, .unset] [(.int (15 : Int32))]))
        refine s_istore B X100 (pc' := 51) (Ls' := #[.val (.int i0), .val (.int i1), .val (.int i2), .val (.ref w_SHARED), .val (.ref w_WRITE), .val (.ref w_MEMBERSHIP), .val (.ref w_WRITE), .val (.int (15 : Int32)), .val (.int (15 : Int32)), .unset, .unset, .unset]) at_49 rfl rfl ?_
        refine s_aload B X100 (pc' := 53) at_51 rfl rfl rfl ?_
        refine p_static B X100 (y := mn2) (pc' := 56) (argsL := [(.ref w_MEMBERSHIP)]) (under := []) (W := 0) e100 (tw17 hw) (tw18 hw) (tw19 hw) (tw2 hw) (by decide) (rm3_3 l Z a0 hw  w_SHARED w_WRITE w_MEMBERSHIP w_READ Z.heap F0 ) (lenOf pd_2 rfl) rfl rfl (by decide) (by decide) rfl rfl (by decide) (by decide) rfl at_53 rfl (fun T101 X101 e101 => ?_)
        show Go p e below _ (T101.setTop (mkF m 56 #[.val (.int i0), .val (.int i1), .val (.int i2), .val (.ref w_SHARED), .val (.ref w_WRITE), .val (.ref w_MEMBERSHIP), .val (.ref w_WRITE), .val (.int (15 : Int32)), .val (.int (15 : Int32)), .unset, .unset, .unset] [(.int (10 : Int32))]))
        refine s_istore B X101 (pc' := 58) (Ls' := #[.val (.int i0), .val (.int i1), .val (.int i2), .val (.ref w_SHARED), .val (.ref w_WRITE), .val (.ref w_MEMBERSHIP), .val (.ref w_WRITE), .val (.int (15 : Int32)), .val (.int (15 : Int32)), .val (.int (10 : Int32)), .unset, .unset]) at_56 rfl rfl ?_
        refine s_iload B X101 (pc' := 60) at_58 rfl rfl ?_
        refine s_iload B X101 (pc' := 62) at_60 rfl rfl ?_
        refine s_iand B X101 (pc' := 63) (v := (15 : Int32)) at_62 rfl rfl ?_
        refine s_iload B X101 (pc' := 65) at_63 rfl rfl ?_
        refine s_icmpN B X101 (pc' := 68) at_65 (by decide) rfl ?_
        refine s_iconst B X101 (pc' := 69) (v := (1 : Int32)) at_68 rfl rfl ?_
        refine s_goto B X101 (pc' := 73) at_69 (by decide) (by decide) ?_
        refine s_istore B X101 (pc' := 75) (Ls' := #[.val (.int i0), .val (.int i1), .val (.int i2), .val (.ref w_SHARED), .val (.ref w_WRITE), .val (.ref w_MEMBERSHIP), .val (.ref w_WRITE), .val (.int (15 : Int32)), .val (.int (15 : Int32)), .val (.int (10 : Int32)), .val (.int (1 : Int32)), .unset]) at_73 rfl rfl ?_
        refine s_iload B X101 (pc' := 77) at_75 rfl rfl ?_
        refine s_iload B X101 (pc' := 79) at_77 rfl rfl ?_
        refine s_iand B X101 (pc' := 80) (v := (10 : Int32)) at_79 rfl rfl ?_
        refine s_iload B X101 (pc' := 82) at_80 rfl rfl ?_
        refine s_icmpY B X101 (pc' := 95) at_82 (by decide) (by decide) (by decide) ?_
        refine s_iconst B X101 (pc' := 96) (v := (1 : Int32)) at_95 rfl rfl ?_
        refine s_goto B X101 (pc' := 100) at_96 (by decide) (by decide) ?_
        refine s_istore B X101 (pc' := 102) (Ls' := #[.val (.int i0), .val (.int i1), .val (.int i2), .val (.ref w_SHARED), .val (.ref w_WRITE), .val (.ref w_MEMBERSHIP), .val (.ref w_WRITE), .val (.int (15 : Int32)), .val (.int (15 : Int32)), .val (.int (10 : Int32)), .val (.int (1 : Int32)), .val (.int (1 : Int32))]) at_100 rfl rfl ?_
        refine s_iload B X101 (pc' := 104) at_102 rfl rfl ?_
        refine s_ifN B X101 (pc' := 107) at_104 (by decide) rfl ?_
        refine s_iload B X101 (pc' := 109) at_107 rfl rfl ?_
        refine s_ifN B X101 (pc' := 112) at_109 (by decide) rfl ?_
        refine s_iconst B X101 (pc' := 113) (v := (1 : Int32)) at_112 rfl rfl ?_
        refine s_goto B X101 (pc' := 117) at_113 (by decide) (by decide) ?_
        exact r_nar B X101 (t := .boolean) (by simp) rfl at_117 ⟨rfl, (Fr.nil _)⟩ (by decide) (by decide)
      · refine p_static B X82 (y := mn0) (pc' := 15) (argsL := [(.int i2)]) (under := []) (W := 0) e82 (tw0 hw) (tw1 hw) (tw3 hw) (tw2 hw) (by decide) (rm_mode3 l Z a0 hw i2 hm83 w_SHARED w_WRITE w_MEMBERSHIP w_READ Z.heap F0) (lenOf pd_0 rfl) rfl rfl (by decide) (by decide) rfl rfl (by decide) (by decide) rfl at_12 rfl (fun T102 X102 e102 => ?_)
        show Go p e below _ (T102.setTop (mkF m 15 #[.val (.int i0), .val (.int i1), .val (.int i2), .val (.ref w_SHARED), .val (.ref w_WRITE), .unset, .unset, .unset, .unset, .unset, .unset, .unset] [(.ref w_WRITE)]))
        refine s_astore B X102 (pc' := 17) (Ls' := #[.val (.int i0), .val (.int i1), .val (.int i2), .val (.ref w_SHARED), .val (.ref w_WRITE), .val (.ref w_WRITE), .unset, .unset, .unset, .unset, .unset, .unset]) at_15 rfl rfl rfl ?_
        refine s_aloadN B X102 (pc' := 18) at_17 rfl rfl rfl ?_
        refine s_aload B X102 (pc' := 20) at_18 rfl rfl rfl ?_
        refine p_virtual B X102 (y := mn1) (pc' := 23) (argsL := [(.ref w_WRITE)]) (under := []) (W := 0) e102 (tw11 hw) (tw12 hw) (tw14 hw) (tw13 hw) (tw15 hw) (tw5 hw) (by decide) (rm2_7 l Z a0 hw  w_SHARED w_WRITE w_MEMBERSHIP w_READ Z.heap F0 ) E_SHARED (lenOf pd_1 rfl) rfl rfl (by decide) (by decide) rfl rfl (by decide) (by decide) rfl at_20 rfl (fun T103 X103 e103 => ?_)
        show Go p e below _ (T103.setTop (mkF m 23 #[.val (.int i0), .val (.int i1), .val (.int i2), .val (.ref w_SHARED), .val (.ref w_WRITE), .val (.ref w_WRITE), .unset, .unset, .unset, .unset, .unset, .unset] [(.ref w_WRITE)]))
        refine s_astore B X103 (pc' := 25) (Ls' := #[.val (.int i0), .val (.int i1), .val (.int i2), .val (.ref w_SHARED), .val (.ref w_WRITE), .val (.ref w_WRITE), .val (.ref w_WRITE), .unset, .unset, .unset, .unset, .unset]) at_23 rfl rfl rfl ?_
        refine s_aload B X103 (pc' := 27) at_25 rfl rfl rfl ?_
        refine s_ifnonnullY B X103 (pc' := 32) at_27 (by decide) (by decide) ?_
        refine s_aloadN B X103 (pc' := 33) at_32 rfl rfl rfl ?_
        refine p_static B X103 (y := mn2) (pc' := 36) (argsL := [(.ref w_SHARED)]) (under := []) (W := 0) e103 (tw17 hw) (tw18 hw) (tw19 hw) (tw2 hw) (by decide) (rm3_1 l Z a0 hw  w_SHARED w_WRITE w_MEMBERSHIP w_READ Z.heap F0 ) (lenOf pd_2 rfl) rfl rfl (by decide) (by decide) rfl rfl (by decide) (by decide) rfl at_33 rfl (fun T104 X104 e104 => ?_)
        show Go p e below _ (T104.setTop (mkF m 36 #[.val (.int i0), .val (.int i1), .val (.int i2), .val (.ref w_SHARED), .val (.ref w_WRITE), .val (.ref w_WRITE), .val (.ref w_WRITE), .unset, .unset, .unset, .unset, .unset] [(.int (8 : Int32))]))
        refine s_aload B X104 (pc' := 38) at_36 rfl rfl rfl ?_
        refine p_static B X104 (y := mn2) (pc' := 41) (argsL := [(.ref w_WRITE)]) (under := [(.int (8 : Int32))]) (W := 1) e104 (tw17 hw) (tw18 hw) (tw19 hw) (tw2 hw) (by decide) (rm3_4 l Z a0 hw  w_SHARED w_WRITE w_MEMBERSHIP w_READ Z.heap F0 ) (lenOf pd_2 rfl) rfl rfl (by decide) (by decide) rfl rfl (by decide) (by decide) rfl at_38 rfl (fun T105 X105 e105 => ?_)
        show Go p e below _ (T105.setTop (mkF m 41 #[.val (.int i0), .val (.int i1), .val (.int i2), .val (.ref w_SHARED), .val (.ref w_WRITE), .val (.ref w_WRITE), .val (.ref w_WRITE), .unset, .unset, .unset, .unset, .unset] [(.int (15 : Int32)), (.int (8 : Int32))]))
        refine s_ior B X105 (pc' := 42) (v := (15 : Int32)) at_41 rfl rfl ?_
        refine s_istore B X105 (pc' := 44) (Ls' := #[.val (.int i0), .val (.int i1), .val (.int i2), .val (.ref w_SHARED), .val (.ref w_WRITE), .val (.ref w_WRITE), .val (.ref w_WRITE), .val (.int (15 : Int32)), .unset, .unset, .unset, .unset]) at_42 rfl rfl ?_
        refine s_aload B X105 (pc' := 46) at_44 rfl rfl rfl ?_
        refine p_static B X105 (y := mn2) (pc' := 49) (argsL := [(.ref w_WRITE)]) (under := []) (W := 0) e105 (tw17 hw) (tw18 hw) (tw19 hw) (tw2 hw) (by decide) (rm3_4 l Z a0 hw  w_SHARED w_WRITE w_MEMBERSHIP w_READ Z.heap F0 ) (lenOf pd_2 rfl) rfl rfl (by decide) (by decide) rfl rfl (by decide) (by decide) rfl at_46 rfl (fun T106 X106 e106 => ?_)
        show Go p e below _ (T106.setTop (mkF m 49 #[.val (.int i0), .val (.int i1), .val (.int i2), .val (.ref w_SHARED), .val (.ref w_WRITE), .val (.ref w_WRITE), .val (.ref w_WRITE), .val (.int (15 : Int32)), .unset, .unset, .unset, .unset] [(.int (15 : Int32))]))
        refine s_istore B X106 (pc' := 51) (Ls' := #[.val (.int i0), .val (.int i1), .val (.int i2), .val (.ref w_SHARED), .val (.ref w_WRITE), .val (.ref w_WRITE), .val (.ref w_WRITE), .val (.int (15 : Int32)), .val (.int (15 : Int32)), .unset, .unset, .unset]) at_49 rfl rfl ?_
        refine s_aload B X106 (pc' := 53) at_51 rfl rfl rfl ?_
        refine p_static B X106 (y := mn2) (pc' := 56) (argsL := [(.ref w_WRITE)]) (under := []) (W := 0) e106 (tw17 hw) (tw18 hw) (tw19 hw) (tw2 hw) (by decide) (rm3_4 l Z a0 hw  w_SHARED w_WRITE w_MEMBERSHIP w_READ Z.heap F0 ) (lenOf pd_2 rfl) rfl rfl (by decide) (by decide) rfl rfl (by decide) (by decide) rfl at_53 rfl (fun T107 X107 e107 => ?_)
        show Go p e below _ (T107.setTop (mkF m 56 #[.val (.int i0), .val (.int i1), .val (.int i2), .val (.ref w_SHARED), .val (.ref w_WRITE), .val (.ref w_WRITE), .val (.ref w_WRITE), .val (.int (15 : Int32)), .val (.int (15 : Int32)), .unset, .unset, .unset] [(.int (15 : Int32))]))
        refine s_istore B X107 (pc' := 58) (Ls' := #[.val (.int i0), .val (.int i1), .val (.int i2), .val (.ref w_SHARED), .val (.ref w_WRITE), .val (.ref w_WRITE), .val (.ref w_WRITE), .val (.int (15 : Int32)), .val (.int (15 : Int32)), .val (.int (15 : Int32)), .unset, .unset]) at_56 rfl rfl ?_
        refine s_iload B X107 (pc' := 60) at_58 rfl rfl ?_
        refine s_iload B X107 (pc' := 62) at_60 rfl rfl ?_
        refine s_iand B X107 (pc' := 63) (v := (15 : Int32)) at_62 rfl rfl ?_
        refine s_iload B X107 (pc' := 65) at_63 rfl rfl ?_
        refine s_icmpN B X107 (pc' := 68) at_65 (by decide) rfl ?_
        refine s_iconst B X107 (pc' := 69) (v := (1 : Int32)) at_68 rfl rfl ?_
        refine s_goto B X107 (pc' := 73) at_69 (by decide) (by decide) ?_
        refine s_istore B X107 (pc' := 75) (Ls' := #[.val (.int i0), .val (.int i1), .val (.int i2), .val (.ref w_SHARED), .val (.ref w_WRITE), .val (.ref w_WRITE), .val (.ref w_WRITE), .val (.int (15 : Int32)), .val (.int (15 : Int32)), .val (.int (15 : Int32)), .val (.int (1 : Int32)), .unset]) at_73 rfl rfl ?_
        refine s_iload B X107 (pc' := 77) at_75 rfl rfl ?_
        refine s_iload B X107 (pc' := 79) at_77 rfl rfl ?_
        refine s_iand B X107 (pc' := 80) (v := (15 : Int32)) at_79 rfl rfl ?_
        refine s_iload B X107 (pc' := 82) at_80 rfl rfl ?_
        refine s_icmpN B X107 (pc' := 85) at_82 (by decide) rfl ?_
        refine s_iload B X107 (pc' := 87) at_85 rfl rfl ?_
        refine s_iload B X107 (pc' := 89) at_87 rfl rfl ?_
        refine s_iand B X107 (pc' := 90) (v := (15 : Int32)) at_89 rfl rfl ?_
        refine s_iload B X107 (pc' := 92) at_90 rfl rfl ?_
        refine s_icmpN B X107 (pc' := 95) at_92 (by decide) rfl ?_
        refine s_iconst B X107 (pc' := 96) (v := (1 : Int32)) at_95 rfl rfl ?_
        refine s_goto B X107 (pc' := 100) at_96 (by decide) (by decide) ?_
        refine s_istore B X107 (pc' := 102) (Ls' := #[.val (.int i0), .val (.int i1), .val (.int i2), .val (.ref w_SHARED), .val (.ref w_WRITE), .val (.ref w_WRITE), .val (.ref w_WRITE), .val (.int (15 : Int32)), .val (.int (15 : Int32)), .val (.int (15 : Int32)), .val (.int (1 : Int32)), .val (.int (1 : Int32))]) at_100 rfl rfl ?_
        refine s_iload B X107 (pc' := 104) at_102 rfl rfl ?_
        refine s_ifN B X107 (pc' := 107) at_104 (by decide) rfl ?_
        refine s_iload B X107 (pc' := 109) at_107 rfl rfl ?_
        refine s_ifN B X107 (pc' := 112) at_109 (by decide) rfl ?_
        refine s_iconst B X107 (pc' := 113) (v := (1 : Int32)) at_112 rfl rfl ?_
        refine s_goto B X107 (pc' := 117) at_113 (by decide) (by decide) ?_
        exact r_nar B X107 (t := .boolean) (by simp) rfl at_117 ⟨rfl, (Fr.nil _)⟩ (by decide) (by decide)
  · refine p_static B X0 (y := mn0) (pc' := 4) (argsL := [(.int i0)]) (under := []) (W := 0) e0 (tw0 hw) (tw1 hw) (tw3 hw) (tw2 hw) (by decide) (rm_mode1 l Z a0 hw i0 hm1 w_SHARED w_WRITE w_MEMBERSHIP w_READ Z.heap F0) (lenOf pd_0 rfl) rfl rfl (by decide) (by decide) rfl rfl (by decide) (by decide) rfl at_1 rfl (fun T108 X108 e108 => ?_)
    show Go p e below _ (T108.setTop (mkF m 4 #[.val (.int i0), .val (.int i1), .val (.int i2), .unset, .unset, .unset, .unset, .unset, .unset, .unset, .unset, .unset] [(.ref w_READ)]))
    refine s_astoreN B X108 (pc' := 5) (Ls' := #[.val (.int i0), .val (.int i1), .val (.int i2), .val (.ref w_READ), .unset, .unset, .unset, .unset, .unset, .unset, .unset, .unset]) at_4 rfl rfl rfl ?_
    refine s_iloadN B X108 (pc' := 6) at_5 rfl rfl ?_
    rcases own_and3 i1 with hm109 | hm109 | hm109 | hm109
    · refine p_static B X108 (y := mn0) (pc' := 9) (argsL := [(.int i1)]) (under := []) (W := 0) e108 (tw0 hw) (tw1 hw) (tw3 hw) (tw2 hw) (by decide) (rm_mode0 l Z a0 hw i1 hm109 w_SHARED w_WRITE w_MEMBERSHIP w_READ Z.heap F0) (lenOf pd_0 rfl) rfl rfl (by decide) (by decide) rfl rfl (by decide) (by decide) rfl at_6 rfl (fun T110 X110 e110 => ?_)
      show Go p e below _ (T110.setTop (mkF m 9 #[.val (.int i0), .val (.int i1), .val (.int i2), .val (.ref w_READ), .unset, .unset, .unset, .unset, .unset, .unset, .unset, .unset] [(.ref w_SHARED)]))
      refine s_astore B X110 (pc' := 11) (Ls' := #[.val (.int i0), .val (.int i1), .val (.int i2), .val (.ref w_READ), .val (.ref w_SHARED), .unset, .unset, .unset, .unset, .unset, .unset, .unset]) at_9 rfl rfl rfl ?_
      refine s_iloadN B X110 (pc' := 12) at_11 rfl rfl ?_
      rcases own_and3 i2 with hm111 | hm111 | hm111 | hm111
      · refine p_static B X110 (y := mn0) (pc' := 15) (argsL := [(.int i2)]) (under := []) (W := 0) e110 (tw0 hw) (tw1 hw) (tw3 hw) (tw2 hw) (by decide) (rm_mode0 l Z a0 hw i2 hm111 w_SHARED w_WRITE w_MEMBERSHIP w_READ Z.heap F0) (lenOf pd_0 rfl) rfl rfl (by decide) (by decide) rfl rfl (by decide) (by decide) rfl at_12 rfl (fun T112 X112 e112 => ?_)
        show Go p e below _ (T112.setTop (mkF m 15 #[.val (.int i0), .val (.int i1), .val (.int i2), .val (.ref w_READ), .val (.ref w_SHARED), .unset, .unset, .unset, .unset, .unset, .unset, .unset] [(.ref w_SHARED)]))
        refine s_astore B X112 (pc' := 17) (Ls' := #[.val (.int i0), .val (.int i1), .val (.int i2), .val (.ref w_READ), .val (.ref w_SHARED), .val (.ref w_SHARED), .unset, .unset, .unset, .unset, .unset, .unset]) at_15 rfl rfl rfl ?_
        refine s_aloadN B X112 (pc' := 18) at_17 rfl rfl rfl ?_
        refine s_aload B X112 (pc' := 20) at_18 rfl rfl rfl ?_
        refine p_virtual B X112 (y := mn1) (pc' := 23) (argsL := [(.ref w_SHARED)]) (under := []) (W := 0) e112 (tw11 hw) (tw12 hw) (tw14 hw) (tw13 hw) (tw15 hw) (tw5 hw) (by decide) (rm2_8 l Z a0 hw  w_SHARED w_WRITE w_MEMBERSHIP w_READ Z.heap F0 ) E_READ (lenOf pd_1 rfl) rfl rfl (by decide) (by decide) rfl rfl (by decide) (by decide) rfl at_20 rfl (fun T113 X113 e113 => ?_)
        show Go p e below _ (T113.setTop (mkF m 23 #[.val (.int i0), .val (.int i1), .val (.int i2), .val (.ref w_READ), .val (.ref w_SHARED), .val (.ref w_SHARED), .unset, .unset, .unset, .unset, .unset, .unset] [(.ref w_READ)]))
        refine s_astore B X113 (pc' := 25) (Ls' := #[.val (.int i0), .val (.int i1), .val (.int i2), .val (.ref w_READ), .val (.ref w_SHARED), .val (.ref w_SHARED), .val (.ref w_READ), .unset, .unset, .unset, .unset, .unset]) at_23 rfl rfl rfl ?_
        refine s_aload B X113 (pc' := 27) at_25 rfl rfl rfl ?_
        refine s_ifnonnullY B X113 (pc' := 32) at_27 (by decide) (by decide) ?_
        refine s_aloadN B X113 (pc' := 33) at_32 rfl rfl rfl ?_
        refine p_static B X113 (y := mn2) (pc' := 36) (argsL := [(.ref w_READ)]) (under := []) (W := 0) e113 (tw17 hw) (tw18 hw) (tw19 hw) (tw2 hw) (by decide) (rm3_2 l Z a0 hw  w_SHARED w_WRITE w_MEMBERSHIP w_READ Z.heap F0 ) (lenOf pd_2 rfl) rfl rfl (by decide) (by decide) rfl rfl (by decide) (by decide) rfl at_33 rfl (fun T114 X114 e114 => ?_)
        show Go p e below _ (T114.setTop (mkF m 36 #[.val (.int i0), .val (.int i1), .val (.int i2), .val (.ref w_READ), .val (.ref w_SHARED), .val (.ref w_SHARED), .val (.ref w_READ), .unset, .unset, .unset, .unset, .unset] [(.int (12 : Int32))]))
        refine s_aload B X114 (pc' := 38) at_36 rfl rfl rfl ?_
        refine p_static B X114 (y := mn2) (pc' := 41) (argsL := [(.ref w_SHARED)]) (under := [(.int (12 : Int32))]) (W := 1) e114 (tw17 hw) (tw18 hw) (tw19 hw) (tw2 hw) (by decide) (rm3_1 l Z a0 hw  w_SHARED w_WRITE w_MEMBERSHIP w_READ Z.heap F0 ) (lenOf pd_2 rfl) rfl rfl (by decide) (by decide) rfl rfl (by decide) (by decide) rfl at_38 rfl (fun T115 X115 e115 => ?_)
        show Go p e below _ (T115.setTop (mkF m 41 #[.val (.int i0), .val (.int i1), .val (.int i2), .val (.ref w_READ), .val (.ref w_SHARED), .val (.ref w_SHARED), .val (.ref w_READ), .unset, .unset, .unset, .unset, .unset] [(.int (8 : Int32)), (.int (12 : Int32))]))
        refine s_ior B X115 (pc' := 42) (v := (12 : Int32)) at_41 rfl rfl ?_
        refine s_istore B X115 (pc' := 44) (Ls' := #[.val (.int i0), .val (.int i1), .val (.int i2), .val (.ref w_READ), .val (.ref w_SHARED), .val (.ref w_SHARED), .val (.ref w_READ), .val (.int (12 : Int32)), .unset, .unset, .unset, .unset]) at_42 rfl rfl ?_
        refine s_aload B X115 (pc' := 46) at_44 rfl rfl rfl ?_
        refine p_static B X115 (y := mn2) (pc' := 49) (argsL := [(.ref w_READ)]) (under := []) (W := 0) e115 (tw17 hw) (tw18 hw) (tw19 hw) (tw2 hw) (by decide) (rm3_2 l Z a0 hw  w_SHARED w_WRITE w_MEMBERSHIP w_READ Z.heap F0 ) (lenOf pd_2 rfl) rfl rfl (by decide) (by decide) rfl rfl (by decide) (by decide) rfl at_46 rfl (fun T116 X116 e116 => ?_)
        show Go p e below _ (T116.setTop (mkF m 49 #[.val (.int i0), .val (.int i1), .val (.int i2), .val (.ref w_READ), .val (.ref w_SHARED), .val (.ref w_SHARED), .val (.ref w_READ), .val (.int (12 : Int32)), .unset, .unset, .unset, .unset] [(.int (12 : Int32))]))
        refine s_istore B X116 (pc' := 51) (Ls' := #[.val (.int i0), .val (.int i1), .val (.int i2), .val (.ref w_READ), .val (.ref w_SHARED), .val (.ref w_SHARED), .val (.ref w_READ), .val (.int (12 : Int32)), .val (.int (12 : Int32)), .unset, .unset, .unset]) at_49 rfl rfl ?_
        refine s_aload B X116 (pc' := 53) at_51 rfl rfl rfl ?_
        refine p_static B X116 (y := mn2) (pc' := 56) (argsL := [(.ref w_SHARED)]) (under := []) (W := 0) e116 (tw17 hw) (tw18 hw) (tw19 hw) (tw2 hw) (by decide) (rm3_1 l Z a0 hw  w_SHARED w_WRITE w_MEMBERSHIP w_READ Z.heap F0 ) (lenOf pd_2 rfl) rfl rfl (by decide) (by decide) rfl rfl (by decide) (by decide) rfl at_53 rfl (fun T117 X117 e117 => ?_)
        show Go p e below _ (T117.setTop (mkF m 56 #[.val (.int i0), .val (.int i1), .val (.int i2), .val (.ref w_READ), .val (.ref w_SHARED), .val (.ref w_SHARED), .val (.ref w_READ), .val (.int (12 : Int32)), .val (.int (12 : Int32)), .unset, .unset, .unset] [(.int (8 : Int32))]))
        refine s_istore B X117 (pc' := 58) (Ls' := #[.val (.int i0), .val (.int i1), .val (.int i2), .val (.ref w_READ), .val (.ref w_SHARED), .val (.ref w_SHARED), .val (.ref w_READ), .val (.int (12 : Int32)), .val (.int (12 : Int32)), .val (.int (8 : Int32)), .unset, .unset]) at_56 rfl rfl ?_
        refine s_iload B X117 (pc' := 60) at_58 rfl rfl ?_
        refine s_iload B X117 (pc' := 62) at_60 rfl rfl ?_
        refine s_iand B X117 (pc' := 63) (v := (12 : Int32)) at_62 rfl rfl ?_
        refine s_iload B X117 (pc' := 65) at_63 rfl rfl ?_
        refine s_icmpN B X117 (pc' := 68) at_65 (by decide) rfl ?_
        refine s_iconst B X117 (pc' := 69) (v := (1 : Int32)) at_68 rfl rfl ?_
        refine s_goto B X117 (pc' := 73) at_69 (by decide) (by decide) ?_
        refine s_istore B X117 (pc' := 75) (Ls' := #[.val (.int i0), .val (.int i1), .val (.int i2), .val (.ref w_READ), .val (.ref w_SHARED), .val (.ref w_SHARED), .val (.ref w_READ), .val (.int (12 : Int32)), .val (.int (12 : Int32)), .val (.int (8 : Int32)), .val (.int (1 : Int32)), .unset]) at_73 rfl rfl ?_
        refine s_iload B X117 (pc' := 77) at_75 rfl rfl ?_
        refine s_iload B X117 (pc' := 79) at_77 rfl rfl ?_
        refine s_iand B X117 (pc' := 80) (v := (8 : Int32)) at_79 rfl rfl ?_
        refine s_iload B X117 (pc' := 82) at_80 rfl rfl ?_
        refine s_icmpY B X117 (pc' := 95) at_82 (by decide) (by decide) (by decide) ?_
        refine s_iconst B X117 (pc' := 96) (v := (1 : Int32)) at_95 rfl rfl ?_
        refine s_goto B X117 (pc' := 100) at_96 (by decide) (by decide) ?_
        refine s_istore B X117 (pc' := 102) (Ls' := #[.val (.int i0), .val (.int i1), .val (.int i2), .val (.ref w_READ), .val (.ref w_SHARED), .val (.ref w_SHARED), .val (.ref w_READ), .val (.int (12 : Int32)), .val (.int (12 : Int32)), .val (.int (8 : Int32)), .val (.int (1 : Int32)), .val (.int (1 : Int32))]) at_100 rfl rfl ?_
        refine s_iload B X117 (pc' := 104) at_102 rfl rfl ?_
        refine s_ifN B X117 (pc' := 107) at_104 (by decide) rfl ?_
        refine s_iload B X117 (pc' := 109) at_107 rfl rfl ?_
        refine s_ifN B X117 (pc' := 112) at_109 (by decide) rfl ?_
        refine s_iconst B X117 (pc' := 113) (v := (1 : Int32)) at_112 rfl rfl ?_
        refine s_goto B X117 (pc' := 117) at_113 (by decide) (by decide) ?_
        exact r_nar B X117 (t := .boolean) (by simp) rfl at_117 ⟨rfl, (Fr.nil _)⟩ (by decide) (by decide)
      · refine p_static B X110 (y := mn0) (pc' := 15) (argsL := [(.int i2)]) (under := []) (W := 0) e110 (tw0 hw) (tw1 hw) (tw3 hw) (tw2 hw) (by decide) (rm_mode1 l Z a0 hw i2 hm111 w_SHARED w_WRITE w_MEMBERSHIP w_READ Z.heap F0) (lenOf pd_0 rfl) rfl rfl (by decide) (by decide) rfl rfl (by decide) (by decide) rfl at_12 rfl (fun T118 X118 e118 => ?_)
        show Go p e below _ (T118.setTop (mkF m 15 #[.val (.int i0), .val (.int i1), .val (.int i2), .val (.ref w_READ), .val (.ref w_SHARED), .unset, .unset, .unset, .unset, .unset, .unset, .unset] [(.ref w_READ)]))
        refine s_astore B X118 (pc' := 17) (Ls' := #[.val (.int i0), .val (.int i1), .val (.int i2), .val (.ref w_READ), .val (.ref w_SHARED), .val (.ref w_READ), .unset, .unset, .unset, .unset, .unset, .unset]) at_15 rfl rfl rfl ?_
        refine s_aloadN B X118 (pc' := 18) at_17 rfl rfl rfl ?_
        refine s_aload B X118 (pc' := 20) at_18 rfl rfl rfl ?_
        refine p_virtual B X118 (y := mn1) (pc' := 23) (argsL := [(.ref w_SHARED)]) (under := []) (W := 0) e118 (tw11 hw) (tw12 hw) (tw14 hw) (tw13 hw) (tw15 hw) (tw5 hw) (by decide) (rm2_8 l Z a0 hw  w_SHARED w_WRITE w_MEMBERSHIP w_READ Z.heap F0 ) E_READ (lenOf pd_1 rfl) rfl rfl (by decide) (by decide) rfl rfl (by decide) (by decide) rfl at_20 rfl (fun T119 X119 e119 => ?_)
        show Go p e below _ (T119.setTop (mkF m 23 #[.val (.int i0), .val (.int i1), .val (.int i2), .val (.ref w_READ), .val (.ref w_SHARED), .val (.ref w_READ), .unset, .unset, .unset, .unset, .unset, .unset] [(.ref w_READ)]))
        refine s_astore B X119 (pc' := 25) (Ls' := #[.val (.int i0), .val (.int i1), .val (.int i2), .val (.ref w_READ), .val (.ref w_SHARED), .val (.ref w_READ), .val (.ref w_READ), .unset, .unset, .unset, .unset, .unset]) at_23 rfl rfl rfl ?_
        refine s_aload B X119 (pc' := 27) at_25 rfl rfl rfl ?_
        refine s_ifnonnullY B X119 (pc' := 32) at_27 (by decide) (by decide) ?_
        refine s_aloadN B X119 (pc' := 33) at_32 rfl rfl rfl ?_
        refine p_static B X119 (y := mn2) (pc' := 36) (argsL := [(.ref w_READ)]) (under := []) (W := 0) e119 (tw17 hw) (tw18 hw) (tw19 hw) (tw2 hw) (by decide) (rm3_2 l Z a0 hw  w_SHARED w_WRITE w_MEMBERSHIP w_READ Z.heap F0 ) (lenOf pd_2 rfl) rfl rfl (by decide) (by decide) rfl rfl (by decide) (by decide) rfl at_33 rfl (fun T120 X120 e120 => ?_)
        show Go p e below _ (T120.setTop (mkF m 36 #[.val (.int i0), .val (.int i1), .val (.int i2), .val (.ref w_READ), .val (.ref w_SHARED), .val (.ref w_READ), .val (.ref w_READ), .unset, .unset, .unset, .unset, .unset] [(.int (12 : Int32))]))
        refine s_aload B X120 (pc' := 38) at_36 rfl rfl rfl ?_
        refine p_static B X120 (y := mn2) (pc' := 41) (argsL := [(.ref w_SHARED)]) (under := [(.int (12 : Int32))]) (W := 1) e120 (tw17 hw) (tw18 hw) (tw19 hw) (tw2 hw) (by decide) (rm3_1 l Z a0 hw  w_SHARED w_WRITE w_MEMBERSHIP w_READ Z.heap F0 ) (lenOf pd_2 rfl) rfl rfl (by decide) (by decide) rfl rfl (by decide) (by decide) rfl at_38 rfl (fun T121 X121 e121 => ?_)
        show Go p e below _ (T121.setTop (mkF m 41 #[.val (.int i0), .val (.int i1), .val (.int i2), .val (.ref w_READ), .val (.ref w_SHARED), .val (.ref w_READ), .val (.ref w_READ), .unset, .unset, .unset, .unset, .unset] [(.int (8 : Int32)), (.int (12 : Int32))]))
        refine s_ior B X121 (pc' := 42) (v := (12 : Int32)) at_41 rfl rfl ?_
        refine s_istore B X121 (pc' := 44) (Ls' := #[.val (.int i0), .val (.int i1), .val (.int i2), .val (.ref w_READ), .val (.ref w_SHARED), .val (.ref w_READ), .val (.ref w_READ), .val (.int (12 : Int32)), .unset, .unset, .unset, .unset]) at_42 rfl rfl ?_
        refine s_aload B X121 (pc' := 46) at_44 rfl rfl rfl ?_
        refine p_static B X121 (y := mn2) (pc' := 49) (argsL := [(.ref w_READ)]) (under := []) (W := 0) e121 (tw17 hw) (tw18 hw) (tw19 hw) (tw2 hw) (by decide) (rm3_2 l Z a0 hw  w_SHARED w_WRITE w_MEMBERSHIP w_READ Z.heap F0 ) (lenOf pd_2 rfl) rfl rfl (by decide) (by decide) rfl rfl (by decide) (by decide) rfl at_46 rfl (fun T122 X122 e122 => ?_)
        show Go p e below _ (T122.setTop (mkF m 49 #[.val (.int i0), .val (.int i1), .val (.int i2), .val (.ref w_READ), .val (.ref w_SHARED), .val (.ref w_READ), .val (.ref w_READ), .val (.int (12 : Int32)), .unset, .unset, .unset, .unset] [(.int (12 : Int32))]))
        refine s_istore B X122 (pc' := 51) (Ls' := #[.val (.int i0), .val (.int i1), .val (.int i2), .val (.ref w_READ), .val (.ref w_SHARED), .val (.ref w_READ), .val (.ref w_READ), .val (.int (12 : Int32)), .val (.int (12 : Int32)), .unset, .unset, .unset]) at_49 rfl rfl ?_
        refine s_aload B X122 (pc' := 53) at_51 rfl rfl rfl ?_
        refine p_static B X122 (y := mn2) (pc' := 56) (argsL := [(.ref w_READ)]) (under := []) (W := 0) e122 (tw17 hw) (tw18 hw) (tw19 hw) (tw2 hw) (by decide) (rm3_2 l Z a0 hw  w_SHARED w_WRITE w_MEMBERSHIP w_READ Z.heap F0 ) (lenOf pd_2 rfl) rfl rfl (by decide) (by decide) rfl rfl (by decide) (by decide) rfl at_53 rfl (fun T123 X123 e123 => ?_)
        show Go p e below _ (T123.setTop (mkF m 56 #[.val (.int i0), .val (.int i1), .val (.int i2), .val (.ref w_READ), .val (.ref w_SHARED), .val (.ref w_READ), .val (.ref w_READ), .val (.int (12 : Int32)), .val (.int (12 : Int32)), .unset, .unset, .unset] [(.int (12 : Int32))]))
        refine s_istore B X123 (pc' := 58) (Ls' := #[.val (.int i0), .val (.int i1), .val (.int i2), .val (.ref w_READ), .val (.ref w_SHARED), .val (.ref w_READ), .val (.ref w_READ), .val (.int (12 : Int32)), .val (.int (12 : Int32)), .val (.int (12 : Int32)), .unset, .unset]) at_56 rfl rfl ?_
        refine s_iload B X123 (pc' := 60) at_58 rfl rfl ?_
        refine s_iload B X123 (pc' := 62) at_60 rfl rfl ?_
        refine s_iand B X123 (pc' := 63) (v := (12 : Int32)) at_62 rfl rfl ?_
        refine s_iload B X123 (pc' := 65) at_63 rfl rfl ?_
        refine s_icmpN B X123 (pc' := 68) at_65 (by decide) rfl ?_
        refine s_iconst B X123 (pc' := 69) (v := (1 : Int32)) at_68 rfl rfl ?_
        refine s_goto B X123 (pc' := 73) at_69 (by decide) (by decide) ?_
        refine s_istore B X123 (pc' := 75) (Ls' := #[.val (.int i0), .val (.int i1), .val (.int i2), .val (.ref w_READ), .val (.ref w_SHARED), .val (.ref w_READ), .val (.ref w_READ), .val (.int (12 : Int32)), .val (.int (12 : Int32)), .val (.int (12 : Int32)), .val (.int (1 : Int32)), .unset]) at_73 rfl rfl ?_
        refine s_iload B X123 (pc' := 77) at_75 rfl rfl ?_
        refine s_iload B X123 (pc' := 79) at_77 rfl rfl ?_
        refine s_iand B X123 (pc' := 80) (v := (12 : Int32)) at_79 rfl rfl ?_
        refine s_iload B X123 (pc' := 82) at_80 rfl rfl ?_
        refine s_icmpN B X123 (pc' := 85) at_82 (by decide) rfl ?_
        refine s_iload B X123 (pc' := 87) at_85 rfl rfl ?_
        refine s_iload B X123 (pc' := 89) at_87 rfl rfl ?_
        refine s_iand B X123 (pc' := 90) (v := (12 : Int32)) at_89 rfl rfl ?_
        refine s_iload B X123 (pc' := 92) at_90 rfl rfl ?_
        refine s_icmpN B X123 (pc' := 95) at_92 (by decide) rfl ?_
        refine s_iconst B X123 (pc' := 96) (v := (1 : Int32)) at_95 rfl rfl ?_
        refine s_goto B X123 (pc' := 100) at_96 (by decide) (by decide) ?_
        refine s_istore B X123 (pc' := 102) (Ls' := #[.val (.int i0), .val (.int i1), .val (.int i2), .val (.ref w_READ), .val (.ref w_SHARED), .val (.ref w_READ), .val (.ref w_READ), .val (.int (12 : Int32)), .val (.int (12 : Int32)), .val (.int (12 : Int32)), .val (.int (1 : Int32)), .val (.int (1 : Int32))]) at_100 rfl rfl ?_
        refine s_iload B X123 (pc' := 104) at_102 rfl rfl ?_
        refine s_ifN B X123 (pc' := 107) at_104 (by decide) rfl ?_
        refine s_iload B X123 (pc' := 109) at_107 rfl rfl ?_
        refine s_ifN B X123 (pc' := 112) at_109 (by decide) rfl ?_
        refine s_iconst B X123 (pc' := 113) (v := (1 : Int32)) at_112 rfl rfl ?_
        refine s_goto B X123 (pc' := 117) at_113 (by decide) (by decide) ?_
        exact r_nar B X123 (t := .boolean) (by simp) rfl at_117 ⟨rfl, (Fr.nil _)⟩ (by decide) (by decide)
      · refine p_static B X110 (y := mn0) (pc' := 15) (argsL := [(.int i2)]) (under := []) (W := 0) e110 (tw0 hw) (tw1 hw) (tw3 hw) (tw2 hw) (by decide) (rm_mode2 l Z a0 hw i2 hm111 w_SHARED w_WRITE w_MEMBERSHIP w_READ Z.heap F0) (lenOf pd_0 rfl) rfl rfl (by decide) (by decide) rfl rfl (by decide) (by decide) rfl at_12 rfl (fun T124 X124 e124 => ?_)
        show Go p e below _ (T124.setTop (mkF m 15 #[.val (.int i0), .val (.int i1), .val (.int i2), .val (.ref w_READ), .val (.ref w_SHARED), .unset, .unset, .unset, .unset, .unset, .unset, .unset] [(.ref w_MEMBERSHIP)]))
        refine s_astore B X124 (pc' := 17) (Ls' := #[.val (.int i0), .val (.int i1), .val (.int i2), .val (.ref w_READ), .val (.ref w_SHARED), .val (.ref w_MEMBERSHIP), .unset, .unset, .unset, .unset, .unset, .unset]) at_15 rfl rfl rfl ?_
        refine s_aloadN B X124 (pc' := 18) at_17 rfl rfl rfl ?_
        refine s_aload B X124 (pc' := 20) at_18 rfl rfl rfl ?_
        refine p_virtual B X124 (y := mn1) (pc' := 23) (argsL := [(.ref w_SHARED)]) (under := []) (W := 0) e124 (tw11 hw) (tw12 hw) (tw14 hw) (tw13 hw) (tw15 hw) (tw5 hw) (by decide) (rm2_8 l Z a0 hw  w_SHARED w_WRITE w_MEMBERSHIP w_READ Z.heap F0 ) E_READ (lenOf pd_1 rfl) rfl rfl (by decide) (by decide) rfl rfl (by decide) (by decide) rfl at_20 rfl (fun T125 X125 e125 => ?_)
        show Go p e below _ (T125.setTop (mkF m 23 #[.val (.int i0), .val (.int i1), .val (.int i2), .val (.ref w_READ), .val (.ref w_SHARED), .val (.ref w_MEMBERSHIP), .unset, .unset, .unset, .unset, .unset, .unset] [(.ref w_READ)]))
        refine s_astore B X125 (pc' := 25) (Ls' := #[.val (.int i0), .val (.int i1), .val (.int i2), .val (.ref w_READ), .val (.ref w_SHARED), .val (.ref w_MEMBERSHIP), .val (.ref w_READ), .unset, .unset, .unset, .unset, .unset]) at_23 rfl rfl rfl ?_
        refine s_aload B X125 (pc' := 27) at_25 rfl rfl rfl ?_
        refine s_ifnonnullY B X125 (pc' := 32) at_27 (by decide) (by decide) ?_
        refine s_aloadN B X125 (pc' := 33) at_32 rfl rfl rfl ?_
        refine p_static B X125 (y := mn2) (pc' := 36) (argsL := [(.ref w_READ)]) (under := []) (W := 0) e125 (tw17 hw) (tw18 hw) (tw19 hw) (tw2 hw) (by decide) (rm3_2 l Z a0 hw  w_SHARED w_WRITE w_MEMBERSHIP w_READ Z.heap F0 ) (lenOf pd_2 rfl) rfl rfl (by decide) (by decide) rfl rfl (by decide) (by decide) rfl at_33 rfl (fun T126 X126 e126 => ?_)
        show Go p e below _ (T126.setTop (mkF m 36 #[.val (.int i0), .val (.int i1), .val (.int i2), .val (.ref w_READ), .val (.ref w_SHARED), .val (.ref w_MEMBERSHIP), .val (.ref w_READ), .unset, .unset, .unset, .unset, .unset] [(.int (12 : Int32))]))
        refine s_aload B X126 (pc' := 38) at_36 rfl rfl rfl ?_
        refine p_static B X126 (y := mn2) (pc' := 41) (argsL := [(.ref w_SHARED)]) (under := [(.int (12 : Int32))]) (W := 1) e126 (tw17 hw) (tw18 hw) (tw19 hw) (tw2 hw) (by decide) (rm3_1 l Z a0 hw  w_SHARED w_WRITE w_MEMBERSHIP w_READ Z.heap F0 ) (lenOf pd_2 rfl) rfl rfl (by decide) (by decide) rfl rfl (by decide) (by decide) rfl at_38 rfl (fun T127 X127 e127 => ?_)
        show Go p e below _ (T127.setTop (mkF m 41 #[.val (.int i0), .val (.int i1), .val (.int i2), .val (.ref w_READ), .val (.ref w_SHARED), .val (.ref w_MEMBERSHIP), .val (.ref w_READ), .unset, .unset, .unset, .unset, .unset] [(.int (8 : Int32)), (.int (12 : Int32))]))
        refine s_ior B X127 (pc' := 42) (v := (12 : Int32)) at_41 rfl rfl ?_
        refine s_istore B X127 (pc' := 44) (Ls' := #[.val (.int i0), .val (.int i1), .val (.int i2), .val (.ref w_READ), .val (.ref w_SHARED), .val (.ref w_MEMBERSHIP), .val (.ref w_READ), .val (.int (12 : Int32)), .unset, .unset, .unset, .unset]) at_42 rfl rfl ?_
        refine s_aload B X127 (pc' := 46) at_44 rfl rfl rfl ?_
        refine p_static B X127 (y := mn2) (pc' := 49) (argsL := [(.ref w_READ)]) (under := []) (W := 0) e127 (tw17 hw) (tw18 hw) (tw19 hw) (tw2 hw) (by decide) (rm3_2 l Z a0 hw  w_SHARED w_WRITE w_MEMBERSHIP w_READ Z.heap F0 ) (lenOf pd_2 rfl) rfl rfl (by decide) (by decide) rfl rfl (by decide) (by decide) rfl at_46 rfl (fun T128 X128 e128 => ?_)
        show Go p e below _ (T128.setTop (mkF m 49 #[.val (.int i0), .val (.int i1), .val (.int i2), .val (.ref w_READ), .val (.ref w_SHARED), .val (.ref w_MEMBERSHIP), .val (.ref w_READ), .val (.int (12 : Int32)), .unset, .unset, .unset, .unset] [(.int (12 : Int32))]))
        refine s_istore B X128 (pc' := 51) (Ls' := #[.val (.int i0), .val (.int i1), .val (.int i2), .val (.ref w_READ), .val (.ref w_SHARED), .val (.ref w_MEMBERSHIP), .val (.ref w_READ), .val (.int (12 : Int32)), .val (.int (12 : Int32)), .unset, .unset, .unset]) at_49 rfl rfl ?_
        refine s_aload B X128 (pc' := 53) at_51 rfl rfl rfl ?_
        refine p_static B X128 (y := mn2) (pc' := 56) (argsL := [(.ref w_MEMBERSHIP)]) (under := []) (W := 0) e128 (tw17 hw) (tw18 hw) (tw19 hw) (tw2 hw) (by decide) (rm3_3 l Z a0 hw  w_SHARED w_WRITE w_MEMBERSHIP w_READ Z.heap F0 ) (lenOf pd_2 rfl) rfl rfl (by decide) (by decide) rfl rfl (by decide) (by decide) rfl at_53 rfl (fun T129 X129 e129 => ?_)
        show Go p e below _ (T129.setTop (mkF m 56 #[.val (.int i0), .val (.int i1), .val (.int i2), .val (.ref w_READ), .val (.ref w_SHARED), .val (.ref w_MEMBERSHIP), .val (.ref w_READ), .val (.int (12 : Int32)), .val (.int (12 : Int32)), .unset, .unset, .unset] [(.int (10 : Int32))]))
        refine s_istore B X129 (pc' := 58) (Ls' := #[.val (.int i0), .val (.int i1), .val (.int i2), .val (.ref w_READ), .val (.ref w_SHARED), .val (.ref w_MEMBERSHIP), .val (.ref w_READ), .val (.int (12 : Int32)), .val (.int (12 : Int32)), .val (.int (10 : Int32)), .unset, .unset]) at_56 rfl rfl ?_
        refine s_iload B X129 (pc' := 60) at_58 rfl rfl ?_
        refine s_iload B X129 (pc' := 62) at_60 rfl rfl ?_
        refine s_iand B X129 (pc' := 63) (v := (12 : Int32)) at_62 rfl rfl ?_
        refine s_iload B X129 (pc' := 65) at_63 rfl rfl ?_
        refine s_icmpN B X129 (pc' := 68) at_65 (by decide) rfl ?_
        refine s_iconst B X129 (pc' := 69) (v := (1 : Int32)) at_68 rfl rfl ?_
        refine s_goto B X129 (pc' := 73) at_69 (by decide) (by decide) ?_
        refine s_istore B X129 (pc' := 75) (Ls' := #[.val (.int i0), .val (.int i1), .val (.int i2), .val (.ref w_READ), .val (.ref w_SHARED), .val (.ref w_MEMBERSHIP), .val (.ref w_READ), .val (.int (12 : Int32)), .val (.int (12 : Int32)), .val (.int (10 : Int32)), .val (.int (1 : Int32)), .unset]) at_73 rfl rfl ?_
        refine s_iload B X129 (pc' := 77) at_75 rfl rfl ?_
        refine s_iload B X129 (pc' := 79) at_77 rfl rfl ?_
        refine s_iand B X129 (pc' := 80) (v := (8 : Int32)) at_79 rfl rfl ?_
        refine s_iload B X129 (pc' := 82) at_80 rfl rfl ?_
        refine s_icmpY B X129 (pc' := 95) at_82 (by decide) (by decide) (by decide) ?_
        refine s_iconst B X129 (pc' := 96) (v := (1 : Int32)) at_95 rfl rfl ?_
        refine s_goto B X129 (pc' := 100) at_96 (by decide) (by decide) ?_
        refine s_istore B X129 (pc' := 102) (Ls' := #[.val (.int i0), .val (.int i1), .val (.int i2), .val (.ref w_READ), .val (.ref w_SHARED), .val (.ref w_MEMBERSHIP), .val (.ref w_READ), .val (.int (12 : Int32)), .val (.int (12 : Int32)), .val (.int (10 : Int32)), .val (.int (1 : Int32)), .val (.int (1 : Int32))]) at_100 rfl rfl ?_
        refine s_iload B X129 (pc' := 104) at_102 rfl rfl ?_
        refine s_ifN B X129 (pc' := 107) at_104 (by decide) rfl ?_
        refine s_iload B X129 (pc' := 109) at_107 rfl rfl ?_
        refine s_ifN B X129 (pc' := 112) at_109 (by decide) rfl ?_
        refine s_iconst B X129 (pc' := 113) (v := (1 : Int32)) at_112 rfl rfl ?_
        refine s_goto B X129 (pc' := 117) at_113 (by decide) (by decide) ?_
        exact r_nar B X129 (t := .boolean) (by simp) rfl at_117 ⟨rfl, (Fr.nil _)⟩ (by decide) (by decide)
      · refine p_static B X110 (y := mn0) (pc' := 15) (argsL := [(.int i2)]) (under := []) (W := 0) e110 (tw0 hw) (tw1 hw) (tw3 hw) (tw2 hw) (by decide) (rm_mode3 l Z a0 hw i2 hm111 w_SHARED w_WRITE w_MEMBERSHIP w_READ Z.heap F0) (lenOf pd_0 rfl) rfl rfl (by decide) (by decide) rfl rfl (by decide) (by decide) rfl at_12 rfl (fun T130 X130 e130 => ?_)
        show Go p e below _ (T130.setTop (mkF m 15 #[.val (.int i0), .val (.int i1), .val (.int i2), .val (.ref w_READ), .val (.ref w_SHARED), .unset, .unset, .unset, .unset, .unset, .unset, .unset] [(.ref w_WRITE)]))
        refine s_astore B X130 (pc' := 17) (Ls' := #[.val (.int i0), .val (.int i1), .val (.int i2), .val (.ref w_READ), .val (.ref w_SHARED), .val (.ref w_WRITE), .unset, .unset, .unset, .unset, .unset, .unset]) at_15 rfl rfl rfl ?_
        refine s_aloadN B X130 (pc' := 18) at_17 rfl rfl rfl ?_
        refine s_aload B X130 (pc' := 20) at_18 rfl rfl rfl ?_
        refine p_virtual B X130 (y := mn1) (pc' := 23) (argsL := [(.ref w_SHARED)]) (under := []) (W := 0) e130 (tw11 hw) (tw12 hw) (tw14 hw) (tw13 hw) (tw15 hw) (tw5 hw) (by decide) (rm2_8 l Z a0 hw  w_SHARED w_WRITE w_MEMBERSHIP w_READ Z.heap F0 ) E_READ (lenOf pd_1 rfl) rfl rfl (by decide) (by decide) rfl rfl (by decide) (by decide) rfl at_20 rfl (fun T131 X131 e131 => ?_)
        show Go p e below _ (T131.setTop (mkF m 23 #[.val (.int i0), .val (.int i1), .val (.int i2), .val (.ref w_READ), .val (.ref w_SHARED), .val (.ref w_WRITE), .unset, .unset, .unset, .unset, .unset, .unset] [(.ref w_READ)]))
        refine s_astore B X131 (pc' := 25) (Ls' := #[.val (.int i0), .val (.int i1), .val (.int i2), .val (.ref w_READ), .val (.ref w_SHARED), .val (.ref w_WRITE), .val (.ref w_READ), .unset, .unset, .unset, .unset, .unset]) at_23 rfl rfl rfl ?_
        refine s_aload B X131 (pc' := 27) at_25 rfl rfl rfl ?_
        refine s_ifnonnullY B X131 (pc' := 32) at_27 (by decide) (by decide) ?_
        refine s_aloadN B X131 (pc' := 33) at_32 rfl rfl rfl ?_
        refine p_static B X131 (y := mn2) (pc' := 36) (argsL := [(.ref w_READ)]) (under := []) (W := 0) e131 (tw17 hw) (tw18 hw) (tw19 hw) (tw2 hw) (by decide) (rm3_2 l Z a0 hw  w_SHARED w_WRITE w_MEMBERSHIP w_READ Z.heap F0 ) (lenOf pd_2 rfl) rfl rfl (by decide) (by decide) rfl rfl (by decide) (by decide) rfl at_33 rfl (fun T132 X132 e132 => ?_)
        show Go p e below _ (T132.setTop (mkF m 36 #[.val (.int i0), .val (.int i1), .val (.int i2), .val (.ref w_READ), .val (.ref w_SHARED), .val (.ref w_WRITE), .val (.ref w_READ), .unset, .unset, .unset, .unset, .unset] [(.int (12 : Int32))]))
        refine s_aload B X132 (pc' := 38) at_36 rfl rfl rfl ?_
        refine p_static B X132 (y := mn2) (pc' := 41) (argsL := [(.ref w_SHARED)]) (under := [(.int (12 : Int32))]) (W := 1) e132 (tw17 hw) (tw18 hw) (tw19 hw) (tw2 hw) (by decide) (rm3_1 l Z a0 hw  w_SHARED w_WRITE w_MEMBERSHIP w_READ Z.heap F0 ) (lenOf pd_2 rfl) rfl rfl (by decide) (by decide) rfl rfl (by decide) (by decide) rfl at_38 rfl (fun T133 X133 e133 => ?_)
        show Go p e below _ (T133.setTop (mkF m 41 #[.val (.int i0), .val (.int i1), .val (.int i2), .val (.ref w_READ), .val (.ref w_SHARED), .val (.ref w_WRITE), .val (.ref w_READ), .unset, .unset, .unset, .unset, .unset] [(.int (8 : Int32)), (.int (12 : Int32))]))
        refine s_ior B X133 (pc' := 42) (v := (12 : Int32)) at_41 rfl rfl ?_
        refine s_istore B X133 (pc' := 44) (Ls' := #[.val (.int i0), .val (.int i1), .val (.int i2), .val (.ref w_READ), .val (.ref w_SHARED), .val (.ref w_WRITE), .val (.ref w_READ), .val (.int (12 : Int32)), .unset, .unset, .unset, .unset]) at_42 rfl rfl ?_
        refine s_aload B X133 (pc' := 46) at_44 rfl rfl rfl ?_
        refine p_static B X133 (y := mn2) (pc' := 49) (argsL := [(.ref w_READ)]) (under := []) (W := 0) e133 (tw17 hw) (tw18 hw) (tw19 hw) (tw2 hw) (by decide) (rm3_2 l Z a0 hw  w_SHARED w_WRITE w_MEMBERSHIP w_READ Z.heap F0 ) (lenOf pd_2 rfl) rfl rfl (by decide) (by decide) rfl rfl (by decide) (by decide) rfl at_46 rfl (fun T134 X134 e134 => ?_)
        show Go p e below _ (T134.setTop (mkF m 49 #[.val (.int i0), .val (.int i1), .val (.int i2), .val (.ref w_READ), .val (.ref w_SHARED), .val (.ref w_WRITE), .val (.ref w_READ), .val (.int (12 : Int32)), .unset, .unset, .unset, .unset] [(.int (12 : Int32))]))
        refine s_istore B X134 (pc' := 51) (Ls' := #[.val (.int i0), .val (.int i1), .val (.int i2), .val (.ref w_READ), .val (.ref w_SHARED), .val (.ref w_WRITE), .val (.ref w_READ), .val (.int (12 : Int32)), .val (.int (12 : Int32)), .unset, .unset, .unset]) at_49 rfl rfl ?_
        refine s_aload B X134 (pc' := 53) at_51 rfl rfl rfl ?_
        refine p_static B X134 (y := mn2) (pc' := 56) (argsL := [(.ref w_WRITE)]) (under := []) (W := 0) e134 (tw17 hw) (tw18 hw) (tw19 hw) (tw2 hw) (by decide) (rm3_4 l Z a0 hw  w_SHARED w_WRITE w_MEMBERSHIP w_READ Z.heap F0 ) (lenOf pd_2 rfl) rfl rfl (by decide) (by decide) rfl rfl (by decide) (by decide) rfl at_53 rfl (fun T135 X135 e135 => ?_)
        show Go p e below _ (T135.setTop (mkF m 56 #[.val (.int i0), .val (.int i1), .val (.int i2), .val (.ref w_READ), .val (.ref w_SHARED), .val (.ref w_WRITE), .val (.ref w_READ), .val (.int (12 : Int32)), .val (.int (12 : Int32)), .unset, .unset, .unset] [(.int (15 : Int32))]))
        refine s_istore B X135 (pc' := 58) (Ls' := #[.val (.int i0), .val (.int i1), .val (.int i2), .val (.ref w_READ), .val (.ref w_SHARED), .val (.ref w_WRITE), .val (.ref w_READ), .val (.int (12 : Int32)), .val (.int (12 : Int32)), .val (.int (15 : Int32)), .unset, .unset]) at_56 rfl rfl ?_
        refine s_iload B X135 (pc' := 60) at_58 rfl rfl ?_
        refine s_iload B X135 (pc' := 62) at_60 rfl rfl ?_
        refine s_iand B X135 (pc' := 63) (v := (12 : Int32)) at_62 rfl rfl ?_
        refine s_iload B X135 (pc' := 65) at_63 rfl rfl ?_
        refine s_icmpN B X135 (pc' := 68) at_65 (by decide) rfl ?_
        refine s_iconst B X135 (pc' := 69) (v := (1 : Int32)) at_68 rfl rfl ?_
        refine s_goto B X135 (pc' := 73) at_69 (by decide) (by decide) ?_
        refine s_istore B X135 (pc' := 75) (Ls' := #[.val (.int i0), .val (.int i1), .val (.int i2), .val (.ref w_READ), .val (.ref w_SHARED), .val (.ref w_WRITE), .val (.ref w_READ), .val (.int (12 : Int32)), .val (.int (12 : Int32)), .val (.int (15 : Int32)), .val (.int (1 : Int32)), .unset]) at_73 rfl rfl ?_
        refine s_iload B X135 (pc' := 77) at_75 rfl rfl ?_
        refine s_iload B X135 (pc' := 79) at_77 rfl rfl ?_
        refine s_iand B X135 (pc' := 80) (v := (12 : Int32)) at_79 rfl rfl ?_
        refine s_iload B X135 (pc' := 82) at_80 rfl rfl ?_
        refine s_icmpN B X135 (pc' := 85) at_82 (by decide) rfl ?_
        refine s_iload B X135 (pc' := 87) at_85 rfl rfl ?_
        refine s_iload B X135 (pc' := 89) at_87 rfl rfl ?_
        refine s_iand B X135 (pc' := 90) (v := (12 : Int32)) at_89 rfl rfl ?_
        refine s_iload B X135 (pc' := 92) at_90 rfl rfl ?_
        refine s_icmpN B X135 (pc' := 95) at_92 (by decide) rfl ?_
        refine s_iconst B X135 (pc' := 96) (v := (1 : Int32)) at_95 rfl rfl ?_
        refine s_goto B X135 (pc' := 100) at_96 (by decide) (by decide) ?_
        refine s_istore B X135 (pc' := 102) (Ls' := #[.val (.int i0), .val (.int i1), .val (.int i2), .val (.ref w_READ), .val (.ref w_SHARED), .val (.ref w_WRITE), .val (.ref w_READ), .val (.int (12 : Int32)), .val (.int (12 : Int32)), .val (.int (15 : Int32)), .val (.int (1 : Int32)), .val (.int (1 : Int32))]) at_100 rfl rfl ?_
        refine s_iload B X135 (pc' := 104) at_102 rfl rfl ?_
        refine s_ifN B X135 (pc' := 107) at_104 (by decide) rfl ?_
        refine s_iload B X135 (pc' := 109) at_107 rfl rfl ?_
        refine s_ifN B X135 (pc' := 112) at_109 (by decide) rfl ?_
        refine s_iconst B X135 (pc' := 113) (v := (1 : Int32)) at_112 rfl rfl ?_
        refine s_goto B X135 (pc' := 117) at_113 (by decide) (by decide) ?_
        exact r_nar B X135 (t := .boolean) (by simp) rfl at_117 ⟨rfl, (Fr.nil _)⟩ (by decide) (by decide)
    · refine p_static B X108 (y := mn0) (pc' := 9) (argsL := [(.int i1)]) (under := []) (W := 0) e108 (tw0 hw) (tw1 hw) (tw3 hw) (tw2 hw) (by decide) (rm_mode1 l Z a0 hw i1 hm109 w_SHARED w_WRITE w_MEMBERSHIP w_READ Z.heap F0) (lenOf pd_0 rfl) rfl rfl (by decide) (by decide) rfl rfl (by decide) (by decide) rfl at_6 rfl (fun T136 X136 e136 => ?_)
      show Go p e below _ (T136.setTop (mkF m 9 #[.val (.int i0), .val (.int i1), .val (.int i2), .val (.ref w_READ), .unset, .unset, .unset, .unset, .unset, .unset, .unset, .unset] [(.ref w_READ)]))
      refine s_astore B X136 (pc' := 11) (Ls' := #[.val (.int i0), .val (.int i1), .val (.int i2), .val (.ref w_READ), .val (.ref w_READ), .unset, .unset, .unset, .unset, .unset, .unset, .unset]) at_9 rfl rfl rfl ?_
      refine s_iloadN B X136 (pc' := 12) at_11 rfl rfl ?_
      rcases own_and3 i2 with hm137 | hm137 | hm137 | hm137
      · refine p_static B X136 (y := mn0) (pc' := 15) (argsL := [(.int i2)]) (under := []) (W := 0) e136 (tw0 hw) (tw1 hw) (tw3 hw) (tw2 hw) (by decide) (rm_mode0 l Z a0 hw i2 hm137 w_SHARED w_WRITE w_MEMBERSHIP w_READ Z.heap F0) (lenOf pd_0 rfl) rfl rfl (by decide) (by decide) rfl rfl (by decide) (by decide) rfl at_12 rfl (fun T138 X138 e138 => ?_)
        show Go p e below _ (T138.setTop (mkF m 15 #[.val (.int i0), .val (.int i1), .val (.int i2), .val (.ref w_READ), .val (.ref w_READ), .unset, .unset, .unset, .unset, .unset, .unset, .unset] [(.ref w_SHARED)]))
        refine s_astore B X138 (pc' := 17) (Ls' := #[.val (.int i0), .val (.int i1), .val (.int i2), .val (.ref w_READ), .val (.ref w_READ), .val (.ref w_SHARED), .unset, .unset, .unset, .unset, .unset, .unset]) at_15 rfl rfl rfl ?_
        refine s_aloadN B X138 (pc' := 18) at_17 rfl rfl rfl ?_
        refine s_aload B X138 (pc' := 20) at_18 rfl rfl rfl ?_
        refine p_virtual B X138 (y := mn1) (pc' := 23) (argsL := [(.ref w_READ)]) (under := []) (W := 0) e138 (tw11 hw) (tw12 hw) (tw14 hw) (tw13 hw) (tw15 hw) (tw5 hw) (by decide) (rm2_9 l Z a0 hw  w_SHARED w_WRITE w_MEMBERSHIP w_READ Z.heap F0 ) E_READ (lenOf pd_1 rfl) rfl rfl (by decide) (by decide) rfl rfl (by decide) (by decide) rfl at_20 rfl (fun T139 X139 e139 => ?_)
        show Go p e below _ (T139.setTop (mkF m 23 #[.val (.int i0), .val (.int i1), .val (.int i2), .val (.ref w_READ), .val (.ref w_READ), .val (.ref w_SHARED), .unset, .unset, .unset, .unset, .unset, .unset] [(.ref w_READ)]))
        refine s_astore B X139 (pc' := 25) (Ls' := #[.val (.int i0), .val (.int i1), .val (.int i2), .val (.ref w_READ), .val (.ref w_READ), .val (.ref w_SHARED), .val (.ref w_READ), .unset, .unset, .unset, .unset, .unset]) at_23 rfl rfl rfl ?_
        refine s_aload B X139 (pc' := 27) at_25 rfl rfl rfl ?_
        refine s_ifnonnullY B X139 (pc' := 32) at_27 (by decide) (by decide) ?_
        refine s_aloadN B X139 (pc' := 33) at_32 rfl rfl rfl ?_
        refine p_static B X139 (y := mn2) (pc' := 36) (argsL := [(.ref w_READ)]) (under := []) (W := 0) e139 (tw17 hw) (tw18 hw) (tw19 hw) (tw2 hw) (by decide) (rm3_2 l Z a0 hw  w_SHARED w_WRITE w_MEMBERSHIP w_READ Z.heap F0 ) (lenOf pd_2 rfl) rfl rfl (by decide) (by decide) rfl rfl (by decide) (by decide) rfl at_33 rfl (fun T140 X140 e140 => ?_)
        show Go p e below _ (T140.setTop (mkF m 36 #[.val (.int i0), .val (.int i1), .val (.int i2), .val (.ref w_READ), .val (.ref w_READ), .val (.ref w_SHARED), .val (.ref w_READ), .unset, .unset, .unset, .unset, .unset] [(.int (12 : Int32))]))
        refine s_aload B X140 (pc' := 38) at_36 rfl rfl rfl ?_
        refine p_static B X140 (y := mn2) (pc' := 41) (argsL := [(.ref w_READ)]) (under := [(.int (12 : Int32))]) (W := 1) e140 (tw17 hw) (tw18 hw) (tw19 hw) (tw2 hw) (by decide) (rm3_2 l Z a0 hw  w_SHARED w_WRITE w_MEMBERSHIP w_READ Z.heap F0 ) (lenOf pd_2 rfl) rfl rfl (by decide) (by decide) rfl rfl (by decide) (by decide) rfl at_38 rfl (fun T141 X141 e141 => ?_)
        show Go p e below _ (T141.setTop (mkF m 41 #[.val (.int i0), .val (.int i1), .val (.int i2), .val (.ref w_READ), .val (.ref w_READ), .val (.ref w_SHARED), .val (.ref w_READ), .unset, .unset, .unset, .unset, .unset] [(.int (12 : Int32)), (.int (12 : Int32))]))
        refine s_ior B X141 (pc' := 42) (v := (12 : Int32)) at_41 rfl rfl ?_
        refine s_istore B X141 (pc' := 44) (Ls' := #[.val (.int i0), .val (.int i1), .val (.int i2), .val (.ref w_READ), .val (.ref w_READ), .val (.ref w_SHARED), .val (.ref w_READ), .val (.int (12 : Int32)), .unset, .unset, .unset, .unset]) at_42 rfl rfl ?_
        refine s_aload B X141 (pc' := 46) at_44 rfl rfl rfl ?_
        refine p_static B X141 (y := mn2) (pc' := 49) (argsL := [(.ref w_READ)]) (under := []) (W := 0) e141 (tw17 hw) (tw18 hw) (tw19 hw) (tw2 hw) (by decide) (rm3_2 l Z a0 hw  w_SHARED w_WRITE w_MEMBERSHIP w_READ Z.heap F0 ) (lenOf pd_2 rfl) rfl rfl (by decide) (by decide) rfl rfl (by decide) (by decide) rfl at_46 rfl (fun T142 X142 e142 => ?_)
        show Go p e below _ (T142.setTop (mkF m 49 #[.val (.int i0), .val (.int i1), .val (.int i2), .val (.ref w_READ), .val (.ref w_READ), .val (.ref w_SHARED), .val (.ref w_READ), .val (.int (12 : Int32)), .unset, .unset, .unset, .unset] [(.int (12 : Int32))]))
        refine s_istore B X142 (pc' := 51) (Ls' := #[.val (.int i0), .val (.int i1), .val (.int i2), .val (.ref w_READ), .val (.ref w_READ), .val (.ref w_SHARED), .val (.ref w_READ), .val (.int (12 : Int32)), .val (.int (12 : Int32)), .unset, .unset, .unset]) at_49 rfl rfl ?_
        refine s_aload B X142 (pc' := 53) at_51 rfl rfl rfl ?_
        refine p_static B X142 (y := mn2) (pc' := 56) (argsL := [(.ref w_SHARED)]) (under := []) (W := 0) e142 (tw17 hw) (tw18 hw) (tw19 hw) (tw2 hw) (by decide) (rm3_1 l Z a0 hw  w_SHARED w_WRITE w_MEMBERSHIP w_READ Z.heap F0 ) (lenOf pd_2 rfl) rfl rfl (by decide) (by decide) rfl rfl (by decide) (by decide) rfl at_53 rfl (fun T143 X143 e143 => ?_)
        show Go p e below _ (T143.setTop (mkF m 56 #[.val (.int i0), .val (.int i1), .val (.int i2), .val (.ref w_READ), .val (.ref w_READ), .val (.ref w_SHARED), .val (.ref w_READ), .val (.int (12 : Int32)), .val (.int (12 : Int32)), .unset, .unset, .unset] [(.int (8 : Int32))]))
        refine s_istore B X143 (pc' := 58) (Ls' := #[.val (.int i0), .val (.int i1), .val (.int i2), .val (.ref w_READ), .val (.ref w_READ), .val (.ref w_SHARED), .val (.ref w_READ), .val (.int (12 : Int32)), .val (.int (12 : Int32)), .val (.int (8 : Int32)), .unset, .unset]) at_56 rfl rfl ?_
        refine s_iload B X143 (pc' := 60) at_58 rfl rfl ?_
        refine s_iload B X143 (pc' := 62) at_60 rfl rfl ?_
        refine s_iand B X143 (pc' := 63) (v := (12 : Int32)) at_62 rfl rfl ?_
        refine s_iload B X143 (pc' := 65) at_63 rfl rfl ?_
        refine s_icmpN B X143 (pc' := 68) at_65 (by decide) rfl ?_
        refine s_iconst B X143 (pc' := 69) (v := (1 : Int32)) at_68 rfl rfl ?_
        refine s_goto B X143 (pc' := 73) at_69 (by decide) (by decide) ?_
        refine s_istore B X143 (pc' := 75) (Ls' := #[.val (.int i0), .val (.int i1), .val (.int i2), .val (.ref w_READ), .val (.ref w_READ), .val (.ref w_SHARED), .val (.ref w_READ), .val (.int (12 : Int32)), .val (.int (12 : Int32)), .val (.int (8 : Int32)), .val (.int (1 : Int32)), .unset]) at_73 rfl rfl ?_
        refine s_iload B X143 (pc' := 77) at_75 rfl rfl ?_
        refine s_iload B X143 (pc' := 79) at_77 rfl rfl ?_
        refine s_iand B X143 (pc' := 80) (v := (8 : Int32)) at_79 rfl rfl ?_
        refine s_iload B X143 (pc' := 82) at_80 rfl rfl ?_
        refine s_icmpY B X143 (pc' := 95) at_82 (by decide) (by decide) (by decide) ?_
        refine s_iconst B X143 (pc' := 96) (v := (1 : Int32)) at_95 rfl rfl ?_
        refine s_goto B X143 (pc' := 100) at_96 (by decide) (by decide) ?_
        refine s_istore B X143 (pc' := 102) (Ls' := #[.val (.int i0), .val (.int i1), .val (.int i2), .val (.ref w_READ), .val (.ref w_READ), .val (.ref w_SHARED), .val (.ref w_READ), .val (.int (12 : Int32)), .val (.int (12 : Int32)), .val (.int (8 : Int32)), .val (.int (1 : Int32)), .val (.int (1 : Int32))]) at_100 rfl rfl ?_
        refine s_iload B X143 (pc' := 104) at_102 rfl rfl ?_
        refine s_ifN B X143 (pc' := 107) at_104 (by decide) rfl ?_
        refine s_iload B X143 (pc' := 109) at_107 rfl rfl ?_
        refine s_ifN B X143 (pc' := 112) at_109 (by decide) rfl ?_
        refine s_iconst B X143 (pc' := 113) (v := (1 : Int32)) at_112 rfl rfl ?_
        refine s_goto B X143 (pc' := 117) at_113 (by decide) (by decide) ?_
        exact r_nar B X143 (t := .boolean) (by simp) rfl at_117 ⟨rfl, (Fr.nil _)⟩ (by decide) (by decide)
      · refine p_static B X136 (y := mn0) (pc' := 15) (argsL := [(.int i2)]) (under := []) (W := 0) e136 (tw0 hw) (tw1 hw) (tw3 hw) (tw2 hw) (by decide) (rm_mode1 l Z a0 hw i2 hm137 w_SHARED w_WRITE w_MEMBERSHIP w_READ Z.heap F0) (lenOf pd_0 rfl) rfl rfl (by decide) (by decide) rfl rfl (by decide) (by decide) rfl at_12 rfl (fun T144 X144 e144 => ?_)
        show Go p e below _ (T144.setTop (mkF m 15 #[.val (.int i0), .val (.int i1), .val (.int i2), .val (.ref w_READ), .val (.ref w_READ), .unset, .unset, .unset, .unset, .unset, .unset, .unset] [(.ref w_READ)]))
        refine s_astore B X144 (pc' := 17) (Ls' := #[.val (.int i0), .val (.int i1), .val (.int i2), .val (.ref w_READ), .val (.ref w_READ), .val (.ref w_READ), .unset, .unset, .unset, .unset, .unset, .unset]) at_15 rfl rfl rfl ?_
        refine s_aloadN B X144 (pc' := 18) at_17 rfl rfl rfl ?_
        refine s_aload B X144 (pc' := 20) at_18 rfl rfl rfl ?_
        refine p_virtual B X144 (y := mn1) (pc' := 23) (argsL := [(.ref w_READ)]) (under := []) (W := 0) e144 (tw11 hw) (tw12 hw) (tw14 hw) (tw13 hw) (tw15 hw) (tw5 hw) (by decide) (rm2_9 l Z a0 hw  w_SHARED w_WRITE w_MEMBERSHIP w_READ Z.heap F0 ) E_READ (lenOf pd_1 rfl) rfl rfl (by decide) (by decide) rfl rfl (by decide) (by decide) rfl at_20 rfl (fun T145 X145 e145 => ?_)
        show Go p e below _ (T145.setTop (mkF m 23 #[.val (.int i0), .val (.int i1), .val (.int i2), .val (.ref w_READ), .val (.ref w_READ), .val (.ref w_READ), .unset, .unset, .unset, .unset, .unset, .unset] [(.ref w_READ)]))
        refine s_astore B X145 (pc' := 25) (Ls' := #[.val (.int i0), .val (.int i1), .val (.int i2), .val (.ref w_READ), .val (.ref w_READ), .val (.ref w_READ), .val (.ref w_READ), .unset, .unset, .unset, .unset, .unset]) at_23 rfl rfl rfl ?_
        refine s_aload B X145 (pc' := 27) at_25 rfl rfl rfl ?_
        refine s_ifnonnullY B X145 (pc' := 32) at_27 (by decide) (by decide) ?_
        refine s_aloadN B X145 (pc' := 33) at_32 rfl rfl rfl ?_
        refine p_static B X145 (y := mn2) (pc' := 36) (argsL := [(.ref w_READ)]) (under := []) (W := 0) e145 (tw17 hw) (tw18 hw) (tw19 hw) (tw2 hw) (by decide) (rm3_2 l Z a0 hw  w_SHARED w_WRITE w_MEMBERSHIP w_READ Z.heap F0 ) (lenOf pd_2 rfl) rfl rfl (by decide) (by decide) rfl rfl (by decide) (by decide) rfl at_33 rfl (fun T146 X146 e146 => ?_)
        show Go p e below _ (T146.setTop (mkF m 36 #[.val (.int i0), .val (.int i1), .val (.int i2), .val (.ref w_READ), .val (.ref w_READ), .val (.ref w_READ), .val (.ref w_READ), .unset, .unset, .unset, .unset, .unset] [(.int (12 : Int32))]))
        refine s_aload B X146 (pc' := 38) at_36 rfl rfl rfl ?_
        refine p_static B X146 (y := mn2) (pc' := 41) (argsL := [(.ref w_READ)]) (under := [(.int (12 : Int32))]) (W := 1) e146 (tw17 hw) (tw18 hw) (tw19 hw) (tw2 hw) (by decide) (rm3_2 l Z a0 hw  w_SHARED w_WRITE w_MEMBERSHIP w_READ Z.heap F0 ) (lenOf pd_2 rfl) rfl rfl (by decide) (by decide) rfl rfl (by decide) (by decide) rfl at_38 rfl (fun T147 X147 e147 => ?_)
        show Go p e below _ (T147.setTop (mkF m 41 #[.val (.int i0), .val (.int i1), .val (.int i2), .val (.ref w_READ), .val (.ref w_READ), .val (.ref w_READ), .val (.ref w_READ), .unset, .unset, .unset, .unset, .unset] [(.int (12 : Int32)), (.int (12 : Int32))]))
        refine s_ior B X147 (pc' := 42) (v := (12 : Int32)) at_41 rfl rfl ?_
        refine s_istore B X147 (pc' := 44) (Ls' := #[.val (.int i0), .val (.int i1), .val (.int i2), .val (.ref w_READ), .val (.ref w_READ), .val (.ref w_READ), .val (.ref w_READ), .val (.int (12 : Int32)), .unset, .unset, .unset, .unset]) at_42 rfl rfl ?_
        refine s_aload B X147 (pc' := 46) at_44 rfl rfl rfl ?_
        refine p_static B X147 (y := mn2) (pc' := 49) (argsL := [(.ref w_READ)]) (under := []) (W := 0) e147 (tw17 hw) (tw18 hw) (tw19 hw) (tw2 hw) (by decide) (rm3_2 l Z a0 hw  w_SHARED w_WRITE w_MEMBERSHIP w_READ Z.heap F0 ) (lenOf pd_2 rfl) rfl rfl (by decide) (by decide) rfl rfl (by decide) (by decide) rfl at_46 rfl (fun T148 X148 e148 => ?_)
        show Go p e below _ (T148.setTop (mkF m 49 #[.val (.int i0), .val (.int i1), .val (.int i2), .val (.ref w_READ), .val (.ref w_READ), .val (.ref w_READ), .val (.ref w_READ), .val (.int (12 : Int32)), .unset, .unset, .unset, .unset] [(.int (12 : Int32))]))
        refine s_istore B X148 (pc' := 51) (Ls' := #[.val (.int i0), .val (.int i1), .val (.int i2), .val (.ref w_READ), .val (.ref w_READ), .val (.ref w_READ), .val (.ref w_READ), .val (.int (12 : Int32)), .val (.int (12 : Int32)), .unset, .unset, .unset]) at_49 rfl rfl ?_
        refine s_aload B X148 (pc' := 53) at_51 rfl rfl rfl ?_
        refine p_static B X148 (y := mn2) (pc' := 56) (argsL := [(.ref w_READ)]) (under := []) (W := 0) e148 (tw17 hw) (tw18 hw) (tw19 hw) (tw2 hw) (by decide) (rm3_2 l Z a0 hw  w_SHARED w_WRITE w_MEMBERSHIP w_READ Z.heap F0 ) (lenOf pd_2 rfl) rfl rfl (by decide) (by decide) rfl rfl (by decide) (by decide) rfl at_53 rfl (fun T149 X149 e149 => ?_)
        show Go p e below _ (T149.setTop (mkF m 56 #[.val (.int i0), .val (.int i1), .val (.int i2), .val (.ref w_READ), .val (.ref w_READ), .val (.ref w_READ), .val (.ref w_READ), .val (.int (12 : Int32)), .val (.int (12 : Int32)), .unset, .unset, .unset] [(.int (12 : Int32))]))
        refine s_istore B X149 (pc' := 58) (Ls' := #[.val (.int i0), .val (.int i1), .val (.int i2), .val (.ref w_READ), .val (.ref w_READ), .val (.ref w_READ), .val (.ref w_READ), .val (.int (12 : Int32)), .val (.int (12 : Int32)), .val (.int (12 : Int32)), .unset, .unset]) at_56 rfl rfl ?_
        refine s_iload B X149 (pc' := 60) at_58 rfl rfl ?_
        refine s_iload B X149 (pc' := 62) at_60 rfl rfl ?_
        refine s_iand B X149 (pc' := 63) (v := (12 : Int32)) at_62 rfl rfl ?_
        refine s_iload B X149 (pc' := 65) at_63 rfl rfl ?_
        refine s_icmpN B X149 (pc' := 68) at_65 (by decide) rfl ?_
        refine s_iconst B X149 (pc' := 69) (v := (1 : Int32)) at_68 rfl rfl ?_
        refine s_goto B X149 (pc' := 73) at_69 (by decide) (by decide) ?_
        refine s_istore B X149 (pc' := 75) (Ls' := #[.val (.int i0), .val (.int i1), .val (.int i2), .val (.ref w_READ), .val (.ref w_READ), .val (.ref w_READ), .val (.ref w_READ), .val (.int (12 : Int32)), .val (.int (12 : Int32)), .val (.int (12 : Int32)), .val (.int (1 : Int32)), .unset]) at_73 rfl rfl ?_
        refine s_iload B X149 (pc' := 77) at_75 rfl rfl ?_
        refine s_iload B X149 (pc' := 79) at_77 rfl rfl ?_
        refine s_iand B X149 (pc' := 80) (v := (12 : Int32)) at_79 rfl rfl ?_
        refine s_iload B X149 (pc' := 82) at_80 rfl rfl ?_
        refine s_icmpN B X149 (pc' := 85) at_82 (by decide) rfl ?_
        refine s_iload B X149 (pc' := 87) at_85 rfl rfl ?_
        refine s_iload B X149 (pc' := 89) at_87 rfl rfl ?_
        refine s_iand B X149 (pc' := 90) (v := (12 : Int32)) at_89 rfl rfl ?_
        refine s_iload B X149 (pc' := 92) at_90 rfl rfl ?_
        refine s_icmpN B X149 (pc' := 95) at_92 (by decide) rfl ?_
        refine s_iconst B X149 (pc' := 96) (v := (1 : Int32)) at_95 rfl rfl ?_
        refine s_goto B X149 (pc' := 100) at_96 (by decide) (by decide) ?_
        refine s_istore B X149 (pc' := 102) (Ls' := #[.val (.int i0), .val (.int i1), .val (.int i2), .val (.ref w_READ), .val (.ref w_READ), .val (.ref w_READ), .val (.ref w_READ), .val (.int (12 : Int32)), .val (.int (12 : Int32)), .val (.int (12 : Int32)), .val (.int (1 : Int32)), .val (.int (1 : Int32))]) at_100 rfl rfl ?_
        refine s_iload B X149 (pc' := 104) at_102 rfl rfl ?_
        refine s_ifN B X149 (pc' := 107) at_104 (by decide) rfl ?_
        refine s_iload B X149 (pc' := 109) at_107 rfl rfl ?_
        refine s_ifN B X149 (pc' := 112) at_109 (by decide) rfl ?_
        refine s_iconst B X149 (pc' := 113) (v := (1 : Int32)) at_112 rfl rfl ?_
        refine s_goto B X149 (pc' := 117) at_113 (by decide) (by decide) ?_
        exact r_nar B X149 (t := .boolean) (by simp) rfl at_117 ⟨rfl, (Fr.nil _)⟩ (by decide) (by decide)
      · refine p_static B X136 (y := mn0) (pc' := 15) (argsL := [(.int i2)]) (under := []) (W := 0) e136 (tw0 hw) (tw1 hw) (tw3 hw) (tw2 hw) (by decide) (rm_mode2 l Z a0 hw i2 hm137 w_SHARED w_WRITE w_MEMBERSHIP w_READ Z.heap F0) (lenOf pd_0 rfl) rfl rfl (by decide) (by decide) rfl rfl (by decide) (by decide) rfl at_12 rfl (fun T150 X150 e150 => ?_)
        show Go p e below _ (T150.setTop (mkF m 15 #[.val (.int i0), .val (.int i1), .val (.int i2), .val (.ref w_READ), .val (.ref w_READ), .unset, .unset, .unset, .unset, .unset, .unset, .unset] [(.ref w_MEMBERSHIP)]))
        refine s_astore B X150 (pc' := 17) (Ls' := #[.val (.int i0), .val (.int i1), .val (.int i2), .val (.ref w_READ), .val (.ref w_READ), .val (.ref w_MEMBERSHIP), .unset, .unset, .unset, .unset, .unset, .unset]) at_15 rfl rfl rfl ?_
        refine s_aloadN B X150 (pc' := 18) at_17 rfl rfl rfl ?_
        refine s_aload B X150 (pc' := 20) at_18 rfl rfl rfl ?_
        refine p_virtual B X150 (y := mn1) (pc' := 23) (argsL := [(.ref w_READ)]) (under := []) (W := 0) e150 (tw11 hw) (tw12 hw) (tw14 hw) (tw13 hw) (tw15 hw) (tw5 hw) (by decide) (rm2_9 l Z a0 hw  w_SHARED w_WRITE w_MEMBERSHIP w_READ Z.heap F0 ) E_READ (lenOf pd_1 rfl) rfl rfl (by decide) (by decide) rfl rfl (by decide) (by decide) rfl at_20 rfl (fun T151 X151 e151 => ?_)
        show Go p e below _ (T151.setTop (mkF m 23 #[.val (.int i0), .val (.int i1), .val (.int i2), .val (.ref w_READ), .val (.ref w_READ), .val (.ref w_MEMBERSHIP), .unset, .unset, .unset, .unset, .unset, .unset] [(.ref w_READ)]))
        refine s_astore B X151 (pc' := 25) (Ls' := #[.val (.int i0), .val (.int i1), .val (.int i2), .val (.ref w_READ), .val (.ref w_READ), .val (.ref w_MEMBERSHIP), .val (.ref w_READ), .unset, .unset, .unset, .unset, .unset]) at_23 rfl rfl rfl ?_
        refine s_aload B X151 (pc' := 27) at_25 rfl rfl rfl ?_
        refine s_ifnonnullY B X151 (pc' := 32) at_27 (by decide) (by decide) ?_
        refine s_aloadN B X151 (pc' := 33) at_32 rfl rfl rfl ?_
        refine p_static B X151 (y := mn2) (pc' := 36) (argsL := [(.ref w_READ)]) (under := []) (W := 0) e151 (tw17 hw) (tw18 hw) (tw19 hw) (tw2 hw) (by decide) (rm3_2 l Z a0 hw  w_SHARED w_WRITE w_MEMBERSHIP w_READ Z.heap F0 ) (lenOf pd_2 rfl) rfl rfl (by decide) (by decide) rfl rfl (by decide) (by decide) rfl at_33 rfl (fun T152 X152 e152 => ?_)
        show Go p e below _ (T152.setTop (mkF m 36 #[.val (.int i0), .val (.int i1), .val (.int i2), .val (.ref w_READ), .val (.ref w_READ), .val (.ref w_MEMBERSHIP), .val (.ref w_READ), .unset, .unset, .unset, .unset, .unset] [(.int (12 : Int32))]))
        refine s_aload B X152 (pc' := 38) at_36 rfl rfl rfl ?_
        refine p_static B X152 (y := mn2) (pc' := 41) (argsL := [(.ref w_READ)]) (under := [(.int (12 : Int32))]) (W := 1) e152 (tw17 hw) (tw18 hw) (tw19 hw) (tw2 hw) (by decide) (rm3_2 l Z a0 hw  w_SHARED w_WRITE w_MEMBERSHIP w_READ Z.heap F0 ) (lenOf pd_2 rfl) rfl rfl (by decide) (by decide) rfl rfl (by decide) (by decide) rfl at_38 rfl (fun T153 X153 e153 => ?_)
        show Go p e below _ (T153.setTop (mkF m 41 #[.val (.int i0), .val (.int i1), .val (.int i2), .val (.ref w_READ), .val (.ref w_READ), .val (.ref w_MEMBERSHIP), .val (.ref w_READ), .unset, .unset, .unset, .unset, .unset] [(.int (12 : Int32)), (.int (12 : Int32))]))
        refine s_ior B X153 (pc' := 42) (v := (12 : Int32)) at_41 rfl rfl ?_
        refine s_istore B X153 (pc' := 44) (Ls' := #[.val (.int i0), .val (.int i1), .val (.int i2), .val (.ref w_READ), .val (.ref w_READ), .val (.ref w_MEMBERSHIP), .val (.ref w_READ), .val (.int (12 : Int32)), .unset, .unset, .unset, .unset]) at_42 rfl rfl ?_
        refine s_aload B X153 (pc' := 46) at_44 rfl rfl rfl ?_
        refine p_static B X153 (y := mn2) (pc' := 49) (argsL := [(.ref w_READ)]) (under := []) (W := 0) e153 (tw17 hw) (tw18 hw) (tw19 hw) (tw2 hw) (by decide) (rm3_2 l Z a0 hw  w_SHARED w_WRITE w_MEMBERSHIP w_READ Z.heap F0 ) (lenOf pd_2 rfl) rfl rfl (by decide) (by decide) rfl rfl (by decide) (by decide) rfl at_46 rfl (fun T154 X154 e154 => ?_)
        show Go p e below _ (T154.setTop (mkF m 49 #[.val (.int i0), .val (.int i1), .val (.int i2), .val (.ref w_READ), .val (.ref w_READ), .val (.ref w_MEMBERSHIP), .val (.ref w_READ), .val (.int (12 : Int32)), .unset, .unset, .unset, .unset] [(.int (12 : Int32))]))
        refine s_istore B X154 (pc' := 51) (Ls' := #[.val (.int i0), .val (.int i1), .val (.int i2), .val (.ref w_READ), .val (.ref w_READ), .val (.ref w_MEMBERSHIP), .val (.ref w_READ), .val (.int (12 : Int32)), .val (.int (12 : Int32)), .unset, .unset, .unset]) at_49 rfl rfl ?_
        refine s_aload B X154 (pc' := 53) at_51 rfl rfl rfl ?_
        refine p_static B X154 (y := mn2) (pc' := 56) (argsL := [(.ref w_MEMBERSHIP)]) (under := []) (W := 0) e154 (tw17 hw) (tw18 hw) (tw19 hw) (tw2 hw) (by decide) (rm3_3 l Z a0 hw  w_SHARED w_WRITE w_MEMBERSHIP w_READ Z.heap F0 ) (lenOf pd_2 rfl) rfl rfl (by decide) (by decide) rfl rfl (by decide) (by decide) rfl at_53 rfl (fun T155 X155 e155 => ?_)
        show Go p e below _ (T155.setTop (mkF m 56 #[.val (.int i0), .val (.int i1), .val (.int i2), .val (.ref w_READ), .val (.ref w_READ), .val (.ref w_MEMBERSHIP), .val (.ref w_READ), .val (.int (12 : Int32)), .val (.int (12 : Int32)), .unset, .unset, .unset] [(.int (10 : Int32))]))
        refine s_istore B X155 (pc' := 58) (Ls' := #[.val (.int i0), .val (.int i1), .val (.int i2), .val (.ref w_READ), .val (.ref w_READ), .val (.ref w_MEMBERSHIP), .val (.ref w_READ), .val (.int (12 : Int32)), .val (.int (12 : Int32)), .val (.int (10 : Int32)), .unset, .unset]) at_56 rfl rfl ?_
        refine s_iload B X155 (pc' := 60) at_58 rfl rfl ?_
        refine s_iload B X155 (pc' := 62) at_60 rfl rfl ?_
        refine s_iand B X155 (pc' := 63) (v := (12 : Int32)) at_62 rfl rfl ?_
        refine s_iload B X155 (pc' := 65) at_63 rfl rfl ?_
        refine s_icmpN B X155 (pc' := 68) at_65 (by decide) rfl ?_
        refine s_iconst B X155 (pc' := 69) (v := (1 : Int32)) at_68 rfl rfl ?_
        refine s_goto B X155 (pc' := 73) at_69 (by decide) (by decide) ?_
        refine s_istore B X155 (pc' := 75) (Ls' := #[.val (.int i0), .val (.int i1), .val (.int i2), .val (.ref w_READ), .val (.ref w_READ), .val (.ref w_MEMBERSHIP), .val (.ref w_READ), .val (.int (12 : Int32)), .val (.int (12 : Int32)), .val (.int (10 : Int32)), .val (.int (1 : Int32)), .unset]) at_73 rfl rfl ?_
        refine s_iload B X155 (pc' := 77) at_75 rfl rfl ?_
        refine s_iload B X155 (pc' := 79) at_77 rfl rfl ?_
        refine s_iand B X155 (pc' := 80) (v := (8 : Int32)) at_79 rfl rfl ?_
        refine s_iload B X155 (pc' := 82) at_80 rfl rfl ?_
        refine s_icmpY B X155 (pc' := 95) at_82 (by decide) (by decide) (by decide) ?_
        refine s_iconst B X155 (pc' := 96) (v := (1 : Int32)) at_95 rfl rfl ?_
        refine s_goto B X155 (pc' := 100) at_96 (by decide) (by decide) ?_
        refine s_istore B X155 (pc' := 102) (Ls' := #[.val (.int i0), .val (.int i1), .val (.int i2), .val (.ref w_READ), .val (.ref w_READ), .val (.ref w_MEMBERSHIP), .val (.ref w_READ), .val (.int (12 : Int32)), .val (.int (12 : Int32)), .val (.int (10 : Int32)), .val (.int (1 : Int32)), .val (.int (1 : Int32))]) at_100 rfl rfl ?_
        refine s_iload B X155 (pc' := 104) at_102 rfl rfl ?_
        refine s_ifN B X155 (pc' := 107) at_104 (by decide) rfl ?_
        refine s_iload B X155 (pc' := 109) at_107 rfl rfl ?_
        refine s_ifN B X155 (pc' := 112) at_109 (by decide) rfl ?_
        refine s_iconst B X155 (pc' := 113) (v := (1 : Int32)) at_112 rfl rfl ?_
        refine s_goto B X155 (pc' := 117) at_113 (by decide) (by decide) ?_
        exact r_nar B X155 (t := .boolean) (by simp) rfl at_117 ⟨rfl, (Fr.nil _)⟩ (by decide) (by decide)
      · refine p_static B X136 (y := mn0) (pc' := 15) (argsL := [(.int i2)]) (under := []) (W := 0) e136 (tw0 hw) (tw1 hw) (tw3 hw) (tw2 hw) (by decide) (rm_mode3 l Z a0 hw i2 hm137 w_SHARED w_WRITE w_MEMBERSHIP w_READ Z.heap F0) (lenOf pd_0 rfl) rfl rfl (by decide) (by decide) rfl rfl (by decide) (by decide) rfl at_12 rfl (fun T156 X156 e156 => ?_)
        show Go p e below _ (T156.setTop (mkF m 15 #[.val (.int i0), .val (.int i1), .val (.int i2), .val (.ref w_READ), .val (.ref w_READ), .unset, .unset, .unset, .unset, .unset, .unset, .unset] [(.ref w_WRITE)]))
        refine s_astore B X156 (pc' := 17) (Ls' := #[.val (.int i0), .val (.int i1), .val (.int i2), .val (.ref w_READ), .val (.ref w_READ), .val (.ref w_WRITE), .unset, .unset, .unset, .unset, .unset, .unset]) at_15 rfl rfl rfl ?_
        refine s_aloadN B X156 (pc' := 18) at_17 rfl rfl rfl ?_
        refine s_aload B X156 (pc' := 20) at_18 rfl rfl rfl ?_
        refine p_virtual B X156 (y := mn1) (pc' := 23) (argsL := [(.ref w_READ)]) (under := []) (W := 0) e156 (tw11 hw) (tw12 hw) (tw14 hw) (tw13 hw) (tw15 hw) (tw5 hw) (by decide) (rm2_9 l Z a0 hw  w_SHARED w_WRITE w_MEMBERSHIP w_READ Z.heap F0 ) E_READ (lenOf pd_1 rfl) rfl rfl (by decide) (by decide) rfl rfl (by decide) (by decide) rfl at_20 rfl (fun T157 X157 e157 => ?_)
        show Go p e below _ (T157.setTop (mkF m 23 #[.val (.int i0), .val (.int i1), .val (.int i2), .val (.ref w_READ), .val (.ref w_READ), .val (.ref w_WRITE), .unset, .unset, .unset, .unset, .unset, .unset] [(.ref w_READ)]))
        refine s_astore B X157 (pc' := 25) (Ls' := #[.val (.int i0), .val (.int i1), .val (.int i2), .val (.ref w_READ), .val (.ref w_READ), .val (.ref w_WRITE), .val (.ref w_READ), .unset, .unset, .unset, .unset, .unset]) at_23 rfl rfl rfl ?_
        refine s_aload B X157 (pc' := 27) at_25 rfl rfl rfl ?_
        refine s_ifnonnullY B X157 (pc' := 32) at_27 (by decide) (by decide) ?_
        refine s_aloadN B X157 (pc' := 33) at_32 rfl rfl rfl ?_
        refine p_static B X157 (y := mn2) (pc' := 36) (argsL := [(.ref w_READ)]) (under := []) (W := 0) e157 (tw17 hw) (tw18 hw) (tw19 hw) (tw2 hw) (by decide) (rm3_2 l Z a0 hw  w_SHARED w_WRITE w_MEMBERSHIP w_READ Z.heap F0 ) (lenOf pd_2 rfl) rfl rfl (by decide) (by decide) rfl rfl (by decide) (by decide) rfl at_33 rfl (fun T158 X158 e158 => ?_)
        show Go p e below _ (T158.setTop (mkF m 36 #[.val (.int i0), .val (.int i1), .val (.int i2), .val (.ref w_READ), .val (.ref w_READ), .val (.ref w_WRITE), .val (.ref w_READ), .unset, .unset, .unset, .unset, .unset] [(.int (12 : Int32))]))
        refine s_aload B X158 (pc' := 38) at_36 rfl rfl rfl ?_
        refine p_static B X158 (y := mn2) (pc' := 41) (argsL := [(.ref w_READ)]) (under := [(.int (12 : Int32))]) (W := 1) e158 (tw17 hw) (tw18 hw) (tw19 hw) (tw2 hw) (by decide) (rm3_2 l Z a0 hw  w_SHARED w_WRITE w_MEMBERSHIP w_READ Z.heap F0 ) (lenOf pd_2 rfl) rfl rfl (by decide) (by decide) rfl rfl (by decide) (by decide) rfl at_38 rfl (fun T159 X159 e159 => ?_)
        show Go p e below _ (T159.setTop (mkF m 41 #[.val (.int i0), .val (.int i1), .val (.int i2), .val (.ref w_READ), .val (.ref w_READ), .val (.ref w_WRITE), .val (.ref w_READ), .unset, .unset, .unset, .unset, .unset] [(.int (12 : Int32)), (.int (12 : Int32))]))
        refine s_ior B X159 (pc' := 42) (v := (12 : Int32)) at_41 rfl rfl ?_
        refine s_istore B X159 (pc' := 44) (Ls' := #[.val (.int i0), .val (.int i1), .val (.int i2), .val (.ref w_READ), .val (.ref w_READ), .val (.ref w_WRITE), .val (.ref w_READ), .val (.int (12 : Int32)), .unset, .unset, .unset, .unset]) at_42 rfl rfl ?_
        refine s_aload B X159 (pc' := 46) at_44 rfl rfl rfl ?_
        refine p_static B X159 (y := mn2) (pc' := 49) (argsL := [(.ref w_READ)]) (under := []) (W := 0) e159 (tw17 hw) (tw18 hw) (tw19 hw) (tw2 hw) (by decide) (rm3_2 l Z a0 hw  w_SHARED w_WRITE w_MEMBERSHIP w_READ Z.heap F0 ) (lenOf pd_2 rfl) rfl rfl (by decide) (by decide) rfl rfl (by decide) (by decide) rfl at_46 rfl (fun T160 X160 e160 => ?_)
        show Go p e below _ (T160.setTop (mkF m 49 #[.val (.int i0), .val (.int i1), .val (.int i2), .val (.ref w_READ), .val (.ref w_READ), .val (.ref w_WRITE), .val (.ref w_READ), .val (.int (12 : Int32)), .unset, .unset, .unset, .unset] [(.int (12 : Int32))]))
        refine s_istore B X160 (pc' := 51) (Ls' := #[.val (.int i0), .val (.int i1), .val (.int i2), .val (.ref w_READ), .val (.ref w_READ), .val (.ref w_WRITE), .val (.ref w_READ), .val (.int (12 : Int32)), .val (.int (12 : Int32)), .unset, .unset, .unset]) at_49 rfl rfl ?_
        refine s_aload B X160 (pc' := 53) at_51 rfl rfl rfl ?_
        refine p_static B X160 (y := mn2) (pc' := 56) (argsL := [(.ref w_WRITE)]) (under := []) (W := 0) e160 (tw17 hw) (tw18 hw) (tw19 hw) (tw2 hw) (by decide) (rm3_4 l Z a0 hw  w_SHARED w_WRITE w_MEMBERSHIP w_READ Z.heap F0 ) (lenOf pd_2 rfl) rfl rfl (by decide) (by decide) rfl rfl (by decide) (by decide) rfl at_53 rfl (fun T161 X161 e161 => ?_)
        show Go p e below _ (T161.setTop (mkF m 56 #[.val (.int i0), .val (.int i1), .val (.int i2), .val (.ref w_READ), .val (.ref w_READ), .val (.ref w_WRITE), .val (.ref w_READ), .val (.int (12 : Int32)), .val (.int (12 : Int32)), .unset, .unset, .unset] [(.int (15 : Int32))]))
        refine s_istore B X161 (pc' := 58) (Ls' := #[.val (.int i0), .val (.int i1), .val (.int i2), .val (.ref w_READ), .val (.ref w_READ), .val (.ref w_WRITE), .val (.ref w_READ), .val (.int (12 : Int32)), .val (.int (12 : Int32)), .val (.int (15 : Int32)), .unset, .unset]) at_56 rfl rfl ?_
        refine s_iload B X161 (pc' := 60) at_58 rfl rfl ?_
        refine s_iload B X161 (pc' := 62) at_60 rfl rfl ?_
        refine s_iand B X161 (pc' := 63) (v := (12 : Int32)) at_62 rfl rfl ?_
        refine s_iload B X161 (pc' := 65) at_63 rfl rfl ?_
        refine s_icmpN B X161 (pc' := 68) at_65 (by decide) rfl ?_
        refine s_iconst B X161 (pc' := 69) (v := (1 : Int32)) at_68 rfl rfl ?_
        refine s_goto B X161 (pc' := 73) at_69 (by decide) (by decide) ?_
        refine s_istore B X161 (pc' := 75) (Ls' := #[.val (.int i0), .val (.int i1), .val (.int i2), .val (.ref w_READ), .val (.ref w_READ), .val (.ref w_WRITE), .val (.ref w_READ), .val (.int (12 : Int32)), .val (.int (12 : Int32)), .val (.int (15 : Int32)), .val (.int (1 : Int32)), .unset]) at_73 rfl rfl ?_
        refine s_iload B X161 (pc' := 77) at_75 rfl rfl ?_
        refine s_iload B X161 (pc' := 79) at_77 rfl rfl ?_
        refine s_iand B X161 (pc' := 80) (v := (12 : Int32)) at_79 rfl rfl ?_
        refine s_iload B X161 (pc' := 82) at_80 rfl rfl ?_
        refine s_icmpN B X161 (pc' := 85) at_82 (by decide) rfl ?_
        refine s_iload B X161 (pc' := 87) at_85 rfl rfl ?_
        refine s_iload B X161 (pc' := 89) at_87 rfl rfl ?_
        refine s_iand B X161 (pc' := 90) (v := (12 : Int32)) at_89 rfl rfl ?_
        refine s_iload B X161 (pc' := 92) at_90 rfl rfl ?_
        refine s_icmpN B X161 (pc' := 95) at_92 (by decide) rfl ?_
        refine s_iconst B X161 (pc' := 96) (v := (1 : Int32)) at_95 rfl rfl ?_
        refine s_goto B X161 (pc' := 100) at_96 (by decide) (by decide) ?_
        refine s_istore B X161 (pc' := 102) (Ls' := #[.val (.int i0), .val (.int i1), .val (.int i2), .val (.ref w_READ), .val (.ref w_READ), .val (.ref w_WRITE), .val (.ref w_READ), .val (.int (12 : Int32)), .val (.int (12 : Int32)), .val (.int (15 : Int32)), .val (.int (1 : Int32)), .val (.int (1 : Int32))]) at_100 rfl rfl ?_
        refine s_iload B X161 (pc' := 104) at_102 rfl rfl ?_
        refine s_ifN B X161 (pc' := 107) at_104 (by decide) rfl ?_
        refine s_iload B X161 (pc' := 109) at_107 rfl rfl ?_
        refine s_ifN B X161 (pc' := 112) at_109 (by decide) rfl ?_
        refine s_iconst B X161 (pc' := 113) (v := (1 : Int32)) at_112 rfl rfl ?_
        refine s_goto B X161 (pc' := 117) at_113 (by decide) (by decide) ?_
        exact r_nar B X161 (t := .boolean) (by simp) rfl at_117 ⟨rfl, (Fr.nil _)⟩ (by decide) (by decide)
    · refine p_static B X108 (y := mn0) (pc' := 9) (argsL := [(.int i1)]) (under := []) (W := 0) e108 (tw0 hw) (tw1 hw) (tw3 hw) (tw2 hw) (by decide) (rm_mode2 l Z a0 hw i1 hm109 w_SHARED w_WRITE w_MEMBERSHIP w_READ Z.heap F0) (lenOf pd_0 rfl) rfl rfl (by decide) (by decide) rfl rfl (by decide) (by decide) rfl at_6 rfl (fun T162 X162 e162 => ?_)
      show Go p e below _ (T162.setTop (mkF m 9 #[.val (.int i0), .val (.int i1), .val (.int i2), .val (.ref w_READ), .unset, .unset, .unset, .unset, .unset, .unset, .unset, .unset] [(.ref w_MEMBERSHIP)]))
      refine s_astore B X162 (pc' := 11) (Ls' := #[.val (.int i0), .val (.int i1), .val (.int i2), .val (.ref w_READ), .val (.ref w_MEMBERSHIP), .unset, .unset, .unset, .unset, .unset, .unset, .unset]) at_9 rfl rfl rfl ?_
      refine s_iloadN B X162 (pc' := 12) at_11 rfl rfl ?_
      rcases own_and3 i2 with hm163 | hm163 | hm163 | hm163
      · refine p_static B X162 (y := mn0) (pc' := 15) (argsL := [(.int i2)]) (under := []) (W := 0) e162 (tw0 hw) (tw1 hw) (tw3 hw) (tw2 hw) (by decide) (rm_mode0 l Z a0 hw i2 hm163 w_SHARED w_WRITE w_MEMBERSHIP w_READ Z.heap F0) (lenOf pd_0 rfl) rfl rfl (by decide) (by decide) rfl rfl (by decide) (by decide) rfl at_12 rfl (fun T164 X164 e164 => ?_)
        show Go p e below _ (T164.setTop (mkF m 15 #[.val (.int i0), .val (.int i1), .val (.int i2), .val (.ref w_READ), .val (.ref w_MEMBERSHIP), .unset, .unset, .unset, .unset, .unset, .unset, .unset] [(.ref w_SHARED)]))
        refine s_astore B X164 (pc' := 17) (Ls' := #[.val (.int i0), .val (.int i1), .val (.int i2), .val (.ref w_READ), .val (.ref w_MEMBERSHIP), .val (.ref w_SHARED), .unset, .unset, .unset, .unset, .unset, .unset]) at_15 rfl rfl rfl ?_
        refine s_aloadN B X164 (pc' := 18) at_17 rfl rfl rfl ?_
        refine s_aload B X164 (pc' := 20) at_18 rfl rfl rfl ?_
        refine p_virtual B X164 (y := mn1) (pc' := 23) (argsL := [(.ref w_MEMBERSHIP)]) (under := []) (W := 0) e164 (tw11 hw) (tw12 hw) (tw14 hw) (tw13 hw) (tw15 hw) (tw5 hw) (by decide) (rm2_10 l Z a0 hw  w_SHARED w_WRITE w_MEMBERSHIP w_READ Z.heap F0 ) E_READ (lenOf pd_1 rfl) rfl rfl (by decide) (by decide) rfl rfl (by decide) (by decide) rfl at_20 rfl (fun T165 X165 e165 => ?_)
        show Go p e below _ (T165.setTop (mkF m 23 #[.val (.int i0), .val (.int i1), .val (.int i2), .val (.ref w_READ), .val (.ref w_MEMBERSHIP), .val (.ref w_SHARED), .unset, .unset, .unset, .unset, .unset, .unset] [(.ref w_WRITE)]))
        refine s_astore B X165 (pc' := 25) (Ls' := #[.val (.int i0), .val (.int i1), .val (.int i2), .val (.ref w_READ), .val (.ref w_MEMBERSHIP), .val (.ref w_SHARED), .val (.ref w_WRITE), .unset, .unset, .unset, .unset, .unset]) at_23 rfl rfl rfl ?_
        refine s_aload B X165 (pc' := 27) at_25 rfl rfl rfl ?_
        refine s_ifnonnullY B X165 (pc' := 32) at_27 (by decide) (by decide) ?_
        refine s_aloadN B X165 (pc' := 33) at_32 rfl rfl rfl ?_
        refine p_static B X165 (y := mn2) (pc' := 36) (argsL := [(.ref w_READ)]) (under := []) (W := 0) e165 (tw17 hw) (tw18 hw) (tw19 hw) (tw2 hw) (by decide) (rm3_2 l Z a0 hw  w_SHARED w_WRITE w_MEMBERSHIP w_READ Z.heap F0 ) (lenOf pd_2 rfl) rfl rfl (by decide) (by decide) rfl rfl (by decide) (by decide) rfl at_33 rfl (fun T166 X166 e166 => ?_)
        show Go p e below _ (T166.setTop (mkF m 36 #[.val (.int i0), .val (.int i1), .val (.int i2), .val (.ref w_READ), .val (.ref w_MEMBERSHIP), .val (.ref w_SHARED), .val (.ref w_WRITE), .unset, .unset, .unset, .unset, .unset] [(.int (12 : Int32))]))
        refine s_aload B X166 (pc' := 38) at_36 rfl rfl rfl ?_
        refine p_static B X166 (y := mn2) (pc' := 41) (argsL := [(.ref w_MEMBERSHIP)]) (under := [(.int (12 : Int32))]) (W := 1) e166 (tw17 hw) (tw18 hw) (tw19 hw) (tw2 hw) (by decide) (rm3_3 l Z a0 hw  w_SHARED w_WRITE w_MEMBERSHIP w_READ Z.heap F0 ) (lenOf pd_2 rfl) rfl rfl (by decide) (by decide) rfl rfl (by decide) (by decide) rfl at_38 rfl (fun T167 X167 e167 => ?_)
        show Go p e below _ (T167.setTop (mkF m 41 #[.val (.int i0), .val (.int i1), .val (.int i2), .val (.ref w_READ), .val (.ref w_MEMBERSHIP), .val (.ref w_SHARED), .val (.ref w_WRITE), .unset, .unset, .unset, .unset, .unset] [(.int (10 : Int32)), (.int (12 : Int32))]))
        refine s_ior B X167 (pc' := 42) (v := (14 : Int32)) at_41 rfl rfl ?_
        refine s_istore B X167 (pc' := 44) (Ls' := #[.val (.int i0), .val (.int i1), .val (.int i2), .val (.ref w_READ), .val (.ref w_MEMBERSHIP), .val (.ref w_SHARED), .val (.ref w_WRITE), .val (.int (14 : Int32)), .unset, .unset, .unset, .unset]) at_42 rfl rfl ?_
        refine s_aload B X167 (pc' := 46) at_44 rfl rfl rfl ?_
        refine p_static B X167 (y := mn2) (pc' := 49) (argsL := [(.ref w_WRITE)]) (under := []) (W := 0) e167 (tw17 hw) (tw18 hw) (tw19 hw) (tw2 hw) (by decide) (rm3_4 l Z a0 hw  w_SHARED w_WRITE w_MEMBERSHIP w_READ Z.heap F0 ) (lenOf pd_2 rfl) rfl rfl (by decide) (by decide) rfl rfl (by decide) (by decide) rfl at_46 rfl (fun T168 X168 e168 => ?_)
        show Go p e below _ (T168.setTop (mkF m 49 #[.val (.int i0), .val (.int i1), .val (.int i2), .val (.ref w_READ), .val (.ref w_MEMBERSHIP), .val (.ref w_SHARED), .val (.ref w_WRITE), .val (.int (14 : Int32)), .unset, .unset, .unset, .unset] [(.int (15 : Int32))]))
        refine s_istore B X168 (pc' := 51) (Ls' := #[.val (.int i0), .val (.int i1), .val (.int i2), .val (.ref w_READ), .val (.ref w_MEMBERSHIP), .val (.ref w_SHARED), .val (.ref w_WRITE), .val (.int (14 : Int32)), .val (.int (15 : Int32)), .unset, .unset, .unset]) at_49 rfl rfl ?_
        refine s_aload B X168 (pc' := 53) at_51 rfl rfl rfl ?_
        refine p_static B X168 (y := mn2) (pc' := 56) (argsL := [(.ref w_SHARED)]) (under := []) (W := 0) e168 (tw17 hw) (tw18 hw) (tw19 hw) (tw2 hw) (by decide) (rm3_1 l Z a0 hw  w_SHARED w_WRITE w_MEMBERSHIP w_READ Z.heap F0 ) (lenOf pd_2 rfl) rfl rfl (by decide) (by decide) rfl rfl (by decide) (by decide) rfl at_53 rfl (fun T169 X169 e169 => ?_)
        show Go p e below _ (T169.setTop (mkF m 56 #[.val (.int i0), .val (.int i1), .val (.int i2), .val (.ref w_READ), .val (.ref w_MEMBERSHIP), .val (.ref w_SHARED), .val (.ref w_WRITE), .val (.int (14 : Int32)), .val (.int (15 : Int32)), .unset, .unset, .unset] [(.int (8 : Int32))]))
        refine s_istore B X169 (pc' := 58) (Ls' := #[.val (.int i0), .val (.int i1), .val (.int i2), .val (.ref w_READ), .val (.ref w_MEMBERSHIP), .val (.ref w_SHARED), .val (.ref w_WRITE), .val (.int (14 : Int32)), .val (.int (15 : Int32)), .val (.int (8 : Int32)), .unset, .unset]) at_56 rfl rfl ?_
        refine s_iload B X169 (pc' := 60) at_58 rfl rfl ?_
        refine s_iload B X169 (pc' := 62) at_60 rfl rfl ?_
        refine s_iand B X169 (pc' := 63) (v := (14 : Int32)) at_62 rfl rfl ?_
        refine s_iload B X169 (pc' := 65) at_63 rfl rfl ?_
        refine s_icmpN B X169 (pc' := 68) at_65 (by decide) rfl ?_
        refine s_iconst B X169 (pc' := 69) (v := (1 : Int32)) at_68 rfl rfl ?_
        refine s_goto B X169 (pc' := 73) at_69 (by decide) (by decide) ?_
        refine s_istore B X169 (pc' := 75) (Ls' := #[.val (.int i0), .val (.int i1), .val (.int i2), .val (.ref w_READ), .val (.ref w_MEMBERSHIP), .val (.ref w_SHARED), .val (.ref w_WRITE), .val (.int (14 : Int32)), .val (.int (15 : Int32)), .val (.int (8 : Int32)), .val (.int (1 : Int32)), .unset]) at_73 rfl rfl ?_
        refine s_iload B X169 (pc' := 77) at_75 rfl rfl ?_
        refine s_iload B X169 (pc' := 79) at_77 rfl rfl ?_
        refine s_iand B X169 (pc' := 80) (v := (8 : Int32)) at_79 rfl rfl ?_
        refine s_iload B X169 (pc' := 82) at_80 rfl rfl ?_
        refine s_icmpY B X169 (pc' := 95) at_82 (by decide) (by decide) (by decide) ?_
        refine s_iconst B X169 (pc' := 96) (v := (1 : Int32)) at_95 rfl rfl ?_
        refine s_goto B X169 (pc' := 100) at_96 (by decide) (by decide) ?_
        refine s_istore B X169 (pc' := 102) (Ls' := #[.val (.int i0), .val (.int i1), .val (.int i2), .val (.ref w_READ), .val (.ref w_MEMBERSHIP), .val (.ref w_SHARED), .val (.ref w_WRITE), .val (.int (14 : Int32)), .val (.int (15 : Int32)), .val (.int (8 : Int32)), .val (.int (1 : Int32)), .val (.int (1 : Int32))]) at_100 rfl rfl ?_
        refine s_iload B X169 (pc' := 104) at_102 rfl rfl ?_
        refine s_ifN B X169 (pc' := 107) at_104 (by decide) rfl ?_
        refine s_iload B X169 (pc' := 109) at_107 rfl rfl ?_
        refine s_ifN B X169 (pc' := 112) at_109 (by decide) rfl ?_
        refine s_iconst B X169 (pc' := 113) (v := (1 : Int32)) at_112 rfl rfl ?_
        refine s_goto B X169 (pc' := 117) at_113 (by decide) (by decide) ?_
        exact r_nar B X169 (t := .boolean) (by simp) rfl at_117 ⟨rfl, (Fr.nil _)⟩ (by decide) (by decide)
      · refine p_static B X162 (y := mn0) (pc' := 15) (argsL := [(.int i2)]) (under := []) (W := 0) e162 (tw0 hw) (tw1 hw) (tw3 hw) (tw2 hw) (by decide) (rm_mode1 l Z a0 hw i2 hm163 w_SHARED w_WRITE w_MEMBERSHIP w_READ Z.heap F0) (lenOf pd_0 rfl) rfl rfl (by decide) (by decide) rfl rfl (by decide) (by decide) rfl at_12 rfl (fun T170 X170 e170 => ?_)
        show Go p e below _ (T170.setTop (mkF m 15 #[.val (.int i0), .val (.int i1), .val (.int i2), .val (.ref w_READ), .val (.ref w_MEMBERSHIP), .unset, .unset, .unset, .unset, .unset, .unset, .unset] [(.ref w_READ)]))
        refine s_astore B X170 (pc' := 17) (Ls' := #[.val (.int i0), .val (.int i1), .val (.int i2), .val (.ref w_READ), .val (.ref w_MEMBERSHIP), .val (.ref w_READ), .unset, .unset, .unset, .unset, .unset, .unset]) at_15 rfl rfl rfl ?_
        refine s_aloadN B X170 (pc' := 18) at_17 rfl rfl rfl ?_
        refine s_aload B X170 (pc' := 20) at_18 rfl rfl rfl ?_
        refine p_virtual B X170 (y := mn1) (pc' := 23) (argsL := [(.ref w_MEMBERSHIP)]) (under := []) (W := 0) e170 (tw11 hw) (tw12 hw) (tw14 hw) (tw13 hw) (tw15 hw) (tw5 hw) (by decide) (rm2_10 l Z a0 hw  w_SHARED w_WRITE w_MEMBERSHIP w_READ Z.heap F0 ) E_READ (lenOf pd_1 rfl) rfl rfl (by decide) (by decide) rfl rfl (by decide) (by decide) rfl at_20 rfl (fun T171 X171 e171 => ?_)
        show Go p e below _ (T171.setTop (mkF m 23 #[.val (.int i0), .val (.int i1), .val (.int i2), .val (.ref w_READ), .val (.ref w_MEMBERSHIP), .val (.ref w_READ), .unset, .unset, .unset, .unset, .unset, .unset] [(.ref w_WRITE)]))
        refine s_astore B X171 (pc' := 25) (Ls' := #[.val (.int i0), .val (.int i1), .val (.int i2), .val (.ref w_READ), .val (.ref w_MEMBERSHIP), .val (.ref w_READ), .val (.ref w_WRITE), .unset, .unset, .unset, .unset, .unset]) at_23 rfl rfl rfl ?_
        refine s_aload B X171 (pc' := 27) at_25 rfl rfl rfl ?_
        refine s_ifnonnullY B X171 (pc' := 32) at_27 (by decide) (by decide) ?_
        refine s_aloadN B X171 (pc' := 33) at_32 rfl rfl rfl ?_
        refine p_static B X171 (y := mn2) (pc' := 36) (argsL := [(.ref w_READ)]) (under := []) (W := 0) e171 (tw17 hw) (tw18 hw) (tw19 hw) (tw2 hw) (by decide) (rm3_2 l Z a0 hw  w_SHARED w_WRITE w_MEMBERSHIP w_READ Z.heap F0 ) (lenOf pd_2 rfl) rfl rfl (by decide) (by decide) rfl rfl (by decide) (by decide) rfl at_33 rfl (fun T172 X172 e172 => ?_)
        show Go p e below _ (T172.setTop (mkF m 36 #[.val (.int i0), .val (.int i1), .val (.int i2), .val (.ref w_READ), .val (.ref w_MEMBERSHIP), .val (.ref w_READ), .val (.ref w_WRITE), .unset, .unset, .unset, .unset, .unset] [(.int (12 : Int32))]))
        refine s_aload B X172 (pc' := 38) at_36 rfl rfl rfl ?_
        refine p_static B X172 (y := mn2) (pc' := 41) (argsL := [(.ref w_MEMBERSHIP)]) (under := [(.int (12 : Int32))]) (W := 1) e172 (tw17 hw) (tw18 hw) (tw19 hw) (tw2 hw) (by decide) (rm3_3 l Z a0 hw  w_SHARED w_WRITE w_MEMBERSHIP w_READ Z.heap F0 ) (lenOf pd_2 rfl) rfl rfl (by decide) (by decide) rfl rfl (by decide) (by decide) rfl at_38 rfl (fun T173 X173 e173 => ?_)
        show Go p e below _ (T173.setTop (mkF m 41 #[.val (.int i0), .val (.int i1), .val (.int i2), .val (.ref w_READ), .val (.ref w_MEMBERSHIP), .val (.ref w_READ), .val (.ref w_WRITE), .unset, .unset, .unset, .unset, .unset] [(.int (10 : Int32)), (.int (12 : Int32))]))
        refine s_ior B X173 (pc' := 42) (v := (14 : Int32)) at_41 rfl rfl ?_
        refine s_istore B X173 (pc' := 44) (Ls' := #[.val (.int i0), .val (.int i1), .val (.int i2), .val (.ref w_READ), .val (.ref w_MEMBERSHIP), .val (.ref w_READ), .val (.ref w_WRITE), .val (.int (14 : Int32)), .unset, .unset, .unset, .unset]) at_42 rfl rfl ?_
        refine s_aload B X173 (pc' := 46) at_44 rfl rfl rfl ?_
        refine p_static B X173 (y := mn2) (pc' := 49) (argsL := [(.ref w_WRITE)]) (under := []) (W := 0) e173 (tw17 hw) (tw18 hw) (tw19 hw) (tw2 hw) (by decide) (rm3_4 l Z a0 hw  w_SHARED w_WRITE w_MEMBERSHIP w_READ Z.heap F0 ) (lenOf pd_2 rfl) rfl rfl (by decide) (by decide) rfl rfl (by decide) (by decide) rfl at_46 rfl (fun T174 X174 e174 => ?_)
        show Go p e below _ (T174.setTop (mkF m 49 #[.val (.int i0), .val (.int i1), .val (.int i2), .val (.ref w_READ), .val (.ref w_MEMBERSHIP), .val (.ref w_READ), .val (.ref w_WRITE), .val (.int (14 : Int32)), .unset, .unset, .unset, .unset] [(.int (15 : Int32))]))
        refine s_istore B X174 (pc' := 51) (Ls' := #[.val (.int i0), .val (.int i1), .val (.int i2), .val (.ref w_READ), .val (.ref w_MEMBERSHIP), .val (.ref w_READ), .val (.ref w_WRITE), .val (.int (14 : Int32)), .val (.int (15 : Int32)), .unset, .unset, .unset]) at_49 rfl rfl ?_
        refine s_aload B X174 (pc' := 53) at_51 rfl rfl rfl ?_
        refine p_static B X174 (y := mn2) (pc' := 56) (argsL := [(.ref w_READ)]) (under := []) (W := 0) e174 (tw17 hw) (tw18 hw) (tw19 hw) (tw2 hw) (by decide) (rm3_2 l Z a0 hw  w_SHARED w_WRITE w_MEMBERSHIP w_READ Z.heap F0 ) (lenOf pd_2 rfl) rfl rfl (by decide) (by decide) rfl rfl (by decide) (by decide) rfl at_53 rfl (fun T175 X175 e175 => ?_)
        show Go p e below _ (T175.setTop (mkF m 56 #[.val (.int i0), .val (.int i1), .val (.int i2), .val (.ref w_READ), .val (.ref w_MEMBERSHIP), .val (.ref w_READ), .val (.ref w_WRITE), .val (.int (14 : Int32)), .val (.int (15 : Int32)), .unset, .unset, .unset] [(.int (12 : Int32))]))
        refine s_istore B X175 (pc' := 58) (Ls' := #[.val (.int i0), .val (.int i1), .val (.int i2), .val (.ref w_READ), .val (.ref w_MEMBERSHIP), .val (.ref w_READ), .val (.ref w_WRITE), .val (.int (14 : Int32)), .val (.int (15 : Int32)), .val (.int (12 : Int32)), .unset, .unset]) at_56 rfl rfl ?_
        refine s_iload B X175 (pc' := 60) at_58 rfl rfl ?_
        refine s_iload B X175 (pc' := 62) at_60 rfl rfl ?_
        refine s_iand B X175 (pc' := 63) (v := (14 : Int32)) at_62 rfl rfl ?_
        refine s_iload B X175 (pc' := 65) at_63 rfl rfl ?_
        refine s_icmpN B X175 (pc' := 68) at_65 (by decide) rfl ?_
        refine s_iconst B X175 (pc' := 69) (v := (1 : Int32)) at_68 rfl rfl ?_
        refine s_goto B X175 (pc' := 73) at_69 (by decide) (by decide) ?_
        refine s_istore B X175 (pc' := 75) (Ls' := #[.val (.int i0), .val (.int i1), .val (.int i2), .val (.ref w_READ), .val (.ref w_MEMBERSHIP), .val (.ref w_READ), .val (.ref w_WRITE), .val (.int (14 : Int32)), .val (.int (15 : Int32)), .val (.int (12 : Int32)), .val (.int (1 : Int32)), .unset]) at_73 rfl rfl ?_
        refine s_iload B X175 (pc' := 77) at_75 rfl rfl ?_
        refine s_iload B X175 (pc' := 79) at_77 rfl rfl ?_
        refine s_iand B X175 (pc' := 80) (v := (12 : Int32)) at_79 rfl rfl ?_
        refine s_iload B X175 (pc' := 82) at_80 rfl rfl ?_
        refine s_icmpY B X175 (pc' := 95) at_82 (by decide) (by decide) (by decide) ?_
        refine s_iconst B X175 (pc' := 96) (v := (1 : Int32)) at_95 rfl rfl ?_
        refine s_goto B X175 (pc' := 100) at_96 (by decide) (by decide) ?_
        refine s_istore B X175 (pc' := 102) (Ls' := #[.val (.int i0), .val (.int i1), .val (.int i2), .val (.ref w_READ), .val (.ref w_MEMBERSHIP), .val (.ref w_READ), .val (.ref w_WRITE), .val (.int (14 : Int32)), .val (.int (15 : Int32)), .val (.int (12 : Int32)), .val (.int (1 : Int32)), .val (.int (1 : Int32))]) at_100 rfl rfl ?_
        refine s_iload B X175 (pc' := 104) at_102 rfl rfl ?_
        refine s_ifN B X175 (pc' := 107) at_104 (by decide) rfl ?_
        refine s_iload B X175 (pc' := 109) at_107 rfl rfl ?_
        refine s_ifN B X175 (pc' := 112) at_109 (by decide) rfl ?_
        refine s_iconst B X175 (pc' := 113) (v := (1 : Int32)) at_112 rfl rfl ?_
        refine s_goto B X175 (pc' := 117) at_113 (by decide) (by decide) ?_
        exact r_nar B X175 (t := .boolean) (by simp) rfl at_117 ⟨rfl, (Fr.nil _)⟩ (by decide) (by decide)
      · refine p_static B X162 (y := mn0) (pc' := 15) (argsL := [(.int i2)]) (under := []) (W := 0) e162 (tw0 hw) (tw1 hw) (tw3 hw) (tw2 hw) (by decide) (rm_mode2 l Z a0 hw i2 hm163 w_SHARED w_WRITE w_MEMBERSHIP w_READ Z.heap F0) (lenOf pd_0 rfl) rfl rfl (by decide) (by decide) rfl rfl (by decide) (by decide) rfl at_12 rfl (fun T176 X176 e176 => ?_)
        show Go p e below _ (T176.setTop (mkF m 15 #[.val (.int i0), .val (.int i1), .val (.int i2), .val (.ref w_READ), .val (.ref w_MEMBERSHIP), .unset, .unset, .unset, .unset, .unset, .unset, .unset] [(.ref w_MEMBERSHIP)]))
        refine s_astore B X176 (pc' := 17) (Ls' := #[.val (.int i0), .val (.int i1), .val (.int i2), .val (.ref w_READ), .val (.ref w_MEMBERSHIP), .val (.ref w_MEMBERSHIP), .unset, .unset, .unset, .unset, .unset, .unset]) at_15 rfl rfl rfl ?_
        refine s_aloadN B X176 (pc' := 18) at_17 rfl rfl rfl ?_
        refine s_aload B X176 (pc' := 20) at_18 rfl rfl rfl ?_
        refine p_virtual B X176 (y := mn1) (pc' := 23) (argsL := [(.ref w_MEMBERSHIP)]) (under := []) (W := 0) e176 (tw11 hw) (tw12 hw) (tw14 hw) (tw13 hw) (tw15 hw) (tw5 hw) (by decide) (rm2_10 l Z a0 hw  w_SHARED w_WRITE w_MEMBERSHIP w_READ Z.heap F0 ) E_READ (lenOf pd_1 rfl) rfl rfl (by decide) (by decide) rfl rfl (by decide) (by decide) rfl at_20 rfl (fun T177 X177 e177 => ?_)
        show Go p e below _ (T177.setTop (mkF m 23 #[.val (.int i0), .val (.int i1), .val (.int i2), .val (.ref w_READ), .val (.ref w_MEMBERSHIP), .val (.ref w_MEMBERSHIP), .unset, .unset, .unset, .unset, .unset, .unset] [(.ref w_WRITE)]))
        refine s_astore B X177 (pc' := 25) (Ls' := #[.val (.int i0), .val (.int i1), .val (.int i2), .val (.ref w_READ), .val (.ref w_MEMBERSHIP), .val (.ref w_MEMBERSHIP), .val (.ref w_WRITE), .unset, .unset, .unset, .unset, .unset]) at_23 rfl rfl rfl ?_
        refine s_aload B X177 (pc' := 27) at_25 rfl rfl rfl ?_
        refine s_ifnonnullY B X177 (pc' := 32) at_27 (by decide) (by decide) ?_
        refine s_aloadN B X177 (pc' := 33) at_32 rfl rfl rfl ?_
        refine p_static B X177 (y := mn2) (pc' := 36) (argsL := [(.ref w_READ)]) (under := []) (W := 0) e177 (tw17 hw) (tw18 hw) (tw19 hw) (tw2 hw) (by decide) (rm3_2 l Z a0 hw  w_SHARED w_WRITE w_MEMBERSHIP w_READ Z.heap F0 ) (lenOf pd_2 rfl) rfl rfl (by decide) (by decide) rfl rfl (by decide) (by decide) rfl at_33 rfl (fun T178 X178 e178 => ?_)
        show Go p e below _ (T178.setTop (mkF m 36 #[.val (.int i0), .val (.int i1), .val (.int i2), .val (.ref w_READ), .val (.ref w_MEMBERSHIP), .val (.ref w_MEMBERSHIP), .val (.ref w_WRITE), .unset, .unset, .unset, .unset, .unset] [(.int (12 : Int32))]))
        refine s_aload B X178 (pc' := 38) at_36 rfl rfl rfl ?_
        refine p_static B X178 (y := mn2) (pc' := 41) (argsL := [(.ref w_MEMBERSHIP)]) (under := [(.int (12 : Int32))]) (W := 1) e178 (tw17 hw) (tw18 hw) (tw19 hw) (tw2 hw) (by decide) (rm3_3 l Z a0 hw  w_SHARED w_WRITE w_MEMBERSHIP w_READ Z.heap F0 ) (lenOf pd_2 rfl) rfl rfl (by decide) (by decide) rfl rfl (by decide) (by decide) rfl at_38 rfl (fun T179 X179 e179 => ?_)
        show Go p e below _ (T179.setTop (mkF m 41 #[.val (.int i0), .val (.int i1), .val (.int i2), .val (.ref w_READ), .val (.ref w_MEMBERSHIP), .val (.ref w_MEMBERSHIP), .val (.ref w_WRITE), .unset, .unset, .unset, .unset, .unset] [(.int (10 : Int32)), (.int (12 : Int32))]))
        refine s_ior B X179 (pc' := 42) (v := (14 : Int32)) at_41 rfl rfl ?_
        refine s_istore B X179 (pc' := 44) (Ls' := #[.val (.int i0), .val (.int i1), .val (.int i2), .val (.ref w_READ), .val (.ref w_MEMBERSHIP), .val (.ref w_MEMBERSHIP), .val (.ref w_WRITE), .val (.int (14 : Int32)), .unset, .unset, .unset, .unset]) at_42 rfl rfl ?_
        refine s_aload B X179 (pc' := 46) at_44 rfl rfl rfl ?_
        refine p_static B X179 (y := mn2) (pc' := 49) (argsL := [(.ref w_WRITE)]) (under := []) (W := 0) e179 (tw17 hw) (tw18 hw) (tw19 hw) (tw2 hw) (by decide) (rm3_4 l Z a0 hw  w_SHARED w_WRITE w_MEMBERSHIP w_READ Z.heap F0 ) (lenOf pd_2 rfl) rfl rfl (by decide) (by decide) rfl rfl (by decide) (by decide) rfl at_46 rfl (fun T180 X180 e180 => ?_)
        show Go p e below _ (T180.setTop (mkF m 49 #[.val (.int i0), .val (.int i1), .val (.int i2), .val (.ref w_READ), .val (.ref w_MEMBERSHIP), .val (.ref w_MEMBERSHIP), .val (.ref w_WRITE), .val (.int (14 : Int32)), .unset, .unset, .unset, .unset] [(.int (15 : Int32))]))
        refine s_istore B X180 (pc' := 51) (Ls' := #[.val (.int i0), .val (.int i1), .val (.int i2), .val (.ref w_READ), .val (.ref w_MEMBERSHIP), .val (.ref w_MEMBERSHIP), .val (.ref w_WRITE), .val (.int (14 : Int32)), .val (.int (15 : Int32)), .unset, .unset, .unset]) at_49 rfl rfl ?_
        refine s_aload B X180 (pc' := 53) at_51 rfl rfl rfl ?_
        refine p_static B X180 (y := mn2) (pc' := 56) (argsL := [(.ref w_MEMBERSHIP)]) (under := []) (W := 0) e180 (tw17 hw) (tw18 hw) (tw19 hw) (tw2 hw) (by decide) (rm3_3 l Z a0 hw  w_SHARED w_WRITE w_MEMBERSHIP w_READ Z.heap F0 ) (lenOf pd_2 rfl) rfl rfl (by decide) (by decide) rfl rfl (by decide) (by decide) rfl at_53 rfl (fun T181 X181 e181 => ?_)
        show Go p e below _ (T181.setTop (mkF m 56 #[.val (.int i0), .val (.int i1), .val (.int i2), .val (.ref w_READ), .val (.ref w_MEMBERSHIP), .val (.ref w_MEMBERSHIP), .val (.ref w_WRITE), .val (.int (14 : Int32)), .val (.int (15 : Int32)), .unset, .unset, .unset] [(.int (10 : Int32))]))
        refine s_istore B X181 (pc' := 58) (Ls' := #[.val (.int i0), .val (.int i1), .val (.int i2), .val (.ref w_READ), .val (.ref w_MEMBERSHIP), .val (.ref w_MEMBERSHIP), .val (.ref w_WRITE), .val (.int (14 : Int32)), .val (.int (15 : Int32)), .val (.int (10 : Int32)), .unset, .unset]) at_56 rfl rfl ?_
        refine s_iload B X181 (pc' := 60) at_58 rfl rfl ?_
        refine s_iload B X181 (pc' := 62) at_60 rfl rfl ?_
        refine s_iand B X181 (pc' := 63) (v := (14 : Int32)) at_62 rfl rfl ?_
        refine s_iload B X181 (pc' := 65) at_63 rfl rfl ?_
        refine s_icmpN B X181 (pc' := 68) at_65 (by decide) rfl ?_
        refine s_iconst B X181 (pc' := 69) (v := (1 : Int32)) at_68 rfl rfl ?_
        refine s_goto B X181 (pc' := 73) at_69 (by decide) (by decide) ?_
        refine s_istore B X181 (pc' := 75) (Ls' := #[.val (.int i0), .val (.int i1), .val (.int i2), .val (.ref w_READ), .val (.ref w_MEMBERSHIP), .val (.ref w_MEMBERSHIP), .val (.ref w_WRITE), .val (.int (14 : Int32)), .val (.int (15 : Int32)), .val (.int (10 : Int32)), .val (.int (1 : Int32)), .unset]) at_73 rfl rfl ?_
        refine s_iload B X181 (pc' := 77) at_75 rfl rfl ?_
        refine s_iload B X181 (pc' := 79) at_77 rfl rfl ?_
        refine s_iand B X181 (pc' := 80) (v := (10 : Int32)) at_79 rfl rfl ?_
        refine s_iload B X181 (pc' := 82) at_80 rfl rfl ?_
        refine s_icmpY B X181 (pc' := 95) at_82 (by decide) (by decide) (by decide) ?_
        refine s_iconst B X181 (pc' := 96) (v := (1 : Int32)) at_95 rfl rfl ?_
        refine s_goto B X181 (pc' := 100) at_96 (by decide) (by decide) ?_
        refine s_istore B X181 (pc' := 102) (Ls' := #[.val (.int i0), .val (.int i1), .val (.int i2), .val (.ref w_READ), .val (.ref w_MEMBERSHIP), .val (.ref w_MEMBERSHIP), .val (.ref w_WRITE), .val (.int (14 : Int32)), .val (.int (15 : Int32)), .val (.int (10 : Int32)), .val (.int (1 : Int32)), .val (.int (1 : Int32))]) at_100 rfl rfl ?_
        refine s_iload B X181 (pc' := 104) at_102 rfl rfl ?_
        refine s_ifN B X181 (pc' := 107) at_104 (by decide) rfl ?_
        refine s_iload B X181 (pc' := 109) at_107 rfl rfl ?_
        refine s_ifN B X181 (pc' := 112) at_109 (by decide) rfl ?_
        refine s_iconst B X181 (pc' := 113) (v := (1 : Int32)) at_112 rfl rfl ?_
        refine s_goto B X181 (pc' := 117) at_113 (by decide) (by decide) ?_
        exact r_nar B X181 (t := .boolean) (by simp) rfl at_117 ⟨rfl, (Fr.nil _)⟩ (by decide) (by decide)
      · refine p_static B X162 (y := mn0) (pc' := 15) (argsL := [(.int i2)]) (under := []) (W := 0) e162 (tw0 hw) (tw1 hw) (tw3 hw) (tw2 hw) (by decide) (rm_mode3 l Z a0 hw i2 hm163 w_SHARED w_WRITE w_MEMBERSHIP w_READ Z.heap F0) (lenOf pd_0 rfl) rfl rfl (by decide) (by decide) rfl rfl (by decide) (by decide) rfl at_12 rfl (fun T182 X182 e182 => ?_)
        show Go p e below _ (T182.setTop (mkF m 15 #[.val (.int i0), .val (.int i1), .val (.int i2), .val (.ref w_READ), .val (.ref w_MEMBERSHIP), .unset, .unset, .unset, .unset, .unset, .unset, .unset] [(.ref w_WRITE)]))
        refine s_astore B X182 (pc' := 17) (Ls' := #[.val (.int i0), .val (.int i1), .val (.int i2), .val (.ref w_READ), .val (.ref w_MEMBERSHIP), .val (.ref w_WRITE), .unset, .unset, .unset, .unset, .unset, .unset]) at_15 rfl rfl rfl ?_
        refine s_aloadN B X182 (pc' := 18) at_17 rfl rfl rfl ?_
        refine s_aload B X182 (pc' := 20) at_18 rfl rfl rfl ?_
        refine p_virtual B X182 (y := mn1) (pc' := 23) (argsL := [(.ref w_MEMBERSHIP)]) (under := []) (W := 0) e182 (tw11 hw) (tw12 hw) (tw14 hw) (tw13 hw) (tw15 hw) (tw5 hw) (by decide) (rm2_10 l Z a0 hw  w_SHARED w_WRITE w_MEMBERSHIP w_READ Z.heap F0 ) E_READ (lenOf pd_1 rfl) rfl rfl (by decide) (by decide) rfl rfl (by decide) (by decide) rfl at_20 rfl (fun T183 X183 e183 => ?_)
        show Go p e below _ (T183.setTop (mkF m 23 #[.val (.int i0), .val (.int i1), .val (.int i2), .val (.ref w_READ), .val (.ref w_MEMBERSHIP), .val (.ref w_WRITE), .unset, .unset, .unset, .unset, .unset, .unset] [(.ref w_WRITE)]))
        refine s_astore B X183 (pc' := 25) (Ls' := #[.val (.int i0), .val (.int i1), .val (.int i2), .val (.ref w_READ), .val (.ref w_MEMBERSHIP), .val (.ref w_WRITE), .val (.ref w_WRITE), .unset, .unset, .unset, .unset, .unset]) at_23 rfl rfl rfl ?_
        refine s_aload B X183 (pc' := 27) at_25 rfl rfl rfl ?_
        refine s_ifnonnullY B X183 (pc' := 32) at_27 (by decide) (by decide) ?_
        refine s_aloadN B X183 (pc' := 33) at_32 rfl rfl rfl ?_
        refine p_static B X183 (y := mn2) (pc' := 36) (argsL := [(.ref w_READ)]) (under := []) (W := 0) e183 (tw17 hw) (tw18 hw) (tw19 hw) (tw2 hw) (by decide) (rm3_2 l Z a0 hw  w_SHARED w_WRITE w_MEMBERSHIP w_READ Z.heap F0 ) (lenOf pd_2 rfl) rfl rfl (by decide) (by decide) rfl rfl (by decide) (by decide) rfl at_33 rfl (fun T184 X184 e184 => ?_)
        show Go p e below _ (T184.setTop (mkF m 36 #[.val (.int i0), .val (.int i1), .val (.int i2), .val (.ref w_READ), .val (.ref w_MEMBERSHIP), .val (.ref w_WRITE), .val (.ref w_WRITE), .unset, .unset, .unset, .unset, .unset] [(.int (12 : Int32))]))
        refine s_aload B X184 (pc' := 38) at_36 rfl rfl rfl ?_
        refine p_static B X184 (y := mn2) (pc' := 41) (argsL := [(.ref w_MEMBERSHIP)]) (under := [(.int (12 : Int32))]) (W := 1) e184 (tw17 hw) (tw18 hw) (tw19 hw) (tw2 hw) (by decide) (rm3_3 l Z a0 hw  w_SHARED w_WRITE w_MEMBERSHIP w_READ Z.heap F0 ) (lenOf pd_2 rfl) rfl rfl (by decide) (by decide) rfl rfl (by decide) (by decide) rfl at_38 rfl (fun T185 X185 e185 => ?_)
        show Go p e below _ (T185.setTop (mkF m 41 #[.val (.int i0), .val (.int i1), .val (.int i2), .val (.ref w_READ), .val (.ref w_MEMBERSHIP), .val (.ref w_WRITE), .val (.ref w_WRITE), .unset, .unset, .unset, .unset, .unset] [(.int (10 : Int32)), (.int (12 : Int32))]))
        refine s_ior B X185 (pc' := 42) (v := (14 : Int32)) at_41 rfl rfl ?_
        refine s_istore B X185 (pc' := 44) (Ls' := #[.val (.int i0), .val (.int i1), .val (.int i2), .val (.ref w_READ), .val (.ref w_MEMBERSHIP), .val (.ref w_WRITE), .val (.ref w_WRITE), .val (.int (14 : Int32)), .unset, .unset, .unset, .unset]) at_42 rfl rfl ?_
        refine s_aload B X185 (pc' := 46) at_44 rfl rfl rfl ?_
        refine p_static B X185 (y := mn2) (pc' := 49) (argsL := [(.ref w_WRITE)]) (under := []) (W := 0) e185 (tw17 hw) (tw18 hw) (tw19 hw) (tw2 hw) (by decide) (rm3_4 l Z a0 hw  w_SHARED w_WRITE w_MEMBERSHIP w_READ Z.heap F0 ) (lenOf pd_2 rfl) rfl rfl (by decide) (by decide) rfl rfl (by decide) (by decide) rfl at_46 rfl (fun T186 X186 e186 => ?_)
        show Go p e below _ (T186.setTop (mkF m 49 #[.val (.int i0), .val (.int i1), .val (.int i2), .val (.ref w_READ), .val (.ref w_MEMBERSHIP), .val (.ref w_WRITE), .val (.ref w_WRITE), .val (.int (14 : Int32)), .unset, .unset, .unset, .unset] [(.int (15 : Int32))]))
        refine s_istore B X186 (pc' := 51) (Ls' := #[.val (.int i0), .val (.int i1), .val (.int i2), .val (.ref w_READ), .val (.ref w_MEMBERSHIP), .val (.ref w_WRITE), .val (.ref w_WRITE), .val (.int (14 : Int32)), .val (.int (15 : Int32)), .unset, .unset, .unset]) at_49 rfl rfl ?_
        refine s_aload B X186 (pc' := 53) at_51 rfl rfl rfl ?_
        refine p_static B X186 (y := mn2) (pc' := 56) (argsL := [(.ref w_WRITE)]) (under := []) (W := 0) e186 (tw17 hw) (tw18 hw) (tw19 hw) (tw2 hw) (by decide) (rm3_4 l Z a0 hw  w_SHARED w_WRITE w_MEMBERSHIP w_READ Z.heap F0 ) (lenOf pd_2 rfl) rfl rfl (by decide) (by decide) rfl rfl (by decide) (by decide) rfl at_53 rfl (fun T187 X187 e187 => ?_)
        show Go p e below _ (T187.setTop (mkF m 56 #[.val (.int i0), .val (.int i1), .val (.int i2), .val (.ref w_READ), .val (.ref w_MEMBERSHIP), .val (.ref w_WRITE), .val (.ref w_WRITE), .val (.int (14 : Int32)), .val (.int (15 : Int32)), .unset, .unset, .unset] [(.int (15 : Int32))]))
        refine s_istore B X187 (pc' := 58) (Ls' := #[.val (.int i0), .val (.int i1), .val (.int i2), .val (.ref w_READ), .val (.ref w_MEMBERSHIP), .val (.ref w_WRITE), .val (.ref w_WRITE), .val (.int (14 : Int32)), .val (.int (15 : Int32)), .val (.int (15 : Int32)), .unset, .unset]) at_56 rfl rfl ?_
        refine s_iload B X187 (pc' := 60) at_58 rfl rfl ?_
        refine s_iload B X187 (pc' := 62) at_60 rfl rfl ?_
        refine s_iand B X187 (pc' := 63) (v := (14 : Int32)) at_62 rfl rfl ?_
        refine s_iload B X187 (pc' := 65) at_63 rfl rfl ?_
        refine s_icmpN B X187 (pc' := 68) at_65 (by decide) rfl ?_
        refine s_iconst B X187 (pc' := 69) (v := (1 : Int32)) at_68 rfl rfl ?_
        refine s_goto B X187 (pc' := 73) at_69 (by decide) (by decide) ?_
        refine s_istore B X187 (pc' := 75) (Ls' := #[.val (.int i0), .val (.int i1), .val (.int i2), .val (.ref w_READ), .val (.ref w_MEMBERSHIP), .val (.ref w_WRITE), .val (.ref w_WRITE), .val (.int (14 : Int32)), .val (.int (15 : Int32)), .val (.int (15 : Int32)), .val (.int (1 : Int32)), .unset]) at_73 rfl rfl ?_
        refine s_iload B X187 (pc' := 77) at_75 rfl rfl ?_
        refine s_iload B X187 (pc' := 79) at_77 rfl rfl ?_
        refine s_iand B X187 (pc' := 80) (v := (14 : Int32)) at_79 rfl rfl ?_
        refine s_iload B X187 (pc' := 82) at_80 rfl rfl ?_
        refine s_icmpN B X187 (pc' := 85) at_82 (by decide) rfl ?_
        refine s_iload B X187 (pc' := 87) at_85 rfl rfl ?_
        refine s_iload B X187 (pc' := 89) at_87 rfl rfl ?_
        refine s_iand B X187 (pc' := 90) (v := (15 : Int32)) at_89 rfl rfl ?_
        refine s_iload B X187 (pc' := 92) at_90 rfl rfl ?_
        refine s_icmpN B X187 (pc' := 95) at_92 (by decide) rfl ?_
        refine s_iconst B X187 (pc' := 96) (v := (1 : Int32)) at_95 rfl rfl ?_
        refine s_goto B X187 (pc' := 100) at_96 (by decide) (by decide) ?_
        refine s_istore B X187 (pc' := 102) (Ls' := #[.val (.int i0), .val (.int i1), .val (.int i2), .val (.ref w_READ), .val (.ref w_MEMBERSHIP), .val (.ref w_WRITE), .val (.ref w_WRITE), .val (.int (14 : Int32)), .val (.int (15 : Int32)), .val (.int (15 : Int32)), .val (.int (1 : Int32)), .val (.int (1 : Int32))]) at_100 rfl rfl ?_
        refine s_iload B X187 (pc' := 104) at_102 rfl rfl ?_
        refine s_ifN B X187 (pc' := 107) at_104 (by decide) rfl ?_
        refine s_iload B X187 (pc' := 109) at_107 rfl rfl ?_
        refine s_ifN B X187 (pc' := 112) at_109 (by decide) rfl ?_
        refine s_iconst B X187 (pc' := 113) (v := (1 : Int32)) at_112 rfl rfl ?_
        refine s_goto B X187 (pc' := 117) at_113 (by decide) (by decide) ?_
        exact r_nar B X187 (t := .boolean) (by simp) rfl at_117 ⟨rfl, (Fr.nil _)⟩ (by decide) (by decide)
    · refine p_static B X108 (y := mn0) (pc' := 9) (argsL := [(.int i1)]) (under := []) (W := 0) e108 (tw0 hw) (tw1 hw) (tw3 hw) (tw2 hw) (by decide) (rm_mode3 l Z a0 hw i1 hm109 w_SHARED w_WRITE w_MEMBERSHIP w_READ Z.heap F0) (lenOf pd_0 rfl) rfl rfl (by decide) (by decide) rfl rfl (by decide) (by decide) rfl at_6 rfl (fun T188 X188 e188 => ?_)
      show Go p e below _ (T188.setTop (mkF m 9 #[.val (.int i0), .val (.int i1), .val (.int i2), .val (.ref w_READ), .unset, .unset, .unset, .unset, .unset, .unset, .unset, .unset] [(.ref w_WRITE)]))
      refine s_astore B X188 (pc' := 11) (Ls' := #[.val (.int i0), .val (.int i1), .val (.int i2), .val (.ref w_READ), .val (.ref w_WRITE), .unset, .unset, .unset, .unset, .unset, .unset, .unset]) at_9 rfl rfl rfl ?_
      refine s_iloadN B X188 (pc' := 12) at_11 rfl rfl ?_
      rcases own_and3 i2 with hm189 | hm189 | hm189 | hm189
      · refine p_static B X188 (y := mn0) (pc' := 15) (argsL := [(.int i2)]) (under := []) (W := 0) e188 (tw0 hw) (tw1 hw) (tw3 hw) (tw2 hw) (by decide) (rm_mode0 l Z a0 hw i2 hm189 w_SHARED w_WRITE w_MEMBERSHIP w_READ Z.heap F0) (lenOf pd_0 rfl) rfl rfl (by decide) (by decide) rfl rfl (by decide) (by decide) rfl at_12 rfl (fun T190 X190 e190 => ?_)
        show Go p e below _ (T190.setTop (mkF m 15 #[.val (.int i0), .val (.int i1), .val (.int i2), .val (.ref w_READ), .val (.ref w_WRITE), .unset, .unset, .unset, .unset, .unset, .unset, .unset] [(.ref w_SHARED)]))
        refine s_astore B X190 (pc' := 17) (Ls' := #[.val (.int i0), .val (.int i1), .val (.int i2), .val (.ref w_READ), .val (.ref w_WRITE), .val (.ref w_SHARED), .unset, .unset, .unset, .unset, .unset, .unset]) at_15 rfl rfl rfl ?_
        refine s_aloadN B X190 (pc' := 18) at_17 rfl rfl rfl ?_
        refine s_aload B X190 (pc' := 20) at_18 rfl rfl rfl ?_
        refine p_virtual B X190 (y := mn1) (pc' := 23) (argsL := [(.ref w_WRITE)]) (under := []) (W := 0) e190 (tw11 hw) (tw12 hw) (tw14 hw) (tw13 hw) (tw15 hw) (tw5 hw) (by decide) (rm2_11 l Z a0 hw  w_SHARED w_WRITE w_MEMBERSHIP w_READ Z.heap F0 ) E_READ (lenOf pd_1 rfl) rfl rfl (by decide) (by decide) rfl rfl (by decide) (by decide) rfl at_20 rfl (fun T191 X191 e191 => ?_)
        show Go p e below _ (T191.setTop (mkF m 23 #[.val (.int i0), .val (.int i1), .val (.int i2), .val (.ref w_READ), .val (.ref w_WRITE), .val (.ref w_SHARED), .unset, .unset, .unset, .unset, .unset, .unset] [(.ref w_WRITE)]))
        refine s_astore B X191 (pc' := 25) (Ls' := #[.val (.int i0), .val (.int i1), .val (.int i2), .val (.ref w_READ), .val (.ref w_WRITE), .val (.ref w_SHARED), .val (.ref w_WRITE), .unset, .unset, .unset, .unset, .unset]) at_23 rfl rfl rfl ?_
        refine s_aload B X191 (pc' := 27) at_25 rfl rfl rfl ?_
        refine s_ifnonnullY B X191 (pc' := 32) at_27 (by decide) (by decide) ?_
        refine s_aloadN B X191 (pc' := 33) at_32 rfl rfl rfl ?_
        refine p_static B X191 (y := mn2) (pc' := 36) (argsL := [(.ref w_READ)]) (under := []) (W := 0) e191 (tw17 hw) (tw18 hw) (tw19 hw) (tw2 hw) (by decide) (rm3_2 l Z a0 hw  w_SHARED w_WRITE w_MEMBERSHIP w_READ Z.heap F0 ) (lenOf pd_2 rfl) rfl rfl (by decide) (by decide) rfl rfl (by decide) (by decide) rfl at_33 rfl (fun T192 X192 e192 => ?_)
        show Go p e below _ (T192.setTop (mkF m 36 #[.val (.int i0), .val (.int i1), .val (.int i2), .val (.ref w_READ), .val (.ref w_WRITE), .val (.ref w_SHARED), .val (.ref w_WRITE), .unset, .unset, .unset, .unset, .unset] [(.int (12 : Int32))]))
        refine s_aload B X192 (pc' := 38) at_36 rfl rfl rfl ?_
        refine p_static B X192 (y := mn2) (pc' := 41) (argsL := [(.ref w_WRITE)]) (under := [(.int (12 : Int32))]) (W := 1) e192 (tw17 hw) (tw18 hw) (tw19 hw) (tw2 hw) (by decide) (rm3_4 l Z a0 hw  w_SHARED w_WRITE w_MEMBERSHIP w_READ Z.heap F0 ) (lenOf pd_2 rfl) rfl rfl (by decide) (by decide) rfl rfl (by decide) (by decide) rfl at_38 rfl (fun T193 X193 e193 => ?_)
        show Go p e below _ (T193.setTop (mkF m 41 #[.val (.int i0), .val (.int i1), .val (.int i2), .val (.ref w_READ), .val (.ref w_WRITE), .val (.ref w_SHARED), .val (.ref w_WRITE), .unset, .unset, .unset, .unset, .unset] [(.int (15 : Int32)), (.int (12 : Int32))]))
        refine s_ior B X193 (pc' := 42) (v := (15 : Int32)) at_41 rfl rfl ?_
        refine s_istore B X193 (pc' := 44) (Ls' := #[.val (.int i0), .val (.int i1), .val (.int i2), .val (.ref w_READ), .val (.ref w_WRITE), .val (.ref w_SHARED), .val (.ref w_WRITE), .val (.int (15 : Int32)), .unset, .unset, .unset, .unset]) at_42 rfl rfl ?_
        refine s_aload B X193 (pc' := 46) at_44 rfl rfl rfl ?_
        refine p_static B X193 (y := mn2) (pc' := 49) (argsL := [(.ref w_WRITE)]) (under := []) (W := 0) e193 (tw17 hw) (tw18 hw) (tw19 hw) (tw2 hw) (by decide) (rm3_4 l Z a0 hw  w_SHARED w_WRITE w_MEMBERSHIP w_READ Z.heap F0 ) (lenOf pd_2 rfl) rfl rfl (by decide) (by decide) rfl rfl (by decide) (by decide) rfl at_46 rfl (fun T194 X194 e194 => ?_)
        show Go p e below _ (T194.setTop (mkF m 49 #[.val (.int i0), .val (.int i1), .val (.int i2), .val (.ref w_READ), .val (.ref w_WRITE), .val (.ref w_SHARED), .val (.ref w_WRITE), .val (.int (15 : Int32)), .unset, .unset, .unset, .unset] [(.int (15 : Int32))]))
        refine s_istore B X194 (pc' := 51) (Ls' := #[.val (.int i0), .val (.int i1), .val (.int i2), .val (.ref w_READ), .val (.ref w_WRITE), .val (.ref w_SHARED), .val (.ref w_WRITE), .val (.int (15 : Int32)), .val (.int (15 : Int32)), .unset, .unset, .unset]) at_49 rfl rfl ?_
        refine s_aload B X194 (pc' := 53) at_51 rfl rfl rfl ?_
        refine p_static B X194 (y := mn2) (pc' := 56) (argsL := [(.ref w_SHARED)]) (under := []) (W := 0) e194 (tw17 hw) (tw18 hw) (tw19 hw) (tw2 hw) (by decide) (rm3_1 l Z a0 hw  w_SHARED w_WRITE w_MEMBERSHIP w_READ Z.heap F0 ) (lenOf pd_2 rfl) rfl rfl (by decide) (by decide) rfl rfl (by decide) (by decide) rfl at_53 rfl (fun T195 X195 e195 => ?_)
        show Go p e below _ (T195.setTop (mkF m 56 #[.val (.int i0), .val (.int i1), .val (.int i2), .val (.ref w_READ), .val (.ref w_WRITE), .val (.ref w_SHARED), .val (.ref w_WRITE), .val (.int (15 : Int32)), .val (.int (15 : Int32)), .unset, .unset, .unset] [(.int (8 : Int32))]))
        refine s_istore B X195 (pc' := 58) (Ls' := #[.val (.int i0), .val (.int i1), .val (.int i2), .val (.ref w_READ), .val (.ref w_WRITE), .val (.ref w_SHARED), .val (.ref w_WRITE), .val (.int (15 : Int32)), .val (.int (15 : Int32)), .val (.int (8 : Int32)), .unset, .unset]) at_56 rfl rfl ?_
        refine s_iload B X195 (pc' := 60) at_58 rfl rfl ?_
        refine s_iload B X195 (pc' := 62) at_60 rfl rfl ?_
        refine s_iand B X195 (pc' := 63) (v := (15 : Int32)) at_62 rfl rfl ?_
        refine s_iload B X195 (pc' := 65) at_63 rfl rfl ?_
        refine s_icmpN B X195 (pc' := 68) at_65 (by decide) rfl ?_
        refine s_iconst B X195 (pc' := 69) (v := (1 : Int32)) at_68 rfl rfl ?_
        refine s_goto B X195 (pc' := 73) at_69 (by decide) (by decide) ?_
        refine s_istore B X195 (pc' := 75) (Ls' := #[.val (.int i0), .val (.int i1), .val (.int i2), .val (.ref w_READ), .val (.ref w_WRITE), .val (.ref w_SHARED), .val (.ref w_WRITE), .val (.int (15 : Int32)), .val (.int (15 : Int32)), .val (.int (8 : Int32)), .val (.int (1 : Int32)), .unset]) at_73 rfl rfl ?_
        refine s_iload B X195 (pc' := 77) at_75 rfl rfl ?_
        refine s_iload B X195 (pc' := 79) at_77 rfl rfl ?_
        refine s_iand B X195 (pc' := 80) (v := (8 : Int32)) at_79 rfl rfl ?_
        refine s_iload B X195 (pc' := 82) at_80 rfl rfl ?_
        refine s_icmpY B X195 (pc' := 95) at_82 (by decide) (by decide) (by decide) ?_
        refine s_iconst B X195 (pc' := 96) (v := (1 : Int32)) at_95 rfl rfl ?_
        refine s_goto B X195 (pc' := 100) at_96 (by decide) (by decide) ?_
        refine s_istore B X195 (pc' := 102) (Ls' := #[.val (.int i0), .val (.int i1), .val (.int i2), .val (.ref w_READ), .val (.ref w_WRITE), .val (.ref w_SHARED), .val (.ref w_WRITE), .val (.int (15 : Int32)), .val (.int (15 : Int32)), .val (.int (8 : Int32)), .val (.int (1 : Int32)), .val (.int (1 : Int32))]) at_100 rfl rfl ?_
        refine s_iload B X195 (pc' := 104) at_102 rfl rfl ?_
        refine s_ifN B X195 (pc' := 107) at_104 (by decide) rfl ?_
        refine s_iload B X195 (pc' := 109) at_107 rfl rfl ?_
        refine s_ifN B X195 (pc' := 112) at_109 (by decide) rfl ?_
        refine s_iconst B X195 (pc' := 113) (v := (1 : Int32)) at_112 rfl rfl ?_
        refine s_goto B X195 (pc' := 117) at_113 (by decide) (by decide) ?_
        exact r_nar B X195 (t := .boolean) (by simp) rfl at_117 ⟨rfl, (Fr.nil _)⟩ (by decide) (by decide)
      · refine p_static B X188 (y := mn0) (pc' := 15) (argsL := [(.int i2)]) (under := []) (W := 0) e188 (tw0 hw) (tw1 hw) (tw3 hw) (tw2 hw) (by decide) (rm_mode1 l Z a0 hw i2 hm189 w_SHARED w_WRITE w_MEMBERSHIP w_READ Z.heap F0) (lenOf pd_0 rfl) rfl rfl (by decide) (by decide) rfl rfl (by decide) (by decide) rfl at_12 rfl (fun T196 X196 e196 => ?_)
        show Go p e below _ (T196.setTop (mkF m 15 #[.val (.int i0), .val (.int i1), .val (.int i2), .val (.ref w_READ), .val (.ref w_WRITE), .unset, .unset, .unset, .unset, .unset, .unset, .unset] [(.ref w_READ)]))
        refine s_astore B X196 (pc' := 17) (Ls' := #[.val (.int i0), .val (.int i1), .val (.int i2), .val (.ref w_READ), .val (.ref w_WRITE), .val (.ref w_READ), .unset, .unset, .unset, .unset, .unset, .unset]) at_15 rfl rfl rfl ?_
        refine s_aloadN B X196 (pc' := 18) at_17 rfl rfl rfl ?_
        refine s_aload B X196 (pc' := 20) at_18 rfl rfl rfl ?_
        refine p_virtual B X196 (y := mn1) (pc' := 23) (argsL := [(.ref w_WRITE)]) (under := []) (W := 0) e196 (tw11 hw) (tw12 hw) (tw14 hw) (tw13 hw) (tw15 hw) (tw5 hw) (by decide) (rm2_11 l Z a0 hw  w_SHARED w_WRITE w_MEMBERSHIP w_READ Z.heap F0 ) E_READ (lenOf pd_1 rfl) rfl rfl (by decide) (by decide) rfl rfl (by decide) (by decide) rfl at_20 rfl (fun T197 X197 e197 => ?_)
        show Go p e below _ (T197.setTop (mkF m 23 #[.val (.int i0), .val (.int i1), .val (.int i2), .val (.ref w_READ), .val (.ref w_WRITE), .val (.ref w_READ), .unset, .unset, .unset, .unset, .unset, .unset] [(.ref w_WRITE)]))
        refine s_astore B X197 (pc' := 25) (Ls' := #[.val (.int i0), .val (.int i1), .val (.int i2), .val (.ref w_READ), .val (.ref w_WRITE), .val (.ref w_READ), .val (.ref w_WRITE), .unset, .unset, .unset, .unset, .unset]) at_23 rfl rfl rfl ?_
        refine s_aload B X197 (pc' := 27) at_25 rfl rfl rfl ?_
        refine s_ifnonnullY B X197 (pc' := 32) at_27 (by decide) (by decide) ?_
        refine s_aloadN B X197 (pc' := 33) at_32 rfl rfl rfl ?_
        refine p_static B X197 (y := mn2) (pc' := 36) (argsL := [(.ref w_READ)]) (under := []) (W := 0) e197 (tw17 hw) (tw18 hw) (tw19 hw) (tw2 hw) (by decide) (rm3_2 l Z a0 hw  w_SHARED w_WRITE w_MEMBERSHIP w_READ Z.heap F0 ) (lenOf pd_2 rfl) rfl rfl (by decide) (by decide) rfl rfl (by decide) (by decide) rfl at_33 rfl (fun T198 X198 e198 => ?_)
        show Go p e below _ (T198.setTop (mkF m 36 #[.val (.int i0), .val (.int i1), .val (.int i2), .val (.ref w_READ), .val (.ref w_WRITE), .val (.ref w_READ), .val (.ref w_WRITE), .unset, .unset, .unset, .unset, .unset] [(.int (12 : Int32))]))
        refine s_aload B X198 (pc' := 38) at_36 rfl rfl rfl ?_
        refine p_static B X198 (y := mn2) (pc' := 41) (argsL := [(.ref w_WRITE)]) (under := [(.int (12 : Int32))]) (W := 1) e198 (tw17 hw) (tw18 hw) (tw19 hw) (tw2 hw) (by decide) (rm3_4 l Z a0 hw  w_SHARED w_WRITE w_MEMBERSHIP w_READ Z.heap F0 ) (lenOf pd_2 rfl) rfl rfl (by decide) (by decide) rfl rfl (by decide) (by decide) rfl at_38 rfl (fun T199 X199 e199 => ?_)
        show Go p e below _ (T199.setTop (mkF m 41 #[.val (.int i0), .val (.int i1), .val (.int i2), .val (.ref w_READ), .val (.ref w_WRITE), .val (.ref w_READ), .val (.ref w_WRITE), .unset, .unset, .unset, .unset, .unset] [(.int (15 : Int32)), (.int (12 : Int32))]))
        refine s_ior B X199 (pc' := 42) (v := (15 : Int32)) at_41 rfl rfl ?_
        refine s_istore B X199 (pc' := 44) (Ls' := #[.val (.int i0), .val (.int i1), .val (.int i2), .val (.ref w_READ), .val (.ref w_WRITE), .val (.ref w_READ), .val (.ref w_WRITE), .val (.int (15 : Int32)), .unset, .unset, .unset, .unset]) at_42 rfl rfl ?_
        refine s_aload B X199 (pc' := 46) at_44 rfl rfl rfl ?_
        refine p_static B X199 (y := mn2) (pc' := 49) (argsL := [(.ref w_WRITE)]) (under := []) (W := 0) e199 (tw17 hw) (tw18 hw) (tw19 hw) (tw2 hw) (by decide) (rm3_4 l Z a0 hw  w_SHARED w_WRITE w_MEMBERSHIP w_READ Z.heap F0 ) (lenOf pd_2 rfl) rfl rfl (by decide) (by decide) rfl rfl (by decide) (by decide) rfl at_46 rfl (fun T200 X200 e200 => ?_)
        show Go p e below _ (T200.setTop (mkF m 49 #[.val (.int i0), .val (.int i1), .val (.int i2), .val (.ref w_READ), .val (.ref w_WRITE), .val (.ref w_READ), .val (.ref w_WRITE), .val (.int (15 : Int32)), .unset, .unset, .unset, .unset] [(.int (15 : Int32))]))
        refine s_istore B X200 (pc' := 51) (Ls' := #[.val (.int i0), .val (.int i1), .val (.int i2), .val (.ref w_READ), .val (.ref w_WRITE), .val (.ref w_READ), .val (.ref w_WRITE), .val (.int (15 : Int32)), .val (.int (15 : Int32)), .unset, .unset, .unset]) at_49 rfl rfl ?_
        refine s_aload B X200 (pc' := 53) at_51 rfl rfl rfl ?_
        refine p_static B X200 (y := mn2) (pc' := 56) (argsL := [(.ref w_READ)]) (under := []) (W := 0) e200 (tw17 hw) (tw18 hw) (tw19 hw) (tw2 hw) (by decide) (rm3_2 l Z a0 hw  w_SHARED w_WRITE w_MEMBERSHIP w_READ Z.heap F0 ) (lenOf pd_2 rfl) rfl rfl (by decide) (by decide) rfl rfl (by decide) (by decide) rfl at_53 rfl (fun T201 X201 e201 => ?_)
        show Go p e below _ (T201.setTop (mkF m 56 #[.val (.int i0), .val (.int i1), .val (.int i2), .val (.ref w_READ), .val (.ref w_WRITE), .val (.ref w_READ), .val (.ref w_WRITE), .val (.int (15 : Int32)), .val (.int (15 : Int32)), .unset, .unset, .unset] [(.int (12 : Int32))]))
        refine s_istore B X201 (pc' := 58) (Ls' := #[.val (.int i0), .val (.int i1), .val (.int i2), .val (.ref w_READ), .val (.ref w_WRITE), .val (.ref w_READ), .val (.ref w_WRITE), .val (.int (15 : Int32)), .val (.int (15 : Int32)), .val (.int (12 : Int32)), .unset, .unset]) at_56 rfl rfl ?_
        refine s_iload B X201 (pc' := 60) at_58 rfl rfl ?_
        refine s_iload B X201 (pc' := 62) at_60 rfl rfl ?_
        refine s_iand B X201 (pc' := 63) (v := (15 : Int32)) at_62 rfl rfl ?_
        refine s_iload B X201 (pc' := 65) at_63 rfl rfl ?_
        refine s_icmpN B X201 (pc' := 68) at_65 (by decide) rfl ?_
        refine s_iconst B X201 (pc' := 69) (v := (1 : Int32)) at_68 rfl rfl ?_
        refine s_goto B X201 (pc' := 73) at_69 (by decide) (by decide) ?_
        refine s_istore B X201 (pc' := 75) (Ls' := #[.val (.int i0), .val (.int i1), .val (.int i2), .val (.ref w_READ), .val (.ref w_WRITE), .val (.ref w_READ), .val (.ref w_WRITE), .val (.int (15 : Int32)), .val (.int (15 : Int32)), .val (.int (12 : Int32)), .val (.int (1 : Int32)), .unset]) at_73 rfl rfl ?_
        refine s_iload B X201 (pc' := 77) at_75 rfl rfl ?_
        refine s_iload B X201 (pc' := 79) at_77 rfl rfl ?_
        refine s_iand B X201 (pc' := 80) (v := (12 : Int32)) at_79 rfl rfl ?_
        refine s_iload B X201 (pc' := 82) at_80 rfl rfl ?_
        refine s_icmpY B X201 (pc' := 95) at_82 (by decide) (by decide) (by decide) ?_
        refine s_iconst B X201 (pc' := 96) (v := (1 : Int32)) at_95 rfl rfl ?_
        refine s_goto B X201 (pc' := 100) at_96 (by decide) (by decide) ?_
        refine s_istore B X201 (pc' := 102) (Ls' := #[.val (.int i0), .val (.int i1), .val (.int i2), .val (.ref w_READ), .val (.ref w_WRITE), .val (.ref w_READ), .val (.ref w_WRITE), .val (.int (15 : Int32)), .val (.int (15 : Int32)), .val (.int (12 : Int32)), .val (.int (1 : Int32)), .val (.int (1 : Int32))]) at_100 rfl rfl ?_
        refine s_iload B X201 (pc' := 104) at_102 rfl rfl ?_
        refine s_ifN B X201 (pc' := 107) at_104 (by decide) rfl ?_
        refine s_iload B X201 (pc' := 109) at_107 rfl rfl ?_
        refine s_ifN B X201 (pc' := 112) at_109 (by decide) rfl ?_
        refine s_iconst B X201 (pc' := 113) (v := (1 : Int32)) at_112 rfl rfl ?_
        refine s_goto B X201 (pc' := 117) at_113 (by decide) (by decide) ?_
        exact r_nar B X201 (t := .boolean) (by simp) rfl at_117 ⟨rfl, (Fr.nil _)⟩ (by decide) (by decide)
      · refine p_static B X188 (y := mn0) (pc' := 15) (argsL := [(.int i2)]) (under := []) (W := 0) e188 (tw0 hw) (tw1 hw) (tw3 hw) (tw2 hw) (by decide) (rm_mode2 l Z a0 hw i2 hm189 w_SHARED w_WRITE w_MEMBERSHIP w_READ Z.heap F0) (lenOf pd_0 rfl) rfl rfl (by decide) (by decide) rfl rfl (by decide) (by decide) rfl at_12 rfl (fun T202 X202 e202 => ?_)
        show Go p e below _ (T202.setTop (mkF m 15 #[.val (.int i0), .val (.int i1), .val (.int i2), .val (.ref w_READ), .val (.ref w_WRITE), .unset, .unset, .unset, .unset, .unset, .unset, .unset] [(.ref w_MEMBERSHIP)]))
        refine s_astore B X202 (pc' := 17) (Ls' := #[.val (.int i0), .val (.int i1), .val (.int i2), .val (.ref w_READ), .val (.ref w_WRITE), .val (.ref w_MEMBERSHIP), .unset, .unset, .unset, .unset, .unset, .unset]) at_15 rfl rfl rfl ?_
        refine s_aloadN B X202 (pc' := 18) at_17 rfl rfl rfl ?_
        refine s_aload B X202 (pc' := 20) at_18 rfl rfl rfl ?_
        refine p_virtual B X202 (y := mn1) (pc' := 23) (argsL := [(.ref w_WRITE)]) (under := []) (W := 0) e202 (tw11 hw) (tw12 hw) (tw14 hw) (tw13 hw) (tw15 hw) (tw5 hw) (by decide) (rm2_11 l Z a0 hw  w_SHARED w_WRITE w_MEMBERSHIP w_READ Z.heap F0 ) E_READ (lenOf pd_1 rfl) rfl rfl (by decide) (by decide) rfl rfl (by decide) (by decide) rfl at_20 rfl (fun T203 X203 e203 => ?_)
        show Go p e below _ (T203.setTop (mkF m 23 #[.val (.int i0), .val (.int i1), .val (.int i2), .val (.ref w_READ), .val (.ref w_WRITE), .val (.ref w_MEMBERSHIP), .unset, .unset, .unset, .unset, .unset, .unset] [(.ref w_WRITE)]))
        refine s_astore B X203 (pc' := 25) (Ls' := #[.val (.int i0), .val (.int i1), .val (.int i2), .val (.ref w_READ), .val (.ref w_WRITE), .val (.ref w_MEMBERSHIP), .val (.ref w_WRITE), .unset, .unset, .unset, .unset, .unset]) at_23 rfl rfl rfl ?_
        refine s_aload B X203 (pc' := 27) at_25 rfl rfl rfl ?_
        refine s_ifnonnullY B X203 (pc' := 32) at_27 (by decide) (by decide) ?_
        refine s_aloadN B X203 (pc' := 33) at_32 rfl rfl rfl ?_
        refine p_static B X203 (y := mn2) (pc' := 36) (argsL := [(.ref w_READ)]) (under := []) (W := 0) e203 (tw17 hw) (tw18 hw) (tw19 hw) (tw2 hw) (by decide) (rm3_2 l Z a0 hw  w_SHARED w_WRITE w_MEMBERSHIP w_READ Z.heap F0 ) (lenOf pd_2 rfl) rfl rfl (by decide) (by decide) rfl rfl (by decide) (by decide) rfl at_33 rfl (fun T204 X204 e204 => ?_)
        show Go p e below _ (T204.setTop (mkF m 36 #[.val (.int i0), .val (.int i1), .val (.int i2), .val (.ref w_READ), .val (.ref w_WRITE), .val (.ref w_MEMBERSHIP), .val (.ref w_WRITE), .unset, .unset, .unset, .unset, .unset] [(.int (12 : Int32))]))
        refine s_aload B X204 (pc' := 38) at_36 rfl rfl rfl ?_
        refine p_static B X204 (y := mn2) (pc' := 41) (argsL := [(.ref w_WRITE)]) (under := [(.int (12 : Int32))]) (W := 1) e204 (tw17 hw) (tw18 hw) (tw19 hw) (tw2 hw) (by decide) (rm3_4 l Z a0 hw  w_SHARED w_WRITE w_MEMBERSHIP w_READ Z.heap F0 ) (lenOf pd_2 rfl) rfl rfl (by decide) (by decide) rfl rfl (by decide) (by decide) rfl at_38 rfl (fun T205 X205 e205 => ?_)
        show Go p e below _ (T205.setTop (mkF m 41 #[.val (.int i0), .val (.int i1), .val (.int i2), .val (.ref w_READ), .val (.ref w_WRITE), .val (.ref w_MEMBERSHIP), .val (.ref w_WRITE), .unset, .unset, .unset, .unset, .unset] [(.int (15 : Int32)), (.int (12 : Int32))]))
        refine s_ior B X205 (pc' := 42) (v := (15 : Int32)) at_41 rfl rfl ?_
        refine s_istore B X205 (pc' := 44) (Ls' := #[.val (.int i0), .val (.int i1), .val (.int i2), .val (.ref w_READ), .val (.ref w_WRITE), .val (.ref w_MEMBERSHIP), .val (.ref w_WRITE), .val (.int (15 : Int32)), .unset, .unset, .unset, .unset]) at_42 rfl rfl ?_
        refine s_aload B X205 (pc' := 46) at_44 rfl rfl rfl ?_
        refine p_static B X205 (y := mn2) (pc' := 49) (argsL := [(.ref w_WRITE)]) (under := []) (W := 0) e205 (tw17 hw) (tw18 hw) (tw19 hw) (tw2 hw) (by decide) (rm3_4 l Z a0 hw  w_SHARED w_WRITE w_MEMBERSHIP w_READ Z.heap F0 ) (lenOf pd_2 rfl) rfl rfl (by decide) (by decide) rfl rfl (by decide) (by decide) rfl at_46 rfl (fun T206 X206 e206 => ?_)
        show Go p e below _ (T206.setTop (mkF m 49 #[.val (.int i0), .val (.int i1), .val (.int i2), .val (.ref w_READ), .val (.ref w_WRITE), .val (.ref w_MEMBERSHIP), .val (.ref w_WRITE), .val (.int (15 : Int32)), .unset, .unset, .unset, .unset] [(.int (15 : Int32))]))
        refine s_istore B X206 (pc' := 51) (Ls' := #[.val (.int i0), .val (.int i1), .val (.int i2), .val (.ref w_READ), .val (.ref w_WRITE), .val (.ref w_MEMBERSHIP), .val (.ref w_WRITE), .val (.int (15 : Int32)), .val (.int (15 : Int32)), .unset, .unset, .unset]) at_49 rfl rfl ?_
        refine s_aload B X206 (pc' := 53) at_51 rfl rfl rfl ?_
        refine p_static B X206 (y := mn2) (pc' := 56) (argsL := [(.ref w_MEMBERSHIP)]) (under := []) (W := 0) e206 (tw17 hw) (tw18 hw) (tw19 hw) (tw2 hw) (by decide) (rm3_3 l Z a0 hw  w_SHARED w_WRITE w_MEMBERSHIP w_READ Z.heap F0 ) (lenOf pd_2 rfl) rfl rfl (by decide) (by decide) rfl rfl (by decide) (by decide) rfl at_53 rfl (fun T207 X207 e207 => ?_)
        show Go p e below _ (T207.setTop (mkF m 56 #[.val (.int i0), .val (.int i1), .val (.int i2), .val (.ref w_READ), .val (.ref w_WRITE), .val (.ref w_MEMBERSHIP), .val (.ref w_WRITE), .val (.int (15 : Int32)), .val (.int (15 : Int32)), .unset, .unset, .unset] [(.int (10 : Int32))]))
        refine s_istore B X207 (pc' := 58) (Ls' := #[.val (.int i0), .val (.int i1), .val (.int i2), .val (.ref w_READ), .val (.ref w_WRITE), .val (.ref w_MEMBERSHIP), .val (.ref w_WRITE), .val (.int (15 : Int32)), .val (.int (15 : Int32)), .val (.int (10 : Int32)), .unset, .unset]) at_56 rfl rfl ?_
        refine s_iload B X207 (pc' := 60) at_58 rfl rfl ?_
        refine s_iload B X207 (pc' := 62) at_60 rfl rfl ?_
        refine s_iand B X207 (pc' := 63) (v := (15 : Int32)) at_62 rfl rfl ?_
        refine s_iload B X207 (pc' := 65) at_63 rfl rfl ?_
        refine s_icmpN B X207 (pc' := 68) at_65 (by decide) rfl ?_
        refine s_iconst B X207 (pc' := 69) (v := (1 : Int32)) at_68 rfl rfl ?_
        refine s_goto B X207 (pc' := 73) at_69 (by decide) (by decide) ?_
        refine s_istore B X207 (pc' := 75) (Ls' := #[.val (.int i0), .val (.int i1), .val (.int i2), .val (.ref w_READ), .val (.ref w_WRITE), .val (.ref w_MEMBERSHIP), .val (.ref w_WRITE), .val (.int (15 : Int32)), .val (.int (15 : Int32)), .val (.int (10 : Int32)), .val (.int (1 : Int32)), .unset]) at_73 rfl rfl ?_
        refine s_iload B X207 (pc' := 77) at_75 rfl rfl ?_
        refine s_iload B X207 (pc' := 79) at_77 rfl rfl ?_
        refine s_iand B X207 (pc' := 80) (v := (10 : Int32)) at_79 rfl rfl ?_
        refine s_iload B X207 (pc' := 82) at_80 rfl rfl ?_
        refine s_icmpY B X207 (pc' := 95) at_82 (by decide) (by decide) (by decide) ?_
        refine s_iconst B X207 (pc' := 96) (v := (1 : Int32)) at_95 rfl rfl ?_
        refine s_goto B X207 (pc' := 100) at_96 (by decide) (by decide) ?_
        refine s_istore B X207 (pc' := 102) (Ls' := #[.val (.int i0), .val (.int i1), .val (.int i2), .val (.ref w_READ), .val (.ref w_WRITE), .val (.ref w_MEMBERSHIP), .val (.ref w_WRITE), .val (.int (15 : Int32)), .val (.int (15 : Int32)), .val (.int (10 : Int32)), .val (.int (1 : Int32)), .val (.int (1 : Int32))]) at_100 rfl rfl ?_
        refine s_iload B X207 (pc' := 104) at_102 rfl rfl ?_
        refine s_ifN B X207 (pc' := 107) at_104 (by decide) rfl ?_
        refine s_iload B X207 (pc' := 109) at_107 rfl rfl ?_
        refine s_ifN B X207 (pc' := 112) at_109 (by decide) rfl ?_
        refine s_iconst B X207 (pc' := 113) (v := (1 : Int32)) at_112 rfl rfl ?_
        refine s_goto B X207 (pc' := 117) at_113 (by decide) (by decide) ?_
        exact r_nar B X207 (t := .boolean) (by simp) rfl at_117 ⟨rfl, (Fr.nil _)⟩ (by decide) (by decide)
      · refine p_static B X188 (y := mn0) (pc' := 15) (argsL := [(.int i2)]) (under := []) (W := 0) e188 (tw0 hw) (tw1 hw) (tw3 hw) (tw2 hw) (by decide) (rm_mode3 l Z a0 hw i2 hm189 w_SHARED w_WRITE w_MEMBERSHIP w_READ Z.heap F0) (lenOf pd_0 rfl) rfl rfl (by decide) (by decide) rfl rfl (by decide) (by decide) rfl at_12 rfl (fun T208 X208 e208 => ?_)
        show Go p e below _ (T208.setTop (mkF m 15 #[.val (.int i0), .val (.int i1), .val (.int i2), .val (.ref w_READ), .val (.ref w_WRITE), .unset, .unset, .unset, .unset, .unset, .unset, .unset] [(.ref w_WRITE)]))
        refine s_astore B X208 (pc' := 17) (Ls' := #[.val (.int i0), .val (.int i1), .val (.int i2), .val (.ref w_READ), .val (.ref w_WRITE), .val (.ref w_WRITE), .unset, .unset, .unset, .unset, .unset, .unset]) at_15 rfl rfl rfl ?_
        refine s_aloadN B X208 (pc' := 18) at_17 rfl rfl rfl ?_
        refine s_aload B X208 (pc' := 20) at_18 rfl rfl rfl ?_
        refine p_virtual B X208 (y := mn1) (pc' := 23) (argsL := [(.ref w_WRITE)]) (under := []) (W := 0) e208 (tw11 hw) (tw12 hw) (tw14 hw) (tw13 hw) (tw15 hw) (tw5 hw) (by decide) (rm2_11 l Z a0 hw  w_SHARED w_WRITE w_MEMBERSHIP w_READ Z.heap F0 ) E_READ (lenOf pd_1 rfl) rfl rfl (by decide) (by decide) rfl rfl (by decide) (by decide) rfl at_20 rfl (fun T209 X209 e209 => ?_)
        show Go p e below _ (T209.setTop (mkF m 23 #[.val (.int i0), .val (.int i1), .val (.int i2), .val (.ref w_READ), .val (.ref w_WRITE), .val (.ref w_WRITE), .unset, .unset, .unset, .unset, .unset, .unset] [(.ref w_WRITE)]))
        refine s_astore B X209 (pc' := 25) (Ls' := #[.val (.int i0), .val (.int i1), .val (.int i2), .val (.ref w_READ), .val (.ref w_WRITE), .val (.ref w_WRITE), .val (.ref w_WRITE), .unset, .unset, .unset, .unset, .unset]) at_23 rfl rfl rfl ?_
        refine s_aload B X209 (pc' := 27) at_25 rfl rfl rfl ?_
        refine s_ifnonnullY B X209 (pc' := 32) at_27 (by decide) (by decide) ?_
        refine s_aloadN B X209 (pc' := 33) at_32 rfl rfl rfl ?_
        refine p_static B X209 (y := mn2) (pc' := 36) (argsL := [(.ref w_READ)]) (under := []) (W := 0) e209 (tw17 hw) (tw18 hw) (tw19 hw) (tw2 hw) (by decide) (rm3_2 l Z a0 hw  w_SHARED w_WRITE w_MEMBERSHIP w_READ Z.heap F0 ) (lenOf pd_2 rfl) rfl rfl (by decide) (by decide) rfl rfl (by decide) (by decide) rfl at_33 rfl (fun T210 X210 e210 => ?_)
        show Go p e below _ (T210.setTop (mkF m 36 #[.val (.int i0), .val (.int i1), .val (.int i2), .val (.ref w_READ), .val (.ref w_WRITE), .val (.ref w_WRITE), .val (.ref w_WRITE), .unset, .unset, .unset, .unset, .unset] [(.int (12 : Int32))]))
        refine s_aload B X210 (pc' := 38) at_36 rfl rfl rfl ?_
        refine p_static B X210 (y := mn2) (pc' := 41) (argsL := [(.ref w_WRITE)]) (under := [(.int (12 : Int32))]) (W := 1) e210 (tw17 hw) (tw18 hw) (tw19 hw) (tw2 hw) (by decide) (rm3_4 l Z a0 hw  w_SHARED w_WRITE w_MEMBERSHIP w_READ Z.heap F0 ) (lenOf pd_2 rfl) rfl rfl (by decide) (by decide) rfl rfl (by decide) (by decide) rfl at_38 rfl (fun T211 X211 e211 => ?_)
        show Go p e below _ (T211.setTop (mkF m 41 #[.val (.int i0), .val (.int i1), .val (.int i2), .val (.ref w_READ), .val (.ref w_WRITE), .val (.ref w_WRITE), .val (.ref w_WRITE), .unset, .unset, .unset, .unset, .unset] [(.int (15 : Int32)), (.int (12 : Int32))]))
        refine s_ior B X211 (pc' := 42) (v := (15 : Int32)) at_41 rfl rfl ?_
        refine s_istore B X211 (pc' := 44) (Ls' := #[.val (.int i0), .val (.int i1), .val (.int i2), .val (.ref w_READ), .val (.ref w_WRITE), .val (.ref w_WRITE), .val (.ref w_WRITE), .val (.int (15 : Int32)), .unset, .unset, .unset, .unset]) at_42 rfl rfl ?_
        refine s_aload B X211 (pc' := 46) at_44 rfl rfl rfl ?_
        refine p_static B X211 (y := mn2) (pc' := 49) (argsL := [(.ref w_WRITE)]) (under := []) (W := 0) e211 (tw17 hw) (tw18 hw) (tw19 hw) (tw2 hw) (by decide) (rm3_4 l Z a0 hw  w_SHARED w_WRITE w_MEMBERSHIP w_READ Z.heap F0 ) (lenOf pd_2 rfl) rfl rfl (by decide) (by decide) rfl rfl (by decide) (by decide) rfl at_46 rfl (fun T212 X212 e212 => ?_)
        show Go p e below _ (T212.setTop (mkF m 49 #[.val (.int i0), .val (.int i1), .val (.int i2), .val (.ref w_READ), .val (.ref w_WRITE), .val (.ref w_WRITE), .val (.ref w_WRITE), .val (.int (15 : Int32)), .unset, .unset, .unset, .unset] [(.int (15 : Int32))]))
        refine s_istore B X212 (pc' := 51) (Ls' := #[.val (.int i0), .val (.int i1), .val (.int i2), .val (.ref w_READ), .val (.ref w_WRITE), .val (.ref w_WRITE), .val (.ref w_WRITE), .val (.int (15 : Int32)), .val (.int (15 : Int32)), .unset, .unset, .unset]) at_49 rfl rfl ?_
        refine s_aload B X212 (pc' := 53) at_51 rfl rfl rfl ?_
        refine p_static B X212 (y := mn2) (pc' := 56) (argsL := [(.ref w_WRITE)]) (under := []) (W := 0) e212 (tw17 hw) (tw18 hw) (tw19 hw) (tw2 hw) (by decide) (rm3_4 l Z a0 hw  w_SHARED w_WRITE w_MEMBERSHIP w_READ Z.heap F0 ) (lenOf pd_2 rfl) rfl rfl (by decide) (by decide) rfl rfl (by decide) (by decide) rfl at_53 rfl (fun T213 X213 e213 => ?_)
        show Go p e below _ (T213.setTop (mkF m 56 #[.val (.int i0), .val (.int i1), .val (.int i2), .val (.ref w_READ), .val (.ref w_WRITE), .val (.ref w_WRITE), .val (.ref w_WRITE), .val (.int (15 : Int32)), .val (.int (15 : Int32)), .unset, .unset, .unset] [(.int (15 : Int32))]))
        refine s_istore B X213 (pc' := 58) (Ls' := #[.val (.int i0), .val (.int i1), .val (.int i2), .val (.ref w_READ), .val (.ref w_WRITE), .val (.ref w_WRITE), .val (.ref w_WRITE), .val (.int (15 : Int32)), .val (.int (15 : Int32)), .val (.int (15 : Int32)), .unset, .unset]) at_56 rfl rfl ?_
        refine s_iload B X213 (pc' := 60) at_58 rfl rfl ?_
        refine s_iload B X213 (pc' := 62) at_60 rfl rfl ?_
        refine s_iand B X213 (pc' := 63) (v := (15 : Int32)) at_62 rfl rfl ?_
        refine s_iload B X213 (pc' := 65) at_63 rfl rfl ?_
        refine s_icmpN B X213 (pc' := 68) at_65 (by decide) rfl ?_
        refine s_iconst B X213 (pc' := 69) (v := (1 : Int32)) at_68 rfl rfl ?_
        refine s_goto B X213 (pc' := 73) at_69 (by decide) (by decide) ?_
        refine s_istore B X213 (pc' := 75) (Ls' := #[.val (.int i0), .val (.int i1), .val (.int i2), .val (.ref w_READ), .val (.ref w_WRITE), .val (.ref w_WRITE), .val (.ref w_WRITE), .val (.int (15 : Int32)), .val (.int (15 : Int32)), .val (.int (15 : Int32)), .val (.int (1 : Int32)), .unset]) at_73 rfl rfl ?_
        refine s_iload B X213 (pc' := 77) at_75 rfl rfl ?_
        refine s_iload B X213 (pc' := 79) at_77 rfl rfl ?_
        refine s_iand B X213 (pc' := 80) (v := (15 : Int32)) at_79 rfl rfl ?_
        refine s_iload B X213 (pc' := 82) at_80 rfl rfl ?_
        refine s_icmpN B X213 (pc' := 85) at_82 (by decide) rfl ?_
        refine s_iload B X213 (pc' := 87) at_85 rfl rfl ?_
        refine s_iload B X213 (pc' := 89) at_87 rfl rfl ?_
        refine s_iand B X213 (pc' := 90) (v := (15 : Int32)) at_89 rfl rfl ?_
        refine s_iload B X213 (pc' := 92) at_90 rfl rfl ?_
        refine s_icmpN B X213 (pc' := 95) at_92 (by decide) rfl ?_
        refine s_iconst B X213 (pc' := 96) (v := (1 : Int32)) at_95 rfl rfl ?_
        refine s_goto B X213 (pc' := 100) at_96 (by decide) (by decide) ?_
        refine s_istore B X213 (pc' := 102) (Ls' := #[.val (.int i0), .val (.int i1), .val (.int i2), .val (.ref w_READ), .val (.ref w_WRITE), .val (.ref w_WRITE), .val (.ref w_WRITE), .val (.int (15 : Int32)), .val (.int (15 : Int32)), .val (.int (15 : Int32)), .val (.int (1 : Int32)), .val (.int (1 : Int32))]) at_100 rfl rfl ?_
        refine s_iload B X213 (pc' := 104) at_102 rfl rfl ?_
        refine s_ifN B X213 (pc' := 107) at_104 (by decide) rfl ?_
        refine s_iload B X213 (pc' := 109) at_107 rfl rfl ?_
        refine s_ifN B X213 (pc' := 112) at_109 (by decide) rfl ?_
        refine s_iconst B X213 (pc' := 113) (v := (1 : Int32)) at_112 rfl rfl ?_
        refine s_goto B X213 (pc' := 117) at_113 (by decide) (by decide) ?_
        exact r_nar B X213 (t := .boolean) (by simp) rfl at_117 ⟨rfl, (Fr.nil _)⟩ (by decide) (by decide)
  · refine p_static B X0 (y := mn0) (pc' := 4) (argsL := [(.int i0)]) (under := []) (W := 0) e0 (tw0 hw) (tw1 hw) (tw3 hw) (tw2 hw) (by decide) (rm_mode2 l Z a0 hw i0 hm1 w_SHARED w_WRITE w_MEMBERSHIP w_READ Z.heap F0) (lenOf pd_0 rfl) rfl rfl (by decide) (by decide) rfl rfl (by decide) (by decide) rfl at_1 rfl (fun T214 X214 e214 => ?_)
    show Go p e below _ (T214.setTop (mkF m 4 #[.val (.int i0), .val (.int i1), .val (.int i2), .unset, .unset, .unset, .unset, .unset, .unset, .unset, .unset, .unset] [(.ref w_MEMBERSHIP)]))
    refine s_astoreN B X214 (pc' := 5) (Ls' := #[.val (.int i0), .val (.int i1), .val (.int i2), .val (.ref w_MEMBERSHIP), .unset, .unset, .unset, .unset, .unset, .unset, .unset, .unset]) at_4 rfl rfl rfl ?_
    refine s_iloadN B X214 (pc' := 6) at_5 rfl rfl ?_
    rcases own_and3 i1 with hm215 | hm215 | hm215 | hm215
    · refine p_static B X214 (y := mn0) (pc' := 9) (argsL := [(.int i1)]) (under := []) (W := 0) e214 (tw0 hw) (tw1 hw) (tw3 hw) (tw2 hw) (by decide) (rm_mode0 l Z a0 hw i1 hm215 w_SHARED w_WRITE w_MEMBERSHIP w_READ Z.heap F0) (lenOf pd_0 rfl) rfl rfl (by decide) (by decide) rfl rfl (by decide) (by decide) rfl at_6 rfl (fun T216 X216 e216 => ?_)
      show Go p e below _ (T216.setTop (mkF m 9 #[.val (.int i0), .val (.int i1), .val (.int i2), .val (.ref w_MEMBERSHIP), .unset, .unset, .unset, .unset, .unset, .unset, .unset, .unset] [(.ref w_SHARED)]))
      refine s_astore B X216 (pc' := 11) (Ls' := #[.val (.int i0), .val (.int i1), .val (.int i2), .val (.ref w_MEMBERSHIP), .val (.ref w_SHARED), .unset, .unset, .unset, .unset, .unset, .unset, .unset]) at_9 rfl rfl rfl ?_
      refine s_iloadN B X216 (pc' := 12) at_11 rfl rfl ?_
      rcases own_and3 i2 with hm217 | hm217 | hm217 | hm217
      · refine p_static B X216 (y := mn0) (pc' := 15) (argsL := [(.int i2)]) (under := []) (W := 0) e216 (tw0 hw) (tw1 hw) (tw3 hw) (tw2 hw) (by decide) (rm_mode0 l Z a0 hw i2 hm217 w_SHARED w_WRITE w_MEMBERSHIP w_READ Z.heap F0) (lenOf pd_0 rfl) rfl rfl (by decide) (by decide) rfl rfl (by decide) (by decide) rfl at_12 rfl (fun T218 X218 e218 => ?_)
        show Go p e below _ (T218.setTop (mkF m 15 #[.val (.int i0), .val (.int i1), .val (.int i2), .val (.ref w_MEMBERSHIP), .val (.ref w_SHARED), .unset, .unset, .unset, .unset, .unset, .unset, .unset] [(.ref w_SHARED)]))
        refine s_astore B X218 (pc' := 17) (Ls' := #[.val (.int i0), .val (.int i1), .val (.int i2), .val (.ref w_MEMBERSHIP), .val (.ref w_SHARED), .val (.ref w_SHARED), .unset, .unset, .unset, .unset, .unset, .unset]) at_15 rfl rfl rfl ?_
        refine s_aloadN B X218 (pc' := 18) at_17 rfl rfl rfl ?_
        refine s_aload B X218 (pc' := 20) at_18 rfl rfl rfl ?_
        refine p_virtual B X218 (y := mn1) (pc' := 23) (argsL := [(.ref w_SHARED)]) (under := []) (W := 0) e218 (tw11 hw) (tw12 hw) (tw14 hw) (tw13 hw) (tw15 hw) (tw5 hw) (by decide) (rm2_12 l Z a0 hw  w_SHARED w_WRITE w_MEMBERSHIP w_READ Z.heap F0 ) E_MEMBERSHIP (lenOf pd_1 rfl) rfl rfl (by decide) (by decide) rfl rfl (by decide) (by decide) rfl at_20 rfl (fun T219 X219 e219 => ?_)
        show Go p e below _ (T219.setTop (mkF m 23 #[.val (.int i0), .val (.int i1), .val (.int i2), .val (.ref w_MEMBERSHIP), .val (.ref w_SHARED), .val (.ref w_SHARED), .unset, .unset, .unset, .unset, .unset, .unset] [(.ref w_MEMBERSHIP)]))
        refine s_astore B X219 (pc' := 25) (Ls' := #[.val (.int i0), .val (.int i1), .val (.int i2), .val (.ref w_MEMBERSHIP), .val (.ref w_SHARED), .val (.ref w_SHARED), .val (.ref w_MEMBERSHIP), .unset, .unset, .unset, .unset, .unset]) at_23 rfl rfl rfl ?_
        refine s_aload B X219 (pc' := 27) at_25 rfl rfl rfl ?_
        refine s_ifnonnullY B X219 (pc' := 32) at_27 (by decide) (by decide) ?_
        refine s_aloadN B X219 (pc' := 33) at_32 rfl rfl rfl ?_
        refine p_static B X219 (y := mn2) (pc' := 36) (argsL := [(.ref w_MEMBERSHIP)]) (under := []) (W := 0) e219 (tw17 hw) (tw18 hw) (tw19 hw) (tw2 hw) (by decide) (rm3_3 l Z a0 hw  w_SHARED w_WRITE w_MEMBERSHIP w_READ Z.heap F0 ) (lenOf pd_2 rfl) rfl rfl (by decide) (by decide) rfl rfl (by decide) (by decide) rfl at_33 rfl (fun T220 X220 e220 => ?_)
        show Go p e below _ (T220.setTop (mkF m 36 #[.val (.int i0), .val (.int i1), .val (.int i2), .val (.ref w_MEMBERSHIP), .val (.ref w_SHARED), .val (.ref w_SHARED), .val (.ref w_MEMBERSHIP), .unset, .unset, .unset, .unset, .unset] [(.int (10 : Int32))]))
        refine s_aload B X220 (pc' := 38) at_36 rfl rfl rfl ?_
        refine p_static B X220 (y := mn2) (pc' := 41) (argsL := [(.ref w_SHARED)]) (under := [(.int (10 : Int32))]) (W := 1) e220 (tw17 hw) (tw18 hw) (tw19 hw) (tw2 hw) (by decide) (rm3_1 l Z a0 hw  w_SHARED w_WRITE w_MEMBERSHIP w_READ Z.heap F0 ) (lenOf pd_2 rfl) rfl rfl (by decide) (by decide) rfl rfl (by decide) (by decide) rfl at_38 rfl (fun T221 X221 e221 => ?_)
        show Go p e below _ (T221.setTop (mkF m 41 #[.val (.int i0), .val (.int i1), .val (.int i2), .val (.ref w_MEMBERSHIP), .val (.ref w_SHARED), .val (.ref w_SHARED), .val (.ref w_MEMBERSHIP), .unset, .unset, .unset, .unset, .unset] [(.int (8 : Int32)), (.int (10 : Int32))]))
        refine s_ior B X221 (pc' := 42) (v := (10 : Int32)) at_41 rfl rfl ?_
        refine s_istore B X221 (pc' := 44) (Ls' := #[.val (.int i0), .val (.int i1), .val (.int i2), .val (.ref w_MEMBERSHIP), .val (.ref w_SHARED), .val (.ref w_SHARED), .val (.ref w_MEMBERSHIP), .val (.int (10 : Int32)), .unset, .unset, .unset, .unset]) at_42 rfl rfl ?_
        refine s_aload B X221 (pc' := 46) at_44 rfl rfl rfl ?_
        refine p_static B X221 (y := mn2) (pc' := 49) (argsL := [(.ref w_MEMBERSHIP)]) (under := []) (W := 0) e221 (tw17 hw) (tw18 hw) (tw19 hw) (tw2 hw) (by decide) (rm3_3 l Z a0 hw  w_SHARED w_WRITE w_MEMBERSHIP w_READ Z.heap F0 ) (lenOf pd_2 rfl) rfl rfl (by decide) (by decide) rfl rfl (by decide) (by decide) rfl at_46 rfl (fun T222 X222 e222 => ?_)
        show Go p e below _ (T222.setTop (mkF m 49 #[.val (.int i0), .val (.int i1), .val (.int i2), .val (.ref w_MEMBERSHIP), .val (.ref w_SHARED), .val (.ref w_SHARED), .val (.ref w_MEMBERSHIP), .val (.int (10 : Int32)), .unset, .unset, .unset, .unset] [(.int (10 : Int32))]))
        refine s_istore B X222 (pc' := 51) (Ls' := #[.val (.int i0), .val (.int i1), .val (.int i2), .val (.ref w_MEMBERSHIP), .val (.ref w_SHARED), .val (.ref w_SHARED), .val (.ref w_MEMBERSHIP), .val (.int (10 : Int32)), .val (.int (10 : Int32)), .unset, .unset, .unset]) at_49 rfl rfl ?_
        refine s_aload B X222 (pc' := 53) at_51 rfl rfl rfl ?_
        refine p_static B X222 (y := mn2) (pc' := 56) (argsL := [(.ref w_SHARED)]) (under := []) (W := 0) e222 (tw17 hw) (tw18 hw) (tw19 hw) (tw2 hw) (by decide) (rm3_1 l Z a0 hw  w_SHARED w_WRITE w_MEMBERSHIP w_READ Z.heap F0 ) (lenOf pd_2 rfl) rfl rfl (by decide) (by decide) rfl rfl (by decide) (by decide) rfl at_53 rfl (fun T223 X223 e223 => ?_)
        show Go p e below _ (T223.setTop (mkF m 56 #[.val (.int i0), .val (.int i1), .val (.int i2), .val (.ref w_MEMBERSHIP), .val (.ref w_SHARED), .val (.ref w_SHARED), .val (.ref w_MEMBERSHIP), .val (.int (10 : Int32)), .val (.int (10 : Int32)), .unset, .unset, .unset] [(.int (8 : Int32))]))
        refine s_istore B X223 (pc' := 58) (Ls' := #[.val (.int i0), .val (.int i1), .val (.int i2), .val (.ref w_MEMBERSHIP), .val (.ref w_SHARED), .val (.ref w_SHARED), .val (.ref w_MEMBERSHIP), .val (.int (10 : Int32)), .val (.int (10 : Int32)), .val (.int (8 : Int32)), .unset, .unset]) at_56 rfl rfl ?_
        refine s_iload B X223 (pc' := 60) at_58 rfl rfl ?_
        refine s_iload B X223 (pc' := 62) at_60 rfl rfl ?_
        refine s_iand B X223 (pc' := 63) (v := (10 : Int32)) at_62 rfl rfl ?_
        refine s_iload B X223 (pc' := 65) at_63 rfl rfl ?_
        refine s_icmpN B X223 (pc' := 68) at_65 (by decide) rfl ?_
        refine s_iconst B X223 (pc' := 69) (v := (1 : Int32)) at_68 rfl rfl ?_
        refine s_goto B X223 (pc' := 73) at_69 (by decide) (by decide) ?_
        refine s_istore B X223 (pc' := 75) (Ls' := #[.val (.int i0), .val (.int i1), .val (.int i2), .val (.ref w_MEMBERSHIP), .val (.ref w_SHARED), .val (.ref w_SHARED), .val (.ref w_MEMBERSHIP), .val (.int (10 : Int32)), .val (.int (10 : Int32)), .val (.int (8 : Int32)), .val (.int (1 : Int32)), .unset]) at_73 rfl rfl ?_
        refine s_iload B X223 (pc' := 77) at_75 rfl rfl ?_
        refine s_iload B X223 (pc' := 79) at_77 rfl rfl ?_
        refine s_iand B X223 (pc' := 80) (v := (8 : Int32)) at_79 rfl rfl ?_
        refine s_iload B X223 (pc' := 82) at_80 rfl rfl ?_
        refine s_icmpY B X223 (pc' := 95) at_82 (by decide) (by decide) (by decide) ?_
        refine s_iconst B X223 (pc' := 96) (v := (1 : Int32)) at_95 rfl rfl ?_
        refine s_goto B X223 (pc' := 100) at_96 (by decide) (by decide) ?_
        refine s_istore B X223 (pc' := 102) (Ls' := #[.val (.int i0), .val (.int i1), .val (.int i2), .val (.ref w_MEMBERSHIP), .val (.ref w_SHARED), .val (.ref w_SHARED), .val (.ref w_MEMBERSHIP), .val (.int (10 : Int32)), .val (.int (10 : Int32)), .val (.int (8 : Int32)), .val (.int (1 : Int32)), .val (.int (1 : Int32))]) at_100 rfl rfl ?_
        refine s_iload B X223 (pc' := 104) at_102 rfl rfl ?_
        refine s_ifN B X223 (pc' := 107) at_104 (by decide) rfl ?_
        refine s_iload B X223 (pc' := 109) at_107 rfl rfl ?_
        refine s_ifN B X223 (pc' := 112) at_109 (by decide) rfl ?_
        refine s_iconst B X223 (pc' := 113) (v := (1 : Int32)) at_112 rfl rfl ?_
        refine s_goto B X223 (pc' := 117) at_113 (by decide) (by decide) ?_
        exact r_nar B X223 (t := .boolean) (by simp) rfl at_117 ⟨rfl, (Fr.nil _)⟩ (by decide) (by decide)
      · refine p_static B X216 (y := mn0) (pc' := 15) (argsL := [(.int i2)]) (under := []) (W := 0) e216 (tw0 hw) (tw1 hw) (tw3 hw) (tw2 hw) (by decide) (rm_mode1 l Z a0 hw i2 hm217 w_SHARED w_WRITE w_MEMBERSHIP w_READ Z.heap F0) (lenOf pd_0 rfl) rfl rfl (by decide) (by decide) rfl rfl (by decide) (by decide) rfl at_12 rfl (fun T224 X224 e224 => ?_)
        show Go p e below _ (T224.setTop (mkF m 15 #[.val (.int i0), .val (.int i1), .val (.int i2), .val (.ref w_MEMBERSHIP), .val (.ref w_SHARED), .unset, .unset, .unset, .unset, .unset, .unset, .unset] [(.ref w_READ)]))
        refine s_astore B X224 (pc' := 17) (Ls' := #[.val (.int i0), .val (.int i1), .val (.int i2), .val (.ref w_MEMBERSHIP), .val (.ref w_SHARED), .val (.ref w_READ), .unset, .unset, .unset, .unset, .unset, .unset]) at_15 rfl rfl rfl ?_
        refine s_aloadN B X224 (pc' := 18) at_17 rfl rfl rfl ?_
        refine s_aload B X224 (pc' := 20) at_18 rfl rfl rfl ?_
        refine p_virtual B X224 (y := mn1) (pc' := 23) (argsL := [(.ref w_SHARED)]) (under := []) (W := 0) e224 (tw11 hw) (tw12 hw) (tw14 hw) (tw13 hw) (tw15 hw) (tw5 hw) (by decide) (rm2_12 l Z a0 hw  w_SHARED w_WRITE w_MEMBERSHIP w_READ Z.heap F0 ) E_MEMBERSHIP (lenOf pd_1 rfl) rfl rfl (by decide) (by decide) rfl rfl (by decide) (by decide) rfl at_20 rfl (fun T225 X225 e225 => ?_)
        show Go p e below _ (T225.setTop (mkF m 23 #[.val (.int i0), .val (.int i1), .val (.int i2), .val (.ref w_MEMBERSHIP), .val (.ref w_SHARED), .val (.ref w_READ), .unset, .unset, .unset, .unset, .unset, .unset] [(.ref w_MEMBERSHIP)]))
        refine s_astore B X225 (pc' := 25) (Ls' := #[.val (.int i0), .val (.int i1), .val (.int i2), .val (.ref w_MEMBERSHIP), .val (.ref w_SHARED), .val (.ref w_READ), .val (.ref w_MEMBERSHIP), .unset, .unset, .unset, .unset, .unset]) at_23 rfl rfl rfl ?_
        refine s_aload B X225 (pc' := 27) at_25 rfl rfl rfl ?_
        refine s_ifnonnullY B X225 (pc' := 32) at_27 (by decide) (by decide) ?_
        refine s_aloadN B X225 (pc' := 33) at_32 rfl rfl rfl ?_
        refine p_static B X225 (y := mn2) (pc' := 36) (argsL := [(.ref w_MEMBERSHIP)]) (under := []) (W := 0) e225 (tw17 hw) (tw18 hw) (tw19 hw) (tw2 hw) (by decide) (rm3_3 l Z a0 hw  w_SHARED w_WRITE w_MEMBERSHIP w_READ Z.heap F0 ) (lenOf pd_2 rfl) rfl rfl (by decide) (by decide) rfl rfl (by decide) (by decide) rfl at_33 rfl (fun T226 X226 e226 => ?_)
        show Go p e below _ (T226.setTop (mkF m 36 #[.val (.int i0), .val (.int i1), .val (.int i2), .val (.ref w_MEMBERSHIP), .val (.ref w_SHARED), .val (.ref w_READ), .val (.ref w_MEMBERSHIP), .unset, .unset, .unset, .unset, .unset] [(.int (10 : Int32))]))
        refine s_aload B X226 (pc' := 38) at_36 rfl rfl rfl ?_
        refine p_static B X226 (y := mn2) (pc' := 41) (argsL := [(.ref w_SHARED)]) (under := [(.int (10 : Int32))]) (W := 1) e226 (tw17 hw) (tw18 hw) (tw19 hw) (tw2 hw) (by decide) (rm3_1 l Z a0 hw  w_SHARED w_WRITE w_MEMBERSHIP w_READ Z.heap F0 ) (lenOf pd_2 rfl) rfl rfl (by decide) (by decide) rfl rfl (by decide) (by decide) rfl at_38 rfl (fun T227 X227 e227 => ?_)
        show Go p e below _ (T227.setTop (mkF m 41 #[.val (.int i0), .val (.int i1), .val (.int i2), .val (.ref w_MEMBERSHIP), .val (.ref w_SHARED), .val (.ref w_READ), .val (.ref w_MEMBERSHIP), .unset, .unset, .unset, .unset, .unset] [(.int (8 : Int32)), (.int (10 : Int32))]))
        refine s_ior B X227 (pc' := 42) (v := (10 : Int32)) at_41 rfl rfl ?_
        refine s_istore B X227 (pc' := 44) (Ls' := #[.val (.int i0), .val (.int i1), .val (.int i2), .val (.ref w_MEMBERSHIP), .val (.ref w_SHARED), .val (.ref w_READ), .val (.ref w_MEMBERSHIP), .val (.int (10 : Int32)), .unset, .unset, .unset, .unset]) at_42 rfl rfl ?_
        refine s_aload B X227 (pc' := 46) at_44 rfl rfl rfl ?_
        refine p_static B X227 (y := mn2) (pc' := 49) (argsL := [(.ref w_MEMBERSHIP)]) (under := []) (W := 0) e227 (tw17 hw) (tw18 hw) (tw19 hw) (tw2 hw) (by decide) (rm3_3 l Z a0 hw  w_SHARED w_WRITE w_MEMBERSHIP w_READ Z.heap F0 ) (lenOf pd_2 rfl) rfl rfl (by decide) (by decide) rfl rfl (by decide) (by decide) rfl at_46 rfl (fun T228 X228 e228 => ?_)
        show Go p e below _ (T228.setTop (mkF m 49 #[.val (.int i0), .val (.int i1), .val (.int i2), .val (.ref w_MEMBERSHIP), .val (.ref w_SHARED), .val (.ref w_READ), .val (.ref w_MEMBERSHIP), .val (.int (10 : Int32)), .unset, .unset, .unset, .unset] [(.int (10 : Int32))]))
        refine s_istore B X228 (pc' := 51) (Ls' := #[.val (.int i0), .val (.int i1), .val (.int i2), .val (.ref w_MEMBERSHIP), .val (.ref w_SHARED), .val (.ref w_READ), .val (.ref w_MEMBERSHIP), .val (.int (10 : Int32)), .val (.int (10 : Int32)), .unset, .unset, .unset]) at_49 rfl rfl ?_
        refine s_aload B X228 (pc' := 53) at_51 rfl rfl rfl ?_
        refine p_static B X228 (y := mn2) (pc' := 56) (argsL := [(.ref w_READ)]) (under := []) (W := 0) e228 (tw17 hw) (tw18 hw) (tw19 hw) (tw2 hw) (by decide) (rm3_2 l Z a0 hw  w_SHARED w_WRITE w_MEMBERSHIP w_READ Z.heap F0 ) (lenOf pd_2 rfl) rfl rfl (by decide) (by decide) rfl rfl (by decide) (by decide) rfl at_53 rfl (fun T229 X229 e229 => ?_)
        show Go p e below _ (T229.setTop (mkF m 56 #[.val (.int i0), .val (.int i1), .val (.int i2), .val (.ref w_MEMBERSHIP), .val (.ref w_SHARED), .val (.ref w_READ), .val (.ref w_MEMBERSHIP), .val (.int (10 : Int32)), .val (.int (10 : Int32)), .unset, .unset, .unset] [(.int (12 : Int32))]))
        refine s_istore B X229 (pc' := 58) (Ls' := #[.val (.int i0), .val (.int i1), .val (.int i2), .val (.ref w_MEMBERSHIP), .val (.ref w_SHARED), .val (.ref w_READ), .val (.ref w_MEMBERSHIP), .val (.int (10 : Int32)), .val (.int (10 : Int32)), .val (.int (12 : Int32)), .unset, .unset]) at_56 rfl rfl ?_
        refine s_iload B X229 (pc' := 60) at_58 rfl rfl ?_
        refine s_iload B X229 (pc' := 62) at_60 rfl rfl ?_
        refine s_iand B X229 (pc' := 63) (v := (10 : Int32)) at_62 rfl rfl ?_
        refine s_iload B X229 (pc' := 65) at_63 rfl rfl ?_
        refine s_icmpN B X229 (pc' := 68) at_65 (by decide) rfl ?_
        refine s_iconst B X229 (pc' := 69) (v := (1 : Int32)) at_68 rfl rfl ?_
        refine s_goto B X229 (pc' := 73) at_69 (by decide) (by decide) ?_
        refine s_istore B X229 (pc' := 75) (Ls' := #[.val (.int i0), .val (.int i1), .val (.int i2), .val (.ref w_MEMBERSHIP), .val (.ref w_SHARED), .val (.ref w_READ), .val (.ref w_MEMBERSHIP), .val (.int (10 : Int32)), .val (.int (10 : Int32)), .val (.int (12 : Int32)), .val (.int (1 : Int32)), .unset]) at_73 rfl rfl ?_
        refine s_iload B X229 (pc' := 77) at_75 rfl rfl ?_
        refine s_iload B X229 (pc' := 79) at_77 rfl rfl ?_
        refine s_iand B X229 (pc' := 80) (v := (8 : Int32)) at_79 rfl rfl ?_
        refine s_iload B X229 (pc' := 82) at_80 rfl rfl ?_
        refine s_icmpY B X229 (pc' := 95) at_82 (by decide) (by decide) (by decide) ?_
        refine s_iconst B X229 (pc' := 96) (v := (1 : Int32)) at_95 rfl rfl ?_
        refine s_goto B X229 (pc' := 100) at_96 (by decide) (by decide) ?_
        refine s_istore B X229 (pc' := 102) (Ls' := #[.val (.int i0), .val (.int i1), .val (.int i2), .val (.ref w_MEMBERSHIP), .val (.ref w_SHARED), .val (.ref w_READ), .val (.ref w_MEMBERSHIP), .val (.int (10 : Int32)), .val (.int (10 : Int32)), .val (.int (12 : Int32)), .val (.int (1 : Int32)), .val (.int (1 : Int32))]) at_100 rfl rfl ?_
        refine s_iload B X229 (pc' := 104) at_102 rfl rfl ?_
        refine s_ifN B X229 (pc' := 107) at_104 (by decide) rfl ?_
        refine s_iload B X229 (pc' := 109) at_107 rfl rfl ?_
        refine s_ifN B X229 (pc' := 112) at_109 (by decide) rfl ?_
        refine s_iconst B X229 (pc' := 113) (v := (1 : Int32)) at_112 rfl rfl ?_
        refine s_goto B X229 (pc' := 117) at_113 (by decide) (by decide) ?_
        exact r_nar B X229 (t := .boolean) (by simp) rfl at_117 ⟨rfl, (Fr.nil _)⟩ (by decide) (by decide)
      · refine p_static B X216 (y := mn0) (pc' := 15) (argsL := [(.int i2)]) (under := []) (W := 0) e216 (tw0 hw) (tw1 hw) (tw3 hw) (tw2 hw) (by decide) (rm_mode2 l Z a0 hw i2 hm217 w_SHARED w_WRITE w_MEMBERSHIP w_READ Z.heap F0) (lenOf pd_0 rfl) rfl rfl (by decide) (by decide) rfl rfl (by decide) (by decide) rfl at_12 rfl (fun T230 X230 e230 => ?_)
        show Go p e below _ (T230.setTop (mkF m 15 #[.val (.int i0), .val (.int i1), .val (.int i2), .val (.ref w_MEMBERSHIP), .val (.ref w_SHARED), .unset, .unset, .unset, .unset, .unset, .unset, .unset] [(.ref w_MEMBERSHIP)]))
        refine s_astore B X230 (pc' := 17) (Ls' := #[.val (.int i0), .val (.int i1), .val (.int i2), .val (.ref w_MEMBERSHIP), .val (.ref w_SHARED), .val (.ref w_MEMBERSHIP), .unset, .unset, .unset, .unset, .unset, .unset]) at_15 rfl rfl rfl ?_
        refine s_aloadN B X230 (pc' := 18) at_17 rfl rfl rfl ?_
        refine s_aload B X230 (pc' := 20) at_18 rfl rfl rfl ?_
        refine p_virtual B X230 (y := mn1) (pc' := 23) (argsL := [(.ref w_SHARED)]) (under := []) (W := 0) e230 (tw11 hw) (tw12 hw) (tw14 hw) (tw13 hw) (tw15 hw) (tw5 hw) (by decide) (rm2_12 l Z a0 hw  w_SHARED w_WRITE w_MEMBERSHIP w_READ Z.heap F0 ) E_MEMBERSHIP (lenOf pd_1 rfl) rfl rfl (by decide) (by decide) rfl rfl (by decide) (by decide) rfl at_20 rfl (fun T231 X231 e231 => ?_)
        show Go p e below _ (T231.setTop (mkF m 23 #[.val (.int i0), .val (.int i1), .val (.int i2), .val (.ref w_MEMBERSHIP), .val (.ref w_SHARED), .val (.ref w_MEMBERSHIP), .unset, .unset, .unset, .unset, .unset, .unset] [(.ref w_MEMBERSHIP)]))
        refine s_astore B X231 (pc' := 25) (Ls' := #[.val (.int i0), .val (.int i1), .val (.int i2), .val (.ref w_MEMBERSHIP), .val (.ref w_SHARED), .val (.ref w_MEMBERSHIP), .val (.ref w_MEMBERSHIP), .unset, .unset, .unset, .unset, .unset]) at_23 rfl rfl rfl ?_
        refine s_aload B X231 (pc' := 27) at_25 rfl rfl rfl ?_
        refine s_ifnonnullY B X231 (pc' := 32) at_27 (by decide) (by decide) ?_
        refine s_aloadN B X231 (pc' := 33) at_32 rfl rfl rfl ?_
        refine p_static B X231 (y := mn2) (pc' := 36) (argsL := [(.ref w_MEMBERSHIP)]) (under := []) (W := 0) e231 (tw17 hw) (tw18 hw) (tw19 hw) (tw2 hw) (by decide) (rm3_3 l Z a0 hw  w_SHARED w_WRITE w_MEMBERSHIP w_READ Z.heap F0 ) (lenOf pd_2 rfl) rfl rfl (by decide) (by decide) rfl rfl (by decide) (by decide) rfl at_33 rfl (fun T232 X232 e232 => ?_)
        show Go p e below _ (T232.setTop (mkF m 36 #[.val (.int i0), .val (.int i1), .val (.int i2), .val (.ref w_MEMBERSHIP), .val (.ref w_SHARED), .val (.ref w_MEMBERSHIP), .val (.ref w_MEMBERSHIP), .unset, .unset, .unset, .unset, .unset] [(.int (10 : Int32))]))
        refine s_aload B X232 (pc' := 38) at_36 rfl rfl rfl ?_
        refine p_static B X232 (y := mn2) (pc' := 41) (argsL := [(.ref w_SHARED)]) (under := [(.int (10 : Int32))]) (W := 1) e232 (tw17 hw) (tw18 hw) (tw19 hw) (tw2 hw) (by decide) (rm3_1 l Z a0 hw  w_SHARED w_WRITE w_MEMBERSHIP w_READ Z.heap F0 ) (lenOf pd_2 rfl) rfl rfl (by decide) (by decide) rfl rfl (by decide) (by decide) rfl at_38 rfl (fun T233 X233 e233 => ?_)
        show Go p e below _ (T233.setTop (mkF m 41 #[.val (.int i0), .val (.int i1), .val (.int i2), .val (.ref w_MEMBERSHIP), .val (.ref w_SHARED), .val (.ref w_MEMBERSHIP), .val (.ref w_MEMBERSHIP), .unset, .unset, .unset, .unset, .unset] [(.int (8 : Int32)), (.int (10 : Int32))]))
        refine s_ior B X233 (pc' := 42) (v := (10 : Int32)) at_41 rfl rfl ?_
        refine s_istore B X233 (pc' := 44) (Ls' := #[.val (.int i0), .val (.int i1), .val (.int i2), .val (.ref w_MEMBERSHIP), .val (.ref w_SHARED), .val (.ref w_MEMBERSHIP), .val (.ref w_MEMBERSHIP), .val (.int (10 : Int32)), .unset, .unset, .unset, .unset]) at_42 rfl rfl ?_
        refine s_aload B X233 (pc' := 46) at_44 rfl rfl rfl ?_
        refine p_static B X233 (y := mn2) (pc' := 49) (argsL := [(.ref w_MEMBERSHIP)]) (under := []) (W := 0) e233 (tw17 hw) (tw18 hw) (tw19 hw) (tw2 hw) (by decide) (rm3_3 l Z a0 hw  w_SHARED w_WRITE w_MEMBERSHIP w_READ Z.heap F0 ) (lenOf pd_2 rfl) rfl rfl (by decide) (by decide) rfl rfl (by decide) (by decide) rfl at_46 rfl (fun T234 X234 e234 => ?_)
        show Go p e below _ (T234.setTop (mkF m 49 #[.val (.int i0), .val (.int i1), .val (.int i2), .val (.ref w_MEMBERSHIP), .val (.ref w_SHARED), .val (.ref w_MEMBERSHIP), .val (.ref w_MEMBERSHIP), .val (.int (10 : Int32)), .unset, .unset, .unset, .unset] [(.int (10 : Int32))]))
        refine s_istore B X234 (pc' := 51) (Ls' := #[.val (.int i0), .val (.int i1), .val (.int i2), .val (.ref w_MEMBERSHIP), .val (.ref w_SHARED), .val (.ref w_MEMBERSHIP), .val (.ref w_MEMBERSHIP), .val (.int (10 : Int32)), .val (.int (10 : Int32)), .unset, .unset, .unset]) at_49 rfl rfl ?_
        refine s_aload B X234 (pc' := 53) at_51 rfl rfl rfl ?_
        refine p_static B X234 (y := mn2) (pc' := 56) (argsL := [(.ref w_MEMBERSHIP)]) (under := []) (W := 0) e234 (tw17 hw) (tw18 hw) (tw19 hw) (tw2 hw) (by decide) (rm3_3 l Z a0 hw  w_SHARED w_WRITE w_MEMBERSHIP w_READ Z.heap F0 ) (lenOf pd_2 rfl) rfl rfl (by decide) (by decide) rfl rfl (by decide) (by decide) rfl at_53 rfl (fun T235 X235 e235 => ?_)
        show Go p e below _ (T235.setTop (mkF m 56 #[.val (.int i0), .val (.int i1), .val (.int i2), .val (.ref w_MEMBERSHIP), .val (.ref w_SHARED), .val (.ref w_MEMBERSHIP), .val (.ref w_MEMBERSHIP), .val (.int (10 : Int32)), .val (.int (10 : Int32)), .unset, .unset, .unset] [(.int (10 : Int32))]))
        refine s_istore B X235 (pc' := 58) (Ls' := #[.val (.int i0), .val (.int i1), .val (.int i2), .val (.ref w_MEMBERSHIP), .val (.ref w_SHARED), .val (.ref w_MEMBERSHIP), .val (.ref w_MEMBERSHIP), .val (.int (10 : Int32)), .val (.int (10 : Int32)), .val (.int (10 : Int32)), .unset, .unset]) at_56 rfl rfl ?_
        refine s_iload B X235 (pc' := 60) at_58 rfl rfl ?_
        refine s_iload B X235 (pc' := 62) at_60 rfl rfl ?_
        refine s_iand B X235 (pc' := 63) (v := (10 : Int32)) at_62 rfl rfl ?_
        refine s_iload B X235 (pc' := 65) at_63 rfl rfl ?_
        refine s_icmpN B X235 (pc' := 68) at_65 (by decide) rfl ?_
        refine s_iconst B X235 (pc' := 69) (v := (1 : Int32)) at_68 rfl rfl ?_
        refine s_goto B X235 (pc' := 73) at_69 (by decide) (by decide) ?_
        refine s_istore B X235 (pc' := 75) (Ls' := #[.val (.int i0), .val (.int i1), .val (.int i2), .val (.ref w_MEMBERSHIP), .val (.ref w_SHARED), .val (.ref w_MEMBERSHIP), .val (.ref w_MEMBERSHIP), .val (.int (10 : Int32)), .val (.int (10 : Int32)), .val (.int (10 : Int32)), .val (.int (1 : Int32)), .unset]) at_73 rfl rfl ?_
        refine s_iload B X235 (pc' := 77) at_75 rfl rfl ?_
        refine s_iload B X235 (pc' := 79) at_77 rfl rfl ?_
        refine s_iand B X235 (pc' := 80) (v := (10 : Int32)) at_79 rfl rfl ?_
        refine s_iload B X235 (pc' := 82) at_80 rfl rfl ?_
        refine s_icmpN B X235 (pc' := 85) at_82 (by decide) rfl ?_
        refine s_iload B X235 (pc' := 87) at_85 rfl rfl ?_
        refine s_iload B X235 (pc' := 89) at_87 rfl rfl ?_
        refine s_iand B X235 (pc' := 90) (v := (10 : Int32)) at_89 rfl rfl ?_
        refine s_iload B X235 (pc' := 92) at_90 rfl rfl ?_
        refine s_icmpN B X235 (pc' := 95) at_92 (by decide) rfl ?_
        refine s_iconst B X235 (pc' := 96) (v := (1 : Int32)) at_95 rfl rfl ?_
        refine s_goto B X235 (pc' := 100) at_96 (by decide) (by decide) ?_
        refine s_istore B X235 (pc' := 102) (Ls' := #[.val (.int i0), .val (.int i1), .val (.int i2), .val (.ref w_MEMBERSHIP), .val (.ref w_SHARED), .val (.ref w_MEMBERSHIP), .val (.ref w_MEMBERSHIP), .val (.int (10 : Int32)), .val (.int (10 : Int32)), .val (.int (10 : Int32)), .val (.int (1 : Int32)), .val (.int (1 : Int32))]) at_100 rfl rfl ?_
        refine s_iload B X235 (pc' := 104) at_102 rfl rfl ?_
        refine s_ifN B X235 (pc' := 107) at_104 (by decide) rfl ?_
        refine s_iload B X235 (pc' := 109) at_107 rfl rfl ?_
        refine s_ifN B X235 (pc' := 112) at_109 (by decide) rfl ?_
        refine s_iconst B X235 (pc' := 113) (v := (1 : Int32)) at_112 rfl rfl ?_
        refine s_goto B X235 (pc' := 117) at_113 (by decide) (by decide) ?_
        exact r_nar B X235 (t := .boolean) (by simp) rfl at_117 ⟨rfl, (Fr.nil _)⟩ (by decide) (by decide)
      · refine p_static B X216 (y := mn0) (pc' := 15) (argsL := [(.int i2)]) (under := []) (W := 0) e216 (tw0 hw) (tw1 hw) (tw3 hw) (tw2 hw) (by decide) (rm_mode3 l Z a0 hw i2 hm217 w_SHARED w_WRITE w_MEMBERSHIP w_READ Z.heap F0) (lenOf pd_0 rfl) rfl rfl (by decide) (by decide) rfl rfl (by decide) (by decide) rfl at_12 rfl (fun T236 X236 e236 => ?_)
        show Go p e below _ (T236.setTop (mkF m 15 #[.val (.int i0), .val (.int i1), .val (.int i2), .val (.ref w_MEMBERSHIP), .val (.ref w_SHARED), .unset, .unset, .unset, .unset, .unset, .unset, .unset] [(.ref w_WRITE)]))
        refine s_astore B X236 (pc' := 17) (Ls' := #[.val (.int i0), .val (.int i1), .val (.int i2), .val (.ref w_MEMBERSHIP), .val (.ref w_SHARED), .val (.ref w_WRITE), .unset, .unset, .unset, .unset, .unset, .unset]) at_15 rfl rfl rfl ?_
        refine s_aloadN B X236 (pc' := 18) at_17 rfl rfl rfl ?_
        refine s_aload B X236 (pc' := 20) at_18 rfl rfl rfl ?_
        refine p_virtual B X236 (y := mn1) (pc' := 23) (argsL := [(.ref w_SHARED)]) (under := []) (W := 0) e236 (tw11 hw) (tw12 hw) (tw14 hw) (tw13 hw) (tw15 hw) (tw5 hw) (by decide) (rm2_12 l Z a0 hw  w_SHARED w_WRITE w_MEMBERSHIP w_READ Z.heap F0 ) E_MEMBERSHIP (lenOf pd_1 rfl) rfl rfl (by decide) (by decide) rfl rfl (by decide) (by decide) rfl at_20 rfl (fun T237 X237 e237 => ?_)
        show Go p e below _ (T237.setTop (mkF m 23 #[.val (.int i0), .val (.int i1), .val (.int i2), .val (.ref w_MEMBERSHIP), .val (.ref w_SHARED), .val (.ref w_WRITE), .unset, .unset, .unset, .unset, .unset, .unset] [(.ref w_MEMBERSHIP)]))
        refine s_astore B X237 (pc' := 25) (Ls' := #[.val (.int i0), .val (.int i1), .val (.int i2), .val (.ref w_MEMBERSHIP), .val (.ref w_SHARED), .val (.ref w_WRITE), .val (.ref w_MEMBERSHIP), .unset, .unset, .unset, .unset, .unset]) at_23 rfl rfl rfl ?_
        refine s_aload B X237 (pc' := 27) at_25 rfl rfl rfl ?_
        refine s_ifnonnullY B X237 (pc' := 32) at_27 (by decide) (by decide) ?_
        refine s_aloadN B X237 (pc' := 33) at_32 rfl rfl rfl ?_
        refine p_static B X237 (y := mn2) (pc' := 36) (argsL := [(.ref w_MEMBERSHIP)]) (under := []) (W := 0) e237 (tw17 hw) (tw18 hw) (tw19 hw) (tw2 hw) (by decide) (rm3_3 l Z a0 hw  w_SHARED w_WRITE w_MEMBERSHIP w_READ Z.heap F0 ) (lenOf pd_2 rfl) rfl rfl (by decide) (by decide) rfl rfl (by decide) (by decide) rfl at_33 rfl (fun T238 X238 e238 => ?_)
        show Go p e below _ (T238.setTop (mkF m 36 #[.val (.int i0), .val (.int i1), .val (.int i2), .val (.ref w_MEMBERSHIP), .val (.ref w_SHARED), .val (.ref w_WRITE), .val (.ref w_MEMBERSHIP), .unset, .unset, .unset, .unset, .unset] [(.int (10 : Int32))]))
        refine s_aload B X238 (pc' := 38) at_36 rfl rfl rfl ?_
        refine p_static B X238 (y := mn2) (pc' := 41) (argsL := [(.ref w_SHARED)]) (under := [(.int (10 : Int32))]) (W := 1) e238 (tw17 hw) (tw18 hw) (tw19 hw) (tw2 hw) (by decide) (rm3_1 l Z a0 hw  w_SHARED w_WRITE w_MEMBERSHIP w_READ Z.heap F0 ) (lenOf pd_2 rfl) rfl rfl (by decide) (by decide) rfl rfl (by decide) (by decide) rfl at_38 rfl (fun T239 X239 e239 => ?_)
        show Go p e below _ (T239.setTop (mkF m 41 #[.val (.int i0), .val (.int i1), .val (.int i2), .val (.ref w_MEMBERSHIP), .val (.ref w_SHARED), .val (.ref w_WRITE), .val (.ref w_MEMBERSHIP), .unset, .unset, .unset, .unset, .unset] [(.int (8 : Int32)), (.int (10 : Int32))]))
        refine s_ior B X239 (pc' := 42) (v := (10 : Int32)) at_41 rfl rfl ?_
        refine s_istore B X239 (pc' := 44) (Ls' := #[.val (.int i0), .val (.int i1), .val (.int i2), .val (.ref w_MEMBERSHIP), .val (.ref w_SHARED), .val (.ref w_WRITE), .val (.ref w_MEMBERSHIP), .val (.int (10 : Int32)), .unset, .unset, .unset, .unset]) at_42 rfl rfl ?_
        refine s_aload B X239 (pc' := 46) at_44 rfl rfl rfl ?_
        refine p_static B X239 (y := mn2) (pc' := 49) (argsL := [(.ref w_MEMBERSHIP)]) (under := []) (W := 0) e239 (tw17 hw) (tw18 hw) (tw19 hw) (tw2 hw) (by decide) (rm3_3 l Z a0 hw  w_SHARED w_WRITE w_MEMBERSHIP w_READ Z.heap F0 ) (lenOf pd_2 rfl) rfl rfl (by decide) (by decide) rfl rfl (by decide) (by decide) rfl at_46 rfl (fun T240 X240 e240 => ?_)
        show Go p e below _ (T240.setTop (mkF m 49 #[.val (.int i0), .val (.int i1), .val (.int i2), .val (.ref w_MEMBERSHIP), .val (.ref w_SHARED), .val (.ref w_WRITE), .val (.ref w_MEMBERSHIP), .val (.int (10 : Int32)), .unset, .unset, .unset, .unset] [(.int (10 : Int32))]))
        refine s_istore B X240 (pc' := 51) (Ls' := #[.val (.int i0), .val (.int i1), .val (.int i2), .val (.ref w_MEMBERSHIP), .val (.ref w_SHARED), .val (.ref w_WRITE), .val (.ref w_MEMBERSHIP), .val (.int (10 : Int32)), .val (.int (10 : Int32)), .unset, .unset, .unset]) at_49 rfl rfl ?_
        refine s_aload B X240 (pc' := 53) at_51 rfl rfl rfl ?_
        refine p_static B X240 (y := mn2) (pc' := 56) (argsL := [(.ref w_WRITE)]) (under := []) (W := 0) e240 (tw17 hw) (tw18 hw) (tw19 hw) (tw2 hw) (by decide) (rm3_4 l Z a0 hw  w_SHARED w_WRITE w_MEMBERSHIP w_READ Z.heap F0 ) (lenOf pd_2 rfl) rfl rfl (by decide) (by decide) rfl rfl (by decide) (by decide) rfl at_53 rfl (fun T241 X241 e241 => ?_)
        show Go p e below _ (T241.setTop (mkF m 56 #[.val (.int i0), .val (.int i1), .val (.int i2), .val (.ref w_MEMBERSHIP), .val (.ref w_SHARED), .val (.ref w_WRITE), .val (.ref w_MEMBERSHIP), .val (.int (10 : Int32)), .val (.int (10 : Int32)), .unset, .unset, .unset] [(.int (15 : Int32))]))
        refine s_istore B X241 (pc' := 58) (Ls' := #[.val (.int i0), .val (.int i1), .val (.int i2), .val (.ref w_MEMBERSHIP), .val (.ref w_SHARED), .val (.ref w_WRITE), .val (.ref w_MEMBERSHIP), .val (.int (10 : Int32)), .val (.int (10 : Int32)), .val (.int (15 : Int32)), .unset, .unset]) at_56 rfl rfl ?_
        refine s_iload B X241 (pc' := 60) at_58 rfl rfl ?_
        refine s_iload B X241 (pc' := 62) at_60 rfl rfl ?_
        refine s_iand B X241 (pc' := 63) (v := (10 : Int32)) at_62 rfl rfl ?_
        refine s_iload B X241 (pc' := 65) at_63 rfl rfl ?_
        refine s_icmpN B X241 (pc' := 68) at_65 (by decide) rfl ?_
        refine s_iconst B X241 (pc' := 69) (v := (1 : Int32)) at_68 rfl rfl ?_
        refine s_goto B X241 (pc' := 73) at_69 (by decide) (by decide) ?_
        refine s_istore B X241 (pc' := 75) (Ls' := #[.val (.int i0), .val (.int i1), .val (.int i2), .val (.ref w_MEMBERSHIP), .val (.ref w_SHARED), .val (.ref w_WRITE), .val (.ref w_MEMBERSHIP), .val (.int (10 : Int32)), .val (.int (10 : Int32)), .val (.int (15 : Int32)), .val (.int (1 : Int32)), .unset]) at_73 rfl rfl ?_
        refine s_iload B X241 (pc' := 77) at_75 rfl rfl ?_
        refine s_iload B X241 (pc' := 79) at_77 rfl rfl ?_
        refine s_iand B X241 (pc' := 80) (v := (10 : Int32)) at_79 rfl rfl ?_
        refine s_iload B X241 (pc' := 82) at_80 rfl rfl ?_
        refine s_icmpN B X241 (pc' := 85) at_82 (by decide) rfl ?_
        refine s_iload B X241 (pc' := 87) at_85 rfl rfl ?_
        refine s_iload B X241 (pc' := 89) at_87 rfl rfl ?_
        refine s_iand B X241 (pc' := 90) (v := (10 : Int32)) at_89 rfl rfl ?_
        refine s_iload B X241 (pc' := 92) at_90 rfl rfl ?_
        refine s_icmpN B X241 (pc' := 95) at_92 (by decide) rfl ?_
        refine s_iconst B X241 (pc' := 96) (v := (1 : Int32)) at_95 rfl rfl ?_
        refine s_goto B X241 (pc' := 100) at_96 (by decide) (by decide) ?_
        refine s_istore B X241 (pc' := 102) (Ls' := #[.val (.int i0), .val (.int i1), .val (.int i2), .val (.ref w_MEMBERSHIP), .val (.ref w_SHARED), .val (.ref w_WRITE), .val (.ref w_MEMBERSHIP), .val (.int (10 : Int32)), .val (.int (10 : Int32)), .val (.int (15 : Int32)), .val (.int (1 : Int32)), .val (.int (1 : Int32))]) at_100 rfl rfl ?_
        refine s_iload B X241 (pc' := 104) at_102 rfl rfl ?_
        refine s_ifN B X241 (pc' := 107) at_104 (by decide) rfl ?_
        refine s_iload B X241 (pc' := 109) at_107 rfl rfl ?_
        refine s_ifN B X241 (pc' := 112) at_109 (by decide) rfl ?_
        refine s_iconst B X241 (pc' := 113) (v := (1 : Int32)) at_112 rfl rfl ?_
        refine s_goto B X241 (pc' := 117) at_113 (by decide) (by decide) ?_
        exact r_nar B X241 (t := .boolean) (by simp) rfl at_117 ⟨rfl, (Fr.nil _)⟩ (by decide) (by decide)
    · refine p_static B X214 (y := mn0) (pc' := 9) (argsL := [(.int i1)]) (under := []) (W := 0) e214 (tw0 hw) (tw1 hw) (tw3 hw) (tw2 hw) (by decide) (rm_mode1 l Z a0 hw i1 hm215 w_SHARED w_WRITE w_MEMBERSHIP w_READ Z.heap F0) (lenOf pd_0 rfl) rfl rfl (by decide) (by decide) rfl rfl (by decide) (by decide) rfl at_6 rfl (fun T242 X242 e242 => ?_)
      show Go p e below _ (T242.setTop (mkF m 9 #[.val (.int i0), .val (.int i1), .val (.int i2), .val (.ref w_MEMBERSHIP), .unset, .unset, .unset, .unset, .unset, .unset, .unset, .unset] [(.ref w_READ)]))
      refine s_astore B X242 (pc' := 11) (Ls' := #[.val (.int i0), .val (.int i1), .val (.int i2), .val (.ref w_MEMBERSHIP), .val (.ref w_READ), .unset, .unset, .unset, .unset, .unset, .unset, .unset]) at_9 rfl rfl rfl ?_
      refine s_iloadN B X242 (pc' := 12) at_11 rfl rfl ?_
      rcases own_and3 i2 with hm243 | hm243 | hm243 | hm243
      · refine p_static B X242 (y := mn0) (pc' := 15) (argsL := [(.int i2)]) (under := []) (W := 0) e242 (tw0 hw) (tw1 hw) (tw3 hw) (tw2 hw) (by decide) (rm_mode0 l Z a0 hw i2 hm243 w_SHARED w_WRITE w_MEMBERSHIP w_READ Z.heap F0) (lenOf pd_0 rfl) rfl rfl (by decide) (by decide) rfl rfl (by decide) (by decide) rfl at_12 rfl (fun T244 X244 e244 => ?_)
        show Go p e below _ (T244.setTop (mkF m 15 #[.val (.int i0), .val (.int i1), .val (.int i2), .val (.ref w_MEMBERSHIP), .val (.ref w_READ), .unset, .unset, .unset, .unset, .unset, .unset, .unset] [(.ref w_SHARED)]))
        refine s_astore B X244 (pc' := 17) (Ls' := #[.val (.int i0), .val (.int i1), .val (.int i2), .val (.ref w_MEMBERSHIP), .val (.ref w_READ), .val (.ref w_SHARED), .unset, .unset, .unset, .unset, .unset, .unset]) at_15 rfl rfl rfl ?_
        refine s_aloadN B X244 (pc' := 18) at_17 rfl rfl rfl ?_
        refine s_aload B X244 (pc' := 20) at_18 rfl rfl rfl ?_
        refine p_virtual B X244 (y := mn1) (pc' := 23) (argsL := [(.ref w_READ)]) (under := []) (W := 0) e244 (tw11 hw) (tw12 hw) (tw14 hw) (tw13 hw) (tw15 hw) (tw5 hw) (by decide) (rm2_13 l Z a0 hw  w_SHARED w_WRITE w_MEMBERSHIP w_READ Z.heap F0 ) E_MEMBERSHIP (lenOf pd_1 rfl) rfl rfl (by decide) (by decide) rfl rfl (by decide) (by decide) rfl at_20 rfl (fun T245 X245 e245 => ?_)
        show Go p e below _ (T245.setTop (mkF m 23 #[.val (.int i0), .val (.int i1), .val (.int i2), .val (.ref w_MEMBERSHIP), .val (.ref w_READ), .val (.ref w_SHARED), .unset, .unset, .unset, .unset, .unset, .unset] [(.ref w_WRITE)]))
        refine s_astore B X245 (pc' := 25) (Ls' := #[.val (.int i0), .val (.int i1), .val (.int i2), .val (.ref w_MEMBERSHIP), .val (.ref w_READ), .val (.ref w_SHARED), .val (.ref w_WRITE), .unset, .unset, .unset, .unset, .unset]) at_23 rfl rfl rfl ?_
        refine s_aload B X245 (pc' := 27) at_25 rfl rfl rfl ?_
        refine s_ifnonnullY B X245 (pc' := 32) at_27 (by decide) (by decide) ?_
        refine s_aloadN B X245 (pc' := 33) at_32 rfl rfl rfl ?_
        refine p_static B X245 (y := mn2) (pc' := 36) (argsL := [(.ref w_MEMBERSHIP)]) (under := []) (W := 0) e245 (tw17 hw) (tw18 hw) (tw19 hw) (tw2 hw) (by decide) (rm3_3 l Z a0 hw  w_SHARED w_WRITE w_MEMBERSHIP w_READ Z.heap F0 ) (lenOf pd_2 rfl) rfl rfl (by decide) (by decide) rfl rfl (by decide) (by decide) rfl at_33 rfl (fun T246 X246 e246 => ?_)
        show Go p e below _ (T246.setTop (mkF m 36 #[.val (.int i0), .val (.int i1), .val (.int i2), .val (.ref w_MEMBERSHIP), .val (.ref w_READ), .val (.ref w_SHARED), .val (.ref w_WRITE), .unset, .unset, .unset, .unset, .unset] [(.int (10 : Int32))]))
        refine s_aload B X246 (pc' := 38) at_36 rfl rfl rfl ?_
        refine p_static B X246 (y := mn2) (pc' := 41) (argsL := [(.ref w_READ)]) (under := [(.int (10 : Int32))]) (W := 1) e246 (tw17 hw) (tw18 hw) (tw19 hw) (tw2 hw) (by decide) (rm3_2 l Z a0 hw  w_SHARED w_WRITE w_MEMBERSHIP w_READ Z.heap F0 ) (lenOf pd_2 rfl) rfl rfl (by decide) (by decide) rfl rfl (by decide) (by decide) rfl at_38 rfl (fun T247 X247 e247 => ?_)
        show Go p e below _ (T247.setTop (mkF m 41 #[.val (.int i0), .val (.int i1), .val (.int i2), .val (.ref w_MEMBERSHIP), .val (.ref w_READ), .val (.ref w_SHARED), .val (.ref w_WRITE), .unset, .unset, .unset, .unset, .unset] [(.int (12 : Int32)), (.int (10 : Int32))]))
        refine s_ior B X247 (pc' := 42) (v := (14 : Int32)) at_41 rfl rfl ?_
        refine s_istore B X247 (pc' := 44) (Ls' := #[.val (.int i0), .val (.int i1), .val (.int i2), .val (.ref w_MEMBERSHIP), .val (.ref w_READ), .val (.ref w_SHARED), .val (.ref w_WRITE), .val (.int (14 : Int32)), .unset, .unset, .unset, .unset]) at_42 rfl rfl ?_
        refine s_aload B X247 (pc' := 46) at_44 rfl rfl rfl ?_
        refine p_static B X247 (y := mn2) (pc' := 49) (argsL := [(.ref w_WRITE)]) (under := []) (W := 0) e247 (tw17 hw) (tw18 hw) (tw19 hw) (tw2 hw) (by decide) (rm3_4 l Z a0 hw  w_SHARED w_WRITE w_MEMBERSHIP w_READ Z.heap F0 ) (lenOf pd_2 rfl) rfl rfl (by decide) (by decide) rfl rfl (by decide) (by decide) rfl at_46 rfl (fun T248 X248 e248 => ?_)
        show Go p e below _ (T248.setTop (mkF m 49 #[.val (.int i0), .val (.int i1), .val (.int i2), .val (.ref w_MEMBERSHIP), .val (.ref w_READ), .val (.ref w_SHARED), .val (.ref w_WRITE), .val (.int (14 : Int32)), .unset, .unset, .unset, .unset] [(.int (15 : Int32))]))
        refine s_istore B X248 (pc' := 51) (Ls' := #[.val (.int i0), .val (.int i1), .val (.int i2), .val (.ref w_MEMBERSHIP), .val (.ref w_READ), .val (.ref w_SHARED), .val (.ref w_WRITE), .val (.int (14 : Int32)), .val (.int (15 : Int32)), .unset, .unset, .unset]) at_49 rfl rfl ?_
        refine s_aload B X248 (pc' := 53) at_51 rfl rfl rfl ?_
        refine p_static B X248 (y := mn2) (pc' := 56) (argsL := [(.ref w_SHARED)]) (under := []) (W := 0) e248 (tw17 hw) (tw18 hw) (tw19 hw) (tw2 hw) (by decide) (rm3_1 l Z a0 hw  w_SHARED w_WRITE w_MEMBERSHIP w_READ Z.heap F0 ) (lenOf pd_2 rfl) rfl rfl (by decide) (by decide) rfl rfl (by decide) (by decide) rfl at_53 rfl (fun T249 X249 e249 => ?_)
        show Go p e below _ (T249.setTop (mkF m 56 #[.val (.int i0), .val (.int i1), .val (.int i2), .val (.ref w_MEMBERSHIP), .val (.ref w_READ), .val (.ref w_SHARED), .val (.ref w_WRITE), .val (.int (14 : Int32)), .val (.int (15 : Int32)), .unset, .unset, .unset] [(.int (8 : Int32))]))
        refine s_istore B X249 (pc' := 58) (Ls' := #[.val (.int i0), .val (.int i1), .val (.int i2), .val (.ref w_MEMBERSHIP), .val (.ref w_READ), .val (.ref w_SHARED), .val (.ref w_WRITE), .val (.int (14 : Int32)), .val (.int (15 : Int32)), .val (.int (8 : Int32)), .unset, .unset]) at_56 rfl rfl ?_
        refine s_iload B X249 (pc' := 60) at_58 rfl rfl ?_
        refine s_iload B X249 (pc' := 62) at_60 rfl rfl ?_
        refine s_iand B X249 (pc' := 63) (v := (14 : Int32)) at_62 rfl rfl ?_
        refine s_iload B X249 (pc' := 65) at_63 rfl rfl ?_
        refine s_icmpN B X249 (pc' := 68) at_65 (by decide) rfl ?_
        refine s_iconst B X249 (pc' := 69) (v := (1 : Int32)) at_68 rfl rfl ?_
        refine s_goto B X249 (pc' := 73) at_69 (by decide) (by decide) ?_
        refine s_istore B X249 (pc' := 75) (Ls' := #[.val (.int i0), .val (.int i1), .val (.int i2), .val (.ref w_MEMBERSHIP), .val (.ref w_READ), .val (.ref w_SHARED), .val (.ref w_WRITE), .val (.int (14 : Int32)), .val (.int (15 : Int32)), .val (.int (8 : Int32)), .val (.int (1 : Int32)), .unset]) at_73 rfl rfl ?_
        refine s_iload B X249 (pc' := 77) at_75 rfl rfl ?_
        refine s_iload B X249 (pc' := 79) at_77 rfl rfl ?_
        refine s_iand B X249 (pc' := 80) (v := (8 : Int32)) at_79 rfl rfl ?_
        refine s_iload B X249 (pc' := 82) at_80 rfl rfl ?_
        refine s_icmpY B X249 (pc' := 95) at_82 (by decide) (by decide) (by decide) ?_
        refine s_iconst B X249 (pc' := 96) (v := (1 : Int32)) at_95 rfl rfl ?_
        refine s_goto B X249 (pc' := 100) at_96 (by decide) (by decide) ?_
        refine s_istore B X249 (pc' := 102) (Ls' := #[.val (.int i0), .val (.int i1), .val (.int i2), .val (.ref w_MEMBERSHIP), .val (.ref w_READ), .val (.ref w_SHARED), .val (.ref w_WRITE), .val (.int (14 : Int32)), .val (.int (15 : Int32)), .val (.int (8 : Int32)), .val (.int (1 : Int32)), .val (.int (1 : Int32))]) at_100 rfl rfl ?_
        refine s_iload B X249 (pc' := 104) at_102 rfl rfl ?_
        refine s_ifN B X249 (pc' := 107) at_104 (by decide) rfl ?_
        refine s_iload B X249 (pc' := 109) at_107 rfl rfl ?_
        refine s_ifN B X249 (pc' := 112) at_109 (by decide) rfl ?_
        refine s_iconst B X249 (pc' := 113) (v := (1 : Int32)) at_112 rfl rfl ?_
        refine s_goto B X249 (pc' := 117) at_113 (by decide) (by decide) ?_
        exact r_nar B X249 (t := .boolean) (by simp) rfl at_117 ⟨rfl, (Fr.nil _)⟩ (by decide) (by decide)
      · refine p_static B X242 (y := mn0) (pc' := 15) (argsL := [(.int i2)]) (under := []) (W := 0) e242 (tw0 hw) (tw1 hw) (tw3 hw) (tw2 hw) (by decide) (rm_mode1 l Z a0 hw i2 hm243 w_SHARED w_WRITE w_MEMBERSHIP w_READ Z.heap F0) (lenOf pd_0 rfl) rfl rfl (by decide) (by decide) rfl rfl (by decide) (by decide) rfl at_12 rfl (fun T250 X250 e250 => ?_)
        show Go p e below _ (T250.setTop (mkF m 15 #[.val (.int i0), .val (.int i1), .val (.int i2), .val (.ref w_MEMBERSHIP), .val (.ref w_READ), .unset, .unset, .unset, .unset, .unset, .unset, .unset] [(.ref w_READ)]))
        refine s_astore B X250 (pc' := 17) (Ls' := #[.val (.int i0), .val (.int i1), .val (.int i2), .val (.ref w_MEMBERSHIP), .val (.ref w_READ), .val (.ref w_READ), .unset, .unset, .unset, .unset, .unset, .unset]) at_15 rfl rfl rfl ?_
        refine s_aloadN B X250 (pc' := 18) at_17 rfl rfl rfl ?_
        refine s_aload B X250 (pc' := 20) at_18 rfl rfl rfl ?_
        refine p_virtual B X250 (y := mn1) (pc' := 23) (argsL := [(.ref w_READ)]) (under := []) (W := 0) e250 (tw11 hw) (tw12 hw) (tw14 hw) (tw13 hw) (tw15 hw) (tw5 hw) (by decide) (rm2_13 l Z a0 hw  w_SHARED w_WRITE w_MEMBERSHIP w_READ Z.heap F0 ) E_MEMBERSHIP (lenOf pd_1 rfl) rfl rfl (by decide) (by decide) rfl rfl (by decide) (by decide) rfl at_20 rfl (fun T251 X251 e251 => ?_)
        show Go p e below _ (T251.setTop (mkF m 23 #[.val (.int i0), .val (.int i1), .val (.int i2), .val (.ref w_MEMBERSHIP), .val (.ref w_READ), .val (.ref w_READ), .unset, .unset, .unset, .unset, .unset, .unset] [(.ref w_WRITE)]))
        refine s_astore B X251 (pc' := 25) (Ls' := #[.val (.int i0), .val (.int i1), .val (.int i2), .val (.ref w_MEMBERSHIP), .val (.ref w_READ), .val (.ref w_READ), .val (.ref w_WRITE), .unset, .unset, .unset, .unset, .unset]) at_23 rfl rfl rfl ?_
        refine s_aload B X251 (pc' := 27) at_25 rfl rfl rfl ?_
        refine s_ifnonnullY B X251 (pc' := 32) at_27 (by decide) (by decide) ?_
        refine s_aloadN B X251 (pc' := 33) at_32 rfl rfl rfl ?_
        refine p_static B X251 (y := mn2) (pc' := 36) (argsL := [(.ref w_MEMBERSHIP)]) (under := []) (W := 0) e251 (tw17 hw) (tw18 hw) (tw19 hw) (tw2 hw) (by decide) (rm3_3 l Z a0 hw  w_SHARED w_WRITE w_MEMBERSHIP w_READ Z.heap F0 ) (lenOf pd_2 rfl) rfl rfl (by decide) (by decide) rfl rfl (by decide) (by decide) rfl at_33 rfl (fun T252 X252 e252 => ?_)
        show Go p e below _ (T252.setTop (mkF m 36 #[.val (.int i0), .val (.int i1), .val (.int i2), .val (.ref w_MEMBERSHIP), .val (.ref w_READ), .val (.ref w_READ), .val (.ref w_WRITE), .unset, .unset, .unset, .unset, .unset] [(.int (10 : Int32))]))
        refine s_aload B X252 (pc' := 38) at_36 rfl rfl rfl ?_
        refine p_static B X252 (y := mn2) (pc' := 41) (argsL := [(.ref w_READ)]) (under := [(.int (10 : Int32))]) (W := 1) e252 (tw17 hw) (tw18 hw) (tw19 hw) (tw2 hw) (by decide) (rm3_2 l Z a0 hw  w_SHARED w_WRITE w_MEMBERSHIP w_READ Z.heap F0 ) (lenOf pd_2 rfl) rfl rfl (by decide) (by decide) rfl rfl (by decide) (by decide) rfl at_38 rfl (fun T253 X253 e253 => ?_)
        show Go p e below _ (T253.setTop (mkF m 41 #[.val (.int i0), .val (.int i1), .val (.int i2), .val (.ref w_MEMBERSHIP), .val (.ref w_READ), .val (.ref w_READ), .val (.ref w_WRITE), .unset, .unset, .unset, .unset, .unset] [(.int (12 : Int32)), (.int (10 : Int32))]))
        refine s_ior B X253 (pc' := 42) (v := (14 : Int32)) at_41 rfl rfl ?_
        refine s_istore B X253 (pc' := 44) (Ls' := #[.val (.int i0), .val (.int i1), .val (.int i2), .val (.ref w_MEMBERSHIP), .val (.ref w_READ), .val (.ref w_READ), .val (.ref w_WRITE), .val (.int (14 : Int32)), .unset, .unset, .unset, .unset]) at_42 rfl rfl ?_
        refine s_aload B X253 (pc' := 46) at_44 rfl rfl rfl ?_
        refine p_static B X253 (y := mn2) (pc' := 49) (argsL := [(.ref w_WRITE)]) (under := []) (W := 0) e253 (tw17 hw) (tw18 hw) (tw19 hw) (tw2 hw) (by decide) (rm3_4 l Z a0 hw  w_SHARED w_WRITE w_MEMBERSHIP w_READ Z.heap F0 ) (lenOf pd_2 rfl) rfl rfl (by decide) (by decide) rfl rfl (by decide) (by decide) rfl at_46 rfl (fun T254 X254 e254 => ?_)
        show Go p e below _ (T254.setTop (mkF m 49 #[.val (.int i0), .val (.int i1), .val (.int i2), .val (.ref w_MEMBERSHIP), .val (.ref w_READ), .val (.ref w_READ), .val (.ref w_WRITE), .val (.int (14 : Int32)), .unset, .unset, .unset, .unset] [(.int (15 : Int32))]))
        refine s_istore B X254 (pc' := 51) (Ls' := #[.val (.int i0), .val (.int i1), .val (.int i2), .val (.ref w_MEMBERSHIP), .val (.ref w_READ), .val (.ref w_READ), .val (.ref w_WRITE), .val (.int (14 : Int32)), .val (.int (15 : Int32)), .unset, .unset, .unset]) at_49 rfl rfl ?_
        refine s_aload B X254 (pc' := 53) at_51 rfl rfl rfl ?_
        refine p_static B X254 (y := mn2) (pc' := 56) (argsL := [(.ref w_READ)]) (under := []) (W := 0) e254 (tw17 hw) (tw18 hw) (tw19 hw) (tw2 hw) (by decide) (rm3_2 l Z a0 hw  w_SHARED w_WRITE w_MEMBERSHIP w_READ Z.heap F0 ) (lenOf pd_2 rfl) rfl rfl (by decide) (by decide) rfl rfl (by decide) (by decide) rfl at_53 rfl (fun T255 X255 e255 => ?_)
        show Go p e below _ (T255.setTop (mkF m 56 #[.val (.int i0), .val (.int i1), .val (.int i2), .val (.ref w_MEMBERSHIP), .val (.ref w_READ), .val (.ref w_READ), .val (.ref w_WRITE), .val (.int (14 : Int32)), .val (.int (15 : Int32)), .unset, .unset, .unset] [(.int (12 : Int32))]))
        refine s_istore B X255 (pc' := 58) (Ls' := #[.val (.int i0), .val (.int i1), .val (.int i2), .val (.ref w_MEMBERSHIP), .val (.ref w_READ), .val (.ref w_READ), .val (.ref w_WRITE), .val (.int (14 : Int32)), .val (.int (15 : Int32)), .val (.int (12 : Int32)), .unset, .unset]) at_56 rfl rfl ?_
        refine s_iload B X255 (pc' := 60) at_58 rfl rfl ?_
        refine s_iload B X255 (pc' := 62) at_60 rfl rfl ?_
        refine s_iand B X255 (pc' := 63) (v := (14 : Int32)) at_62 rfl rfl ?_
        refine s_iload B X255 (pc' := 65) at_63 rfl rfl ?_
        refine s_icmpN B X255 (pc' := 68) at_65 (by decide) rfl ?_
        refine s_iconst B X255 (pc' := 69) (v := (1 : Int32)) at_68 rfl rfl ?_
        refine s_goto B X255 (pc' := 73) at_69 (by decide) (by decide) ?_
        refine s_istore B X255 (pc' := 75) (Ls' := #[.val (.int i0), .val (.int i1), .val (.int i2), .val (.ref w_MEMBERSHIP), .val (.ref w_READ), .val (.ref w_READ), .val (.ref w_WRITE), .val (.int (14 : Int32)), .val (.int (15 : Int32)), .val (.int (12 : Int32)), .val (.int (1 : Int32)), .unset]) at_73 rfl rfl ?_
        refine s_iload B X255 (pc' := 77) at_75 rfl rfl ?_
        refine s_iload B X255 (pc' := 79) at_77 rfl rfl ?_
        refine s_iand B X255 (pc' := 80) (v := (12 : Int32)) at_79 rfl rfl ?_
        refine s_iload B X255 (pc' := 82) at_80 rfl rfl ?_
        refine s_icmpY B X255 (pc' := 95) at_82 (by decide) (by decide) (by decide) ?_
        refine s_iconst B X255 (pc' := 96) (v := (1 : Int32)) at_95 rfl rfl ?_
        refine s_goto B X255 (pc' := 100) at_96 (by decide) (by decide) ?_
        refine s_istore B X255 (pc' := 102) (Ls' := #[.val (.int i0), .val (.int i1), .val (.int i2), .val (.ref w_MEMBERSHIP), .val (.ref w_READ), .val (.ref w_READ), .val (.ref w_WRITE), .val (.int (14 : Int32)), .val (.int (15 : Int32)), .val (.int (12 : Int32)), .val (.int (1 : Int32)), .val (.int (1 : Int32))]) at_100 rfl rfl ?_
        refine s_iload B X255 (pc' := 104) at_102 rfl rfl ?_
        refine s_ifN B X255 (pc' := 107) at_104 (by decide) rfl ?_
        refine s_iload B X255 (pc' := 109) at_107 rfl rfl ?_
        refine s_ifN B X255 (pc' := 112) at_109 (by decide) rfl ?_
        refine s_iconst B X255 (pc' := 113) (v := (1 : Int32)) at_112 rfl rfl ?_
        refine s_goto B X255 (pc' := 117) at_113 (by decide) (by decide) ?_
        exact r_nar B X255 (t := .boolean) (by simp) rfl at_117 ⟨rfl, (Fr.nil _)⟩ (by decide) (by decide)
      · refine p_static B X242 (y := mn0) (pc' := 15) (argsL := [(.int i2)]) (under := []) (W := 0) e242 (tw0 hw) (tw1 hw) (tw3 hw) (tw2 hw) (by decide) (rm_mode2 l Z a0 hw i2 hm243 w_SHARED w_WRITE w_MEMBERSHIP w_READ Z.heap F0) (lenOf pd_0 rfl) rfl rfl (by decide) (by decide) rfl rfl (by decide) (by decide) rfl at_12 rfl (fun T256 X256 e256 => ?_)
        show Go p e below _ (T256.setTop (mkF m 15 #[.val (.int i0), .val (.int i1), .val (.int i2), .val (.ref w_MEMBERSHIP), .val (.ref w_READ), .unset, .unset, .unset, .unset, .unset, .unset, .unset] [(.ref w_MEMBERSHIP)]))
        refine s_astore B X256 (pc' := 17) (Ls' := #[.val (.int i0), .val (.int i1), .val (.int i2), .val (.ref w_MEMBERSHIP), .val (.ref w_READ), .val (.ref w_MEMBERSHIP), .unset, .unset, .unset, .unset, .unset, .unset]) at_15 rfl rfl rfl ?_
        refine s_aloadN B X256 (pc' := 18) at_17 rfl rfl rfl ?_
        refine s_aload B X256 (pc' := 20) at_18 rfl rfl rfl ?_
        refine p_virtual B X256 (y := mn1) (pc' := 23) (argsL := [(.ref w_READ)]) (under := []) (W := 0) e256 (tw11 hw) (tw12 hw) (tw14 hw) (tw13 hw) (tw15 hw) (tw5 hw) (by decide) (rm2_13 l Z a0 hw  w_SHARED w_WRITE w_MEMBERSHIP w_READ Z.heap F0 ) E_MEMBERSHIP (lenOf pd_1 rfl) rfl rfl (by decide) (by decide) rfl rfl (by decide) (by decide) rfl at_20 rfl (fun T257 X257 e257 => ?_)
        show Go p e below _ (T257.setTop (mkF m 23 #[.val (.int i0), .val (.int i1), .val (.int i2), .val (.ref w_MEMBERSHIP), .val (.ref w_READ), .val (.ref w_MEMBERSHIP), .unset, .unset, .unset, .unset, .unset, .unset] [(.ref w_WRITE)]))
        refine s_astore B X257 (pc' := 25) (Ls' := #[.val (.int i0), .val (.int i1), .val (.int i2), .val (.ref w_MEMBERSHIP), .val (.ref w_READ), .val (.ref w_MEMBERSHIP), .val (.ref w_WRITE), .unset, .unset, .unset, .unset, .unset]) at_23 rfl rfl rfl ?_
        refine s_aload B X257 (pc' := 27) at_25 rfl rfl rfl ?_
        refine s_ifnonnullY B X257 (pc' := 32) at_27 (by decide) (by decide) ?_
        refine s_aloadN B X257 (pc' := 33) at_32 rfl rfl rfl ?_
        refine p_static B X257 (y := mn2) (pc' := 36) (argsL := [(.ref w_MEMBERSHIP)]) (under := []) (W := 0) e257 (tw17 hw) (tw18 hw) (tw19 hw) (tw2 hw) (by decide) (rm3_3 l Z a0 hw  w_SHARED w_WRITE w_MEMBERSHIP w_READ Z.heap F0 ) (lenOf pd_2 rfl) rfl rfl (by decide) (by decide) rfl rfl (by decide) (by decide) rfl at_33 rfl (fun T258 X258 e258 => ?_)
        show Go p e below _ (T258.setTop (mkF m 36 #[.val (.int i0), .val (.int i1), .val (.int i2), .val (.ref w_MEMBERSHIP), .val (.ref w_READ), .val (.ref w_MEMBERSHIP), .val (.ref w_WRITE), .unset, .unset, .unset, .unset, .unset] [(.int (10 : Int32))]))
        refine s_aload B X258 (pc' := 38) at_36 rfl rfl rfl ?_
        refine p_static B X258 (y := mn2) (pc' := 41) (argsL := [(.ref w_READ)]) (under := [(.int (10 : Int32))]) (W := 1) e258 (tw17 hw) (tw18 hw) (tw19 hw) (tw2 hw) (by decide) (rm3_2 l Z a0 hw  w_SHARED w_WRITE w_MEMBERSHIP w_READ Z.heap F0 ) (lenOf pd_2 rfl) rfl rfl (by decide) (by decide) rfl rfl (by decide) (by decide) rfl at_38 rfl (fun T259 X259 e259 => ?_)
        show Go p e below _ (T259.setTop (mkF m 41 #[.val (.int i0), .val (.int i1), .val (.int i2), .val (.ref w_MEMBERSHIP), .val (.ref w_READ), .val (.ref w_MEMBERSHIP), .val (.ref w_WRITE), .unset, .unset, .unset, .unset, .unset] [(.int (12 : Int32)), (.int (10 : Int32))]))
        refine s_ior B X259 (pc' := 42) (v := (14 : Int32)) at_41 rfl rfl ?_
        refine s_istore B X259 (pc' := 44) (Ls' := #[.val (.int i0), .val (.int i1), .val (.int i2), .val (.ref w_MEMBERSHIP), .val (.ref w_READ), .val (.ref w_MEMBERSHIP), .val (.ref w_WRITE), .val (.int (14 : Int32)), .unset, .unset, .unset, .unset]) at_42 rfl rfl ?_
        refine s_aload B X259 (pc' := 46) at_44 rfl rfl rfl ?_
        refine p_static B X259 (y := mn2) (pc' := 49) (argsL := [(.ref w_WRITE)]) (under := []) (W := 0) e259 (tw17 hw) (tw18 hw) (tw19 hw) (tw2 hw) (by decide) (rm3_4 l Z a0 hw  w_SHARED w_WRITE w_MEMBERSHIP w_READ Z.heap F0 ) (lenOf pd_2 rfl) rfl rfl (by decide) (by decide) rfl rfl (by decide) (by decide) rfl at_46 rfl (fun T260 X260 e260 => ?_)
        show Go p e below _ (T260.setTop (mkF m 49 #[.val (.int i0), .val (.int i1), .val (.int i2), .val (.ref w_MEMBERSHIP), .val (.ref w_READ), .val (.ref w_MEMBERSHIP), .val (.ref w_WRITE), .val (.int (14 : Int32)), .unset, .unset, .unset, .unset] [(.int (15 : Int32))]))
        refine s_istore B X260 (pc' := 51) (Ls' := #[.val (.int i0), .val (.int i1), .val (.int i2), .val (.ref w_MEMBERSHIP), .val (.ref w_READ), .val (.ref w_MEMBERSHIP), .val (.ref w_WRITE), .val (.int (14 : Int32)), .val (.int (15 : Int32)), .unset, .unset, .unset]) at_49 rfl rfl ?_
        refine s_aload B X260 (pc' := 53) at_51 rfl rfl rfl ?_
        refine p_static B X260 (y := mn2) (pc' := 56) (argsL := [(.ref w_MEMBERSHIP)]) (under := []) (W := 0) e260 (tw17 hw) (tw18 hw) (tw19 hw) (tw2 hw) (by decide) (rm3_3 l Z a0 hw  w_SHARED w_WRITE w_MEMBERSHIP w_READ Z.heap F0 ) (lenOf pd_2 rfl) rfl rfl (by decide) (by decide) rfl rfl (by decide) (by decide) rfl at_53 rfl (fun T261 X261 e261 => ?_)
        show Go p e below _ (T261.setTop (mkF m 56 #[.val (.int i0), .val (.int i1), .val (.int i2), .val (.ref w_MEMBERSHIP), .val (.ref w_READ), .val (.ref w_MEMBERSHIP), .val (.ref w_WRITE), .val (.int (14 : Int32)), .val (.int (15 : Int32)), .unset, .unset, .unset] [(.int (10 : Int32))]))
        refine s_istore B X261 (pc' := 58) (Ls' := #[.val (.int i0), .val (.int i1), .val (.int i2), .val (.ref w_MEMBERSHIP), .val (.ref w_READ), .val (.ref w_MEMBERSHIP), .val (.ref w_WRITE), .val (.int (14 : Int32)), .val (.int (15 : Int32)), .val (.int (10 : Int32)), .unset, .unset]) at_56 rfl rfl ?_
        refine s_iload B X261 (pc' := 60) at_58 rfl rfl ?_
        refine s_iload B X261 (pc' := 62) at_60 rfl rfl ?_
        refine s_iand B X261 (pc' := 63) (v := (14 : Int32)) at_62 rfl rfl ?_
        refine s_iload B X261 (pc' := 65) at_63 rfl rfl ?_
        refine s_icmpN B X261 (pc' := 68) at_65 (by decide) rfl ?_
        refine s_iconst B X261 (pc' := 69) (v := (1 : Int32)) at_68 rfl rfl ?_
        refine s_goto B X261 (pc' := 73) at_69 (by decide) (by decide) ?_
        refine s_istore B X261 (pc' := 75) (Ls' := #[.val (.int i0), .val (.int i1), .val (.int i2), .val (.ref w_MEMBERSHIP), .val (.ref w_READ), .val (.ref w_MEMBERSHIP), .val (.ref w_WRITE), .val (.int (14 : Int32)), .val (.int (15 : Int32)), .val (.int (10 : Int32)), .val (.int (1 : Int32)), .unset]) at_73 rfl rfl ?_
        refine s_iload B X261 (pc' := 77) at_75 rfl rfl ?_
        refine s_iload B X261 (pc' := 79) at_77 rfl rfl ?_
        refine s_iand B X261 (pc' := 80) (v := (10 : Int32)) at_79 rfl rfl ?_
        refine s_iload B X261 (pc' := 82) at_80 rfl rfl ?_
        refine s_icmpY B X261 (pc' := 95) at_82 (by decide) (by decide) (by decide) ?_
        refine s_iconst B X261 (pc' := 96) (v := (1 : Int32)) at_95 rfl rfl ?_
        refine s_goto B X261 (pc' := 100) at_96 (by decide) (by decide) ?_
        refine s_istore B X261 (pc' := 102) (Ls' := #[.val (.int i0), .val (.int i1), .val (.int i2), .val (.ref w_MEMBERSHIP), .val (.ref w_READ), .val (.ref w_MEMBERSHIP), .val (.ref w_WRITE), .val (.int (14 : Int32)), .val (.int (15 : Int32)), .val (.int (10 : Int32)), .val (.int (1 : Int32)), .val (.int (1 : Int32))]) at_100 rfl rfl ?_
        refine s_iload B X261 (pc' := 104) at_102 rfl rfl ?_
        refine s_ifN B X261 (pc' := 107) at_104 (by decide) rfl ?_
        refine s_iload B X261 (pc' := 109) at_107 rfl rfl ?_
        refine s_ifN B X261 (pc' := 112) at_109 (by decide) rfl ?_
        refine s_iconst B X261 (pc' := 113) (v := (1 : Int32)) at_112 rfl rfl ?_
        refine s_goto B X261 (pc' := 117) at_113 (by decide) (by decide) ?_
        exact r_nar B X261 (t := .boolean) (by simp) rfl at_117 ⟨rfl, (Fr.nil _)⟩ (by decide) (by decide)
      · refine p_static B X242 (y := mn0) (pc' := 15) (argsL := [(.int i2)]) (under := []) (W := 0) e242 (tw0 hw) (tw1 hw) (tw3 hw) (tw2 hw) (by decide) (rm_mode3 l Z a0 hw i2 hm243 w_SHARED w_WRITE w_MEMBERSHIP w_READ Z.heap F0) (lenOf pd_0 rfl) rfl rfl (by decide) (by decide) rfl rfl (by decide) (by decide) rfl at_12 rfl (fun T262 X262 e262 => ?_)
        show Go p e below _ (T262.setTop (mkF m 15 #[.val (.int i0), .val (.int i1), .val (.int i2), .val (.ref w_MEMBERSHIP), .val (.ref w_READ), .unset, .unset, .unset, .unset, .unset, .unset, .unset] [(.ref w_WRITE)]))
        refine s_astore B X262 (pc' := 17) (Ls' := #[.val (.int i0), .val (.int i1), .val (.int i2), .val (.ref w_MEMBERSHIP), .val (.ref w_READ), .val (.ref w_WRITE), .unset, .unset, .unset, .unset, .unset, .unset]) at_15 rfl rfl rfl ?_
        refine s_aloadN B X262 (pc' := 18) at_17 rfl rfl rfl ?_
        refine s_aload B X262 (pc' := 20) at_18 rfl rfl rfl ?_
        refine p_virtual B X262 (y := mn1) (pc' := 23) (argsL := [(.ref w_READ)]) (under := []) (W := 0) e262 (tw11 hw) (tw12 hw) (tw14 hw) (tw13 hw) (tw15 hw) (tw5 hw) (by decide) (rm2_13 l Z a0 hw  w_SHARED w_WRITE w_MEMBERSHIP w_READ Z.heap F0 ) E_MEMBERSHIP (lenOf pd_1 rfl) rfl rfl (by decide) (by decide) rfl rfl (by decide) (by decide) rfl at_20 rfl (fun T263 X263 e263 => ?_)
        show Go p e below _ (T263.setTop (mkF m 23 #[.val (.int i0), .val (.int i1), .val (.int i2), .val (.ref w_MEMBERSHIP), .val (.ref w_READ), .val (.ref w_WRITE), .unset, .unset, .unset, .unset, .unset, .unset] [(.ref w_WRITE)]))
        refine s_astore B X263 (pc' := 25) (Ls' := #[.val (.int i0), .val (.int i1), .val (.int i2), .val (.ref w_MEMBERSHIP), .val (.ref w_READ), .val (.ref w_WRITE), .val (.ref w_WRITE), .unset, .unset, .unset, .unset, .unset]) at_23 rfl rfl rfl ?_
        refine s_aload B X263 (pc' := 27) at_25 rfl rfl rfl ?_
        refine s_ifnonnullY B X263 (pc' := 32) at_27 (by decide) (by decide) ?_
        refine s_aloadN B X263 (pc' := 33) at_32 rfl rfl rfl ?_
        refine p_static B X263 (y := mn2) (pc' := 36) (argsL := [(.ref w_MEMBERSHIP)]) (under := []) (W := 0) e263 (tw17 hw) (tw18 hw) (tw19 hw) (tw2 hw) (by decide) (rm3_3 l Z a0 hw  w_SHARED w_WRITE w_MEMBERSHIP w_READ Z.heap F0 ) (lenOf pd_2 rfl) rfl rfl (by decide) (by decide) rfl rfl (by decide) (by decide) rfl at_33 rfl (fun T264 X264 e264 => ?_)
        show Go p e below _ (T264.setTop (mkF m 36 #[.val (.int i0), .val (.int i1), .val (.int i2), .val (.ref w_MEMBERSHIP), .val (.ref w_READ), .val (.ref w_WRITE), .val (.ref w_WRITE), .unset, .unset, .unset, .unset, .unset] [(.int (10 : Int32))]))
        refine s_aload B X264 (pc' := 38) at_36 rfl rfl rfl ?_
        refine p_static B X264 (y := mn2) (pc' := 41) (argsL := [(.ref w_READ)]) (under := [(.int (10 : Int32))]) (W := 1) e264 (tw17 hw) (tw18 hw) (tw19 hw) (tw2 hw) (by decide) (rm3_2 l Z a0 hw  w_SHARED w_WRITE w_MEMBERSHIP w_READ Z.heap F0 ) (lenOf pd_2 rfl) rfl rfl (by decide) (by decide) rfl rfl (by decide) (by decide) rfl at_38 rfl (fun T265 X265 e265 => ?_)
        show Go p e below _ (T265.setTop (mkF m 41 #[.val (.int i0), .val (.int i1), .val (.int i2), .val (.ref w_MEMBERSHIP), .val (.ref w_READ), .val (.ref w_WRITE), .val (.ref w_WRITE), .unset, .unset, .unset, .unset, .unset] [(.int (12 : Int32)), (.int (10 : Int32))]))
        refine s_ior B X265 (pc' := 42) (v := (14 : Int32)) at_41 rfl rfl ?_
        refine s_istore B X265 (pc' := 44) (Ls' := #[.val (.int i0), .val (.int i1), .val (.int i2), .val (.ref w_MEMBERSHIP), .val (.ref w_READ), .val (.ref w_WRITE), .val (.ref w_WRITE), .val (.int (14 : Int32)), .unset, .unset, .unset, .unset]) at_42 rfl rfl ?_
        refine s_aload B X265 (pc' := 46) at_44 rfl rfl rfl ?_
        refine p_static B X265 (y := mn2) (pc' := 49) (argsL := [(.ref w_WRITE)]) (under := []) (W := 0) e265 (tw17 hw) (tw18 hw) (tw19 hw) (tw2 hw) (by decide) (rm3_4 l Z a0 hw  w_SHARED w_WRITE w_MEMBERSHIP w_READ Z.heap F0 ) (lenOf pd_2 rfl) rfl rfl (by decide) (by decide) rfl rfl (by decide) (by decide) rfl at_46 rfl (fun T266 X266 e266 => ?_)
        show Go p e below _ (T266.setTop (mkF m 49 #[.val (.int i0), .val (.int i1), .val (.int i2), .val (.ref w_MEMBERSHIP), .val (.ref w_READ), .val (.ref w_WRITE), .val (.ref w_WRITE), .val (.int (14 : Int32)), .unset, .unset, .unset, .unset] [(.int (15 : Int32))]))
        refine s_istore B X266 (pc' := 51) (Ls' := #[.val (.int i0), .val (.int i1), .val (.int i2), .val (.ref w_MEMBERSHIP), .val (.ref w_READ), .val (.ref w_WRITE), .val (.ref w_WRITE), .val (.int (14 : Int32)), .val (.int (15 : Int32)), .unset, .unset, .unset]) at_49 rfl rfl ?_
        refine s_aload B X266 (pc' := 53) at_51 rfl rfl rfl ?_
        refine p_static B X266 (y := mn2) (pc' := 56) (argsL := [(.ref w_WRITE)]) (under := []) (W := 0) e266 (tw17 hw) (tw18 hw) (tw19 hw) (tw2 hw) (by decide) (rm3_4 l Z a0 hw  w_SHARED w_WRITE w_MEMBERSHIP w_READ Z.heap F0 ) (lenOf pd_2 rfl) rfl rfl (by decide) (by decide) rfl rfl (by decide) (by decide) rfl at_53 rfl (fun T267 X267 e267 => ?_)
        show Go p e below _ (T267.setTop (mkF m 56 #[.val (.int i0), .val (.int i1), .val (.int i2), .val (.ref w_MEMBERSHIP), .val (.ref w_READ), .val (.ref w_WRITE), .val (.ref w_WRITE), .val (.int (14 : Int32)), .val (.int (15 : Int32)), .unset, .unset, .unset] [(.int (15 : Int32))]))
        refine s_istore B X267 (pc' := 58) (Ls' := #[.val (.int i0), .val (.int i1), .val (.int i2), .val (.ref w_MEMBERSHIP), .val (.ref w_READ), .val (.ref w_WRITE), .val (.ref w_WRITE), .val (.int (14 : Int32)), .val (.int (15 : Int32)), .val (.int (15 : Int32)), .unset, .unset]) at_56 rfl rfl ?_
        refine s_iload B X267 (pc' := 60) at_58 rfl rfl ?_
        refine s_iload B X267 (pc' := 62) at_60 rfl rfl ?_
        refine s_iand B X267 (pc' := 63) (v := (14 : Int32)) at_62 rfl rfl ?_
        refine s_iload B X267 (pc' := 65) at_63 rfl rfl ?_
        refine s_icmpN B X267 (pc' := 68) at_65 (by decide) rfl ?_
        refine s_iconst B X267 (pc' := 69) (v := (1 : Int32)) at_68 rfl rfl ?_
        refine s_goto B X267 (pc' := 73) at_69 (by decide) (by decide) ?_
        refine s_istore B X267 (pc' := 75) (Ls' := #[.val (.int i0), .val (.int i1), .val (.int i2), .val (.ref w_MEMBERSHIP), .val (.ref w_READ), .val (.ref w_WRITE), .val (.ref w_WRITE), .val (.int (14 : Int32)), .val (.int (15 : Int32)), .val (.int (15 : Int32)), .val (.int (1 : Int32)), .unset]) at_73 rfl rfl ?_
        refine s_iload B X267 (pc' := 77) at_75 rfl rfl ?_
        refine s_iload B X267 (pc' := 79) at_77 rfl rfl ?_
        refine s_iand B X267 (pc' := 80) (v := (14 : Int32)) at_79 rfl rfl ?_
        refine s_iload B X267 (pc' := 82) at_80 rfl rfl ?_
        refine s_icmpN B X267 (pc' := 85) at_82 (by decide) rfl ?_
        refine s_iload B X267 (pc' := 87) at_85 rfl rfl ?_
        refine s_iload B X267 (pc' := 89) at_87 rfl rfl ?_
        refine s_iand B X267 (pc' := 90) (v := (15 : Int32)) at_89 rfl rfl ?_
        refine s_iload B X267 (pc' := 92) at_90 rfl rfl ?_
        refine s_icmpN B X267 (pc' := 95) at_92 (by decide) rfl ?_
        refine s_iconst B X267 (pc' := 96) (v := (1 : Int32)) at_95 rfl rfl ?_
        refine s_goto B X267 (pc' := 100) at_96 (by decide) (by decide) ?_
        refine s_istore B X267 (pc' := 102) (Ls' := #[.val (.int i0), .val (.int i1), .val (.int i2), .val (.ref w_MEMBERSHIP), .val (.ref w_READ), .val (.ref w_WRITE), .val (.ref w_WRITE), .val (.int (14 : Int32)), .val (.int (15 : Int32)), .val (.int (15 : Int32)), .val (.int (1 : Int32)), .val (.int (1 : Int32))]) at_100 rfl rfl ?_
        refine s_iload B X267 (pc' := 104) at_102 rfl rfl ?_
        refine s_ifN B X267 (pc' := 107) at_104 (by decide) rfl ?_
        refine s_iload B X267 (pc' := 109) at_107 rfl rfl ?_
        refine s_ifN B X267 (pc' := 112) at_109 (by decide) rfl ?_
        refine s_iconst B X267 (pc' := 113) (v := (1 : Int32)) at_112 rfl rfl ?_
        refine s_goto B X267 (pc' := 117) at_113 (by decide) (by decide) ?_
        exact r_nar B X267 (t := .boolean) (by simp) rfl at_117 ⟨rfl, (Fr.nil _)⟩ (by decide) (by decide)
    · refine p_static B X214 (y := mn0) (pc' := 9) (argsL := [(.int i1)]) (under := []) (W := 0) e214 (tw0 hw) (tw1 hw) (tw3 hw) (tw2 hw) (by decide) (rm_mode2 l Z a0 hw i1 hm215 w_SHARED w_WRITE w_MEMBERSHIP w_READ Z.heap F0) (lenOf pd_0 rfl) rfl rfl (by decide) (by decide) rfl rfl (by decide) (by decide) rfl at_6 rfl (fun T268 X268 e268 => ?_)
      show Go p e below _ (T268.setTop (mkF m 9 #[.val (.int i0), .val (.int i1), .val (.int i2), .val (.ref w_MEMBERSHIP), .unset, .unset, .unset, .unset, .unset, .unset, .unset, .unset] [(.ref w_MEMBERSHIP)]))
      refine s_astore B X268 (pc' := 11) (Ls' := #[.val (.int i0), .val (.int i1), .val (.int i2), .val (.ref w_MEMBERSHIP), .val (.ref w_MEMBERSHIP), .unset, .unset, .unset, .unset, .unset, .unset, .unset]) at_9 rfl rfl rfl ?_
      refine s_iloadN B X268 (pc' := 12) at_11 rfl rfl ?_
      rcases own_and3 i2 with hm269 | hm269 | hm269 | hm269
      · refine p_static B X268 (y := mn0) (pc' := 15) (argsL := [(.int i2)]) (under := []) (W := 0) e268 (tw0 hw) (tw1 hw) (tw3 hw) (tw2 hw) (by decide) (rm_mode0 l Z a0 hw i2 hm269 w_SHARED w_WRITE w_MEMBERSHIP w_READ Z.heap F0) (lenOf pd_0 rfl) rfl rfl (by decide) (by decide) rfl rfl (by decide) (by decide) rfl at_12 rfl (fun T270 X270 e270 => ?_)
        show Go p e below _ (T270.setTop (mkF m 15 #[.val (.int i0), .val (.int i1), .val (.int i2), .val (.ref w_MEMBERSHIP), .val (.ref w_MEMBERSHIP), .unset, .unset, .unset, .unset, .unset, .unset, .unset] [(.ref w_SHARED)]))
        refine s_astore B X270 (pc' := 17) (Ls' := #[.val (.int i0), .val (.int i1), .val (.int i2), .val (.ref w_MEMBERSHIP), .val (.ref w_MEMBERSHIP), .val (.ref w_SHARED), .unset, .unset, .unset, .unset, .unset, .unset]) at_15 rfl rfl rfl ?_
        refine s_aloadN B X270 (pc' := 18) at_17 rfl rfl rfl ?_
        refine s_aload B X270 (pc' := 20) at_18 rfl rfl rfl ?_
        refine p_virtual B X270 (y := mn1) (pc' := 23) (argsL := [(.ref w_MEMBERSHIP)]) (under := []) (W := 0) e270 (tw11 hw) (tw12 hw) (tw14 hw) (tw13 hw) (tw15 hw) (tw5 hw) (by decide) (rm2_14 l Z a0 hw  w_SHARED w_WRITE w_MEMBERSHIP w_READ Z.heap F0 ) E_MEMBERSHIP (lenOf pd_1 rfl) rfl rfl (by decide) (by decide) rfl rfl (by decide) (by decide) rfl at_20 rfl (fun T271 X271 e271 => ?_)
        show Go p e below _ (T271.setTop (mkF m 23 #[.val (.int i0), .val (.int i1), .val (.int i2), .val (.ref w_MEMBERSHIP), .val (.ref w_MEMBERSHIP), .val (.ref w_SHARED), .unset, .unset, .unset, .unset, .unset, .unset] [(.ref w_MEMBERSHIP)]))
        refine s_astore B X271 (pc' := 25) (Ls' := #[.val (.int i0), .val (.int i1), .val (.int i2), .val (.ref w_MEMBERSHIP), .val (.ref w_MEMBERSHIP), .val (.ref w_SHARED), .val (.ref w_MEMBERSHIP), .unset, .unset, .unset, .unset, .unset]) at_23 rfl rfl rfl ?_
        refine s_aload B X271 (pc' := 27) at_25 rfl rfl rfl ?_
        refine s_ifnonnullY B X271 (pc' := 32) at_27 (by decide) (by decide) ?_
        refine s_aloadN B X271 (pc' := 33) at_32 rfl rfl rfl ?_
        refine p_static B X271 (y := mn2) (pc' := 36) (argsL := [(.ref w_MEMBERSHIP)]) (under := []) (W := 0) e271 (tw17 hw) (tw18 hw) (tw19 hw) (tw2 hw) (by decide) (rm3_3 l Z a0 hw  w_SHARED w_WRITE w_MEMBERSHIP w_READ Z.heap F0 ) (lenOf pd_2 rfl) rfl rfl (by decide) (by decide) rfl rfl (by decide) (by decide) rfl at_33 rfl (fun T272 X272 e272 => ?_)
        show Go p e below _ (T272.setTop (mkF m 36 #[.val (.int i0), .val (.int i1), .val (.int i2), .val (.ref w_MEMBERSHIP), .val (.ref w_MEMBERSHIP), .val (.ref w_SHARED), .val (.ref w_MEMBERSHIP), .unset, .unset, .unset, .unset, .unset] [(.int (10 : Int32))]))
        refine s_aload B X272 (pc' := 38) at_36 rfl rfl rfl ?_
        refine p_static B X272 (y := mn2) (pc' := 41) (argsL := [(.ref w_MEMBERSHIP)]) (under := [(.int (10 : Int32))]) (W := 1) e272 (tw17 hw) (tw18 hw) (tw19 hw) (tw2 hw) (by decide) (rm3_3 l Z a0 hw  w_SHARED w_WRITE w_MEMBERSHIP w_READ Z.heap F0 ) (lenOf pd_2 rfl) rfl rfl (by decide) (by decide) rfl rfl (by decide) (by decide) rfl at_38 rfl (fun T273 X273 e273 => ?_)
        show Go p e below _ (T273.setTop (mkF m 41 #[.val (.int i0), .val (.int i1), .val (.int i2), .val (.ref w_MEMBERSHIP), .val (.ref w_MEMBERSHIP), .val (.ref w_SHARED), .val (.ref w_MEMBERSHIP), .unset, .unset, .unset, .unset, .unset] [(.int (10 : Int32)), (.int (10 : Int32))]))
        refine s_ior B X273 (pc' := 42) (v := (10 : Int32)) at_41 rfl rfl ?_
        refine s_istore B X273 (pc' := 44) (Ls' := #[.val (.int i0), .val (.int i1), .val (.int i2), .val (.ref w_MEMBERSHIP), .val (.ref w_MEMBERSHIP), .val (.ref w_SHARED), .val (.ref w_MEMBERSHIP), .val (.int (10 : Int32)), .unset, .unset, .unset, .unset]) at_42 rfl rfl ?_
        refine s_aload B X273 (pc' := 46) at_44 rfl rfl rfl ?_
        refine p_static B X273 (y := mn2) (pc' := 49) (argsL := [(.ref w_MEMBERSHIP)]) (under := []) (W := 0) e273 (tw17 hw) (tw18 hw) (tw19 hw) (tw2 hw) (by decide) (rm3_3 l Z a0 hw  w_SHARED w_WRITE w_MEMBERSHIP w_READ Z.heap F0 ) (lenOf pd_2 rfl) rfl rfl (by decide) (by decide) rfl rfl (by decide) (by decide) rfl at_46 rfl (fun T274 X274 e274 => ?_)
        show Go p e below _ (T274.setTop (mkF m 49 #[.val (.int i0), .val (.int i1), .val (.int i2), .val (.ref w_MEMBERSHIP), .val (.ref w_MEMBERSHIP), .val (.ref w_SHARED), .val (.ref w_MEMBERSHIP), .val (.int (10 : Int32)), .unset, .unset, .unset, .unset] [(.int (10 : Int32))]))
        refine s_istore B X274 (pc' := 51) (Ls' := #[.val (.int i0), .val (.int i1), .val (.int i2), .val (.ref w_MEMBERSHIP), .val (.ref w_MEMBERSHIP), .val (.ref w_SHARED), .val (.ref w_MEMBERSHIP), .val (.int (10 : Int32)), .val (.int (10 : Int32)), .unset, .unset, .unset]) at_49 rfl rfl ?_
        refine s_aload B X274 (pc' := 53) at_51 rfl rfl rfl ?_
        refine p_static B X274 (y := mn2) (pc' := 56) (argsL := [(.ref w_SHARED)]) (under := []) (W := 0) e274 (tw17 hw) (tw18 hw) (tw19 hw) (tw2 hw) (by decide) (rm3_1 l Z a0 hw  w_SHARED w_WRITE w_MEMBERSHIP w_READ Z.heap F0 ) (lenOf pd_2 rfl) rfl rfl (by decide) (by decide) rfl rfl (by decide) (by decide) rfl at_53 rfl (fun T275 X275 e275 => ?_)
        show Go p e below _ (T275.setTop (mkF m 56 #[.val (.int i0), .val (.int i1), .val (.int i2), .val (.ref w_MEMBERSHIP), .val (.ref w_MEMBERSHIP), .val (.ref w_SHARED), .val (.ref w_MEMBERSHIP), .val (.int (10 : Int32)), .val (.int (10 : Int32)), .unset, .unset, .unset] [(.int (8 : Int32))]))
        refine s_istore B X275 (pc' := 58) (Ls' := #[.val (.int i0), .val (.int i1), .val (.int i2), .val (.ref w_MEMBERSHIP), .val (.ref w_MEMBERSHIP), .val (.ref w_SHARED), .val (.ref w_MEMBERSHIP), .val (.int (10 : Int32)), .val (.int (10 : Int32)), .val (.int (8 : Int32)), .unset, .unset]) at_56 rfl rfl ?_
        refine s_iload B X275 (pc' := 60) at_58 rfl rfl ?_
        refine s_iload B X275 (pc' := 62) at_60 rfl rfl ?_
        refine s_iand B X275 (pc' := 63) (v := (10 : Int32)) at_62 rfl rfl ?_
        refine s_iload B X275 (pc' := 65) at_63 rfl rfl ?_
        refine s_icmpN B X275 (pc' := 68) at_65 (by decide) rfl ?_
        refine s_iconst B X275 (pc' := 69) (v := (1 : Int32)) at_68 rfl rfl ?_
        refine s_goto B X275 (pc' := 73) at_69 (by decide) (by decide) ?_
        refine s_istore B X275 (pc' := 75) (Ls' := #[.val (.int i0), .val (.int i1), .val (.int i2), .val (.ref w_MEMBERSHIP), .val (.ref w_MEMBERSHIP), .val (.ref w_SHARED), .val (.ref w_MEMBERSHIP), .val (.int (10 : Int32)), .val (.int (10 : Int32)), .val (.int (8 : Int32)), .val (.int (1 : Int32)), .unset]) at_73 rfl rfl ?_
        refine s_iload B X275 (pc' := 77) at_75 rfl rfl ?_
        refine s_iload B X275 (pc' := 79) at_77 rfl rfl ?_
        refine s_iand B X275 (pc' := 80) (v := (8 : Int32)) at_79 rfl rfl ?_
        refine s_iload B X275 (pc' := 82) at_80 rfl rfl ?_
        refine s_icmpY B X275 (pc' := 95) at_82 (by decide) (by decide) (by decide) ?_
        refine s_iconst B X275 (pc' := 96) (v := (1 : Int32)) at_95 rfl rfl ?_
        refine s_goto B X275 (pc' := 100) at_96 (by decide) (by decide) ?_
        refine s_istore B X275 (pc' := 102) (Ls' := #[.val (.int i0), .val (.int i1), .val (.int i2), .val (.ref w_MEMBERSHIP), .val (.ref w_MEMBERSHIP), .val (.ref w_SHARED), .val (.ref w_MEMBERSHIP), .val (.int (10 : Int32)), .val (.int (10 : Int32)), .val (.int (8 : Int32)), .val (.int (1 : Int32)), .val (.int (1 : Int32))]) at_100 rfl rfl ?_
        refine s_iload B X275 (pc' := 104) at_102 rfl rfl ?_
        refine s_ifN B X275 (pc' := 107) at_104 (by decide) rfl ?_
        refine s_iload B X275 (pc' := 109) at_107 rfl rfl ?_
        refine s_ifN B X275 (pc' := 112) at_109 (by decide) rfl ?_
        refine s_iconst B X275 (pc' := 113) (v := (1 : Int32)) at_112 rfl rfl ?_
        refine s_goto B X275 (pc' := 117) at_113 (by decide) (by decide) ?_
        exact r_nar B X275 (t := .boolean) (by simp) rfl at_117 ⟨rfl, (Fr.nil _)⟩ (by decide) (by decide)
      · refine p_static B X268 (y := mn0) (pc' := 15) (argsL := [(.int i2)]) (under := []) (W := 0) e268 (tw0 hw) (tw1 hw) (tw3 hw) (tw2 hw) (by decide) (rm_mode1 l Z a0 hw i2 hm269 w_SHARED w_WRITE w_MEMBERSHIP w_READ Z.heap F0) (lenOf pd_0 rfl) rfl rfl (by decide) (by decide) rfl rfl (by decide) (by decide) rfl at_12 rfl (fun T276 X276 e276 => ?_)
        show Go p e below _ (T276.setTop (mkF m 15 #[.val (.int i0), .val (.int i1), .val (.int i2), .val (.ref w_MEMBERSHIP), .val (.ref w_MEMBERSHIP), .unset, .unset, .unset, .unset, .unset, .unset, .unset] [(.ref w_READ)]))
        refine s_astore B X276 (pc' := 17) (Ls' := #[.val (.int i0), .val (.int i1), .val (.int i2), .val (.ref w_MEMBERSHIP), .val (.ref w_MEMBERSHIP), .val (.ref w_READ), .unset, .unset, .unset, .unset, .unset, .unset]) at_15 rfl rfl rfl ?_
        refine s_aloadN B X276 (pc' := 18) at_17 rfl rfl rfl ?_
        refine s_aload B X276 (pc' := 20) at_18 rfl rfl rfl ?_
        refine p_virtual B X276 (y := mn1) (pc' := 23) (argsL := [(.ref w_MEMBERSHIP)]) (under := []) (W := 0) e276 (tw11 hw) (tw12 hw) (tw14 hw) (tw13 hw) (tw15 hw) (tw5 hw) (by decide) (rm2_14 l Z a0 hw  w_SHARED w_WRITE w_MEMBERSHIP w_READ Z.heap F0 ) E_MEMBERSHIP (lenOf pd_1 rfl) rfl rfl (by decide) (by decide) rfl rfl (by decide) (by decide) rfl at_20 rfl (fun T277 X277 e277 => ?_)
        show Go p e below _ (T277.setTop (mkF m 23 #[.val (.int i0), .val (.int i1), .val (.int i2), .val (.ref w_MEMBERSHIP), .val (.ref w_MEMBERSHIP), .val (.ref w_READ), .unset, .unset, .unset, .unset, .unset, .unset] [(.ref w_MEMBERSHIP)]))
        refine s_astore B X277 (pc' := 25) (Ls' := #[.val (.int i0), .val (.int i1), .val (.int i2), .val (.ref w_MEMBERSHIP), .val (.ref w_MEMBERSHIP), .val (.ref w_READ), .val (.ref w_MEMBERSHIP), .unset, .unset, .unset, .unset, .unset]) at_23 rfl rfl rfl ?_
        refine s_aload B X277 (pc' := 27) at_25 rfl rfl rfl ?_
        refine s_ifnonnullY B X277 (pc' := 32) at_27 (by decide) (by decide) ?_
        refine s_aloadN B X277 (pc' := 33) at_32 rfl rfl rfl ?_
        refine p_static B X277 (y := mn2) (pc' := 36) (argsL := [(.ref w_MEMBERSHIP)]) (under := []) (W := 0) e277 (tw17 hw) (tw18 hw) (tw19 hw) (tw2 hw) (by decide) (rm3_3 l Z a0 hw  w_SHARED w_WRITE w_MEMBERSHIP w_READ Z.heap F0 ) (lenOf pd_2 rfl) rfl rfl (by decide) (by decide) rfl rfl (by decide) (by decide) rfl at_33 rfl (fun T278 X278 e278 => ?_)
        show Go p e below _ (T278.setTop (mkF m 36 #[.val (.int i0), .val (.int i1), .val (.int i2), .val (.ref w_MEMBERSHIP), .val (.ref w_MEMBERSHIP), .val (.ref w_READ), .val (.ref w_MEMBERSHIP), .unset, .unset, .unset, .unset, .unset] [(.int (10 : Int32))]))
        refine s_aload B X278 (pc' := 38) at_36 rfl rfl rfl ?_
        refine p_static B X278 (y := mn2) (pc' := 41) (argsL := [(.ref w_MEMBERSHIP)]) (under := [(.int (10 : Int32))]) (W := 1) e278 (tw17 hw) (tw18 hw) (tw19 hw) (tw2 hw) (by decide) (rm3_3 l Z a0 hw  w_SHARED w_WRITE w_MEMBERSHIP w_READ Z.heap F0 ) (lenOf pd_2 rfl) rfl rfl (by decide) (by decide) rfl rfl (by decide) (by decide) rfl at_38 rfl (fun T279 X279 e279 => ?_)
        show Go p e below _ (T279.setTop (mkF m 41 #[.val (.int i0), .val (.int i1), .val (.int i2), .val (.ref w_MEMBERSHIP), .val (.ref w_MEMBERSHIP), .val (.ref w_READ), .val (.ref w_MEMBERSHIP), .unset, .unset, .unset, .unset, .unset] [(.int (10 : Int32)), (.int (10 : Int32))]))
        refine s_ior B X279 (pc' := 42) (v := (10 : Int32)) at_41 rfl rfl ?_
        refine s_istore B X279 (pc' := 44) (Ls' := #[.val (.int i0), .val (.int i1), .val (.int i2), .val (.ref w_MEMBERSHIP), .val (.ref w_MEMBERSHIP), .val (.ref w_READ), .val (.ref w_MEMBERSHIP), .val (.int (10 : Int32)), .unset, .unset, .unset, .unset]) at_42 rfl rfl ?_
        refine s_aload B X279 (pc' := 46) at_44 rfl rfl rfl ?_
        refine p_static B X279 (y := mn2) (pc' := 49) (argsL := [(.ref w_MEMBERSHIP)]) (under := []) (W := 0) e279 (tw17 hw) (tw18 hw) (tw19 hw) (tw2 hw) (by decide) (rm3_3 l Z a0 hw  w_SHARED w_WRITE w_MEMBERSHIP w_READ Z.heap F0 ) (lenOf pd_2 rfl) rfl rfl (by decide) (by decide) rfl rfl (by decide) (by decide) rfl at_46 rfl (fun T280 X280 e280 => ?_)
        show Go p e below _ (T280.setTop (mkF m 49 #[.val (.int i0), .val (.int i1), .val (.int i2), .val (.ref w_MEMBERSHIP), .val (.ref w_MEMBERSHIP), .val (.ref w_READ), .val (.ref w_MEMBERSHIP), .val (.int (10 : Int32)), .unset, .unset, .unset, .unset] [(.int (10 : Int32))]))
        refine s_istore B X280 (pc' := 51) (Ls' := #[.val (.int i0), .val (.int i1), .val (.int i2), .val (.ref w_MEMBERSHIP), .val (.ref w_MEMBERSHIP), .val (.ref w_READ), .val (.ref w_MEMBERSHIP), .val (.int (10 : Int32)), .val (.int (10 : Int32)), .unset, .unset, .unset]) at_49 rfl rfl ?_
        refine s_aload B X280 (pc' := 53) at_51 rfl rfl rfl ?_
        refine p_static B X280 (y := mn2) (pc' := 56) (argsL := [(.ref w_READ)]) (under := []) (W := 0) e280 (tw17 hw) (tw18 hw) (tw19 hw) (tw2 hw) (by decide) (rm3_2 l Z a0 hw  w_SHARED w_WRITE w_MEMBERSHIP w_READ Z.heap F0 ) (lenOf pd_2 rfl) rfl rfl (by decide) (by decide) rfl rfl (by decide) (by decide) rfl at_53 rfl (fun T281 X281 e281 => ?_)
        show Go p e below _ (T281.setTop (mkF m 56 #[.val (.int i0), .val (.int i1), .val (.int i2), .val (.ref w_MEMBERSHIP), .val (.ref w_MEMBERSHIP), .val (.ref w_READ), .val (.ref w_MEMBERSHIP), .val (.int (10 : Int32)), .val (.int (10 : Int32)), .unset, .unset, .unset] [(.int (12 : Int32))]))
        refine s_istore B X281 (pc' := 58) (Ls' := #[.val (.int i0), .val (.int i1), .val (.int i2), .val (.ref w_MEMBERSHIP), .val (.ref w_MEMBERSHIP), .val (.ref w_READ), .val (.ref w_MEMBERSHIP), .val (.int (10 : Int32)), .val (.int (10 : Int32)), .val (.int (12 : Int32)), .unset, .unset]) at_56 rfl rfl ?_
        refine s_iload B X281 (pc' := 60) at_58 rfl rfl ?_
        refine s_iload B X281 (pc' := 62) at_60 rfl rfl ?_
        refine s_iand B X281 (pc' := 63) (v := (10 : Int32)) at_62 rfl rfl ?_
        refine s_iload B X281 (pc' := 65) at_63 rfl rfl ?_
        refine s_icmpN B X281 (pc' := 68) at_65 (by decide) rfl ?_
        refine s_iconst B X281 (pc' := 69) (v := (1 : Int32)) at_68 rfl rfl ?_
        refine s_goto B X281 (pc' := 73) at_69 (by decide) (by decide) ?_
        refine s_istore B X281 (pc' := 75) (Ls' := #[.val (.int i0), .val (.int i1), .val (.int i2), .val (.ref w_MEMBERSHIP), .val (.ref w_MEMBERSHIP), .val (.ref w_READ), .val (.ref w_MEMBERSHIP), .val (.int (10 : Int32)), .val (.int (10 : Int32)), .val (.int (12 : Int32)), .val (.int (1 : Int32)), .unset]) at_73 rfl rfl ?_
        refine s_iload B X281 (pc' := 77) at_75 rfl rfl ?_
        refine s_iload B X281 (pc' := 79) at_77 rfl rfl ?_
        refine s_iand B X281 (pc' := 80) (v := (8 : Int32)) at_79 rfl rfl ?_
        refine s_iload B X281 (pc' := 82) at_80 rfl rfl ?_
        refine s_icmpY B X281 (pc' := 95) at_82 (by decide) (by decide) (by decide) ?_
        refine s_iconst B X281 (pc' := 96) (v := (1 : Int32)) at_95 rfl rfl ?_
        refine s_goto B X281 (pc' := 100) at_96 (by decide) (by decide) ?_
        refine s_istore B X281 (pc' := 102) (Ls' := #[.val (.int i0), .val (.int i1), .val (.int i2), .val (.ref w_MEMBERSHIP), .val (.ref w_MEMBERSHIP), .val (.ref w_READ), .val (.ref w_MEMBERSHIP), .val (.int (10 : Int32)), .val (.int (10 : Int32)), .val (.int (12 : Int32)), .val (.int (1 : Int32)), .val (.int (1 : Int32))]) at_100 rfl rfl ?_
        refine s_iload B X281 (pc' := 104) at_102 rfl rfl ?_
        refine s_ifN B X281 (pc' := 107) at_104 (by decide) rfl ?_
        refine s_iload B X281 (pc' := 109) at_107 rfl rfl ?_
        refine s_ifN B X281 (pc' := 112) at_109 (by decide) rfl ?_
        refine s_iconst B X281 (pc' := 113) (v := (1 : Int32)) at_112 rfl rfl ?_
        refine s_goto B X281 (pc' := 117) at_113 (by decide) (by decide) ?_
        exact r_nar B X281 (t := .boolean) (by simp) rfl at_117 ⟨rfl, (Fr.nil _)⟩ (by decide) (by decide)
      · refine p_static B X268 (y := mn0) (pc' := 15) (argsL := [(.int i2)]) (under := []) (W := 0) e268 (tw0 hw) (tw1 hw) (tw3 hw) (tw2 hw) (by decide) (rm_mode2 l Z a0 hw i2 hm269 w_SHARED w_WRITE w_MEMBERSHIP w_READ Z.heap F0) (lenOf pd_0 rfl) rfl rfl (by decide) (by decide) rfl rfl (by decide) (by decide) rfl at_12 rfl (fun T282 X282 e282 => ?_)
        show Go p e below _ (T282.setTop (mkF m 15 #[.val (.int i0), .val (.int i1), .val (.int i2), .val (.ref w_MEMBERSHIP), .val (.ref w_MEMBERSHIP), .unset, .unset, .unset, .unset, .unset, .unset, .unset] [(.ref w_MEMBERSHIP)]))
        refine s_astore B X282 (pc' := 17) (Ls' := #[.val (.int i0), .val (.int i1), .val (.int i2), .val (.ref w_MEMBERSHIP), .val (.ref w_MEMBERSHIP), .val (.ref w_MEMBERSHIP), .unset, .unset, .unset, .unset, .unset, .unset]) at_15 rfl rfl rfl ?_
        refine s_aloadN B X282 (pc' := 18) at_17 rfl rfl rfl ?_
        refine s_aload B X282 (pc' := 20) at_18 rfl rfl rfl ?_
        refine p_virtual B X282 (y := mn1) (pc' := 23) (argsL := [(.ref w_MEMBERSHIP)]) (under := []) (W := 0) e282 (tw11 hw) (tw12 hw) (tw14 hw) (tw13 hw) (tw15 hw) (tw5 hw) (by decide) (rm2_14 l Z a0 hw  w_SHARED w_WRITE w_MEMBERSHIP w_READ Z.heap F0 ) E_MEMBERSHIP (lenOf pd_1 rfl) rfl rfl (by decide) (by decide) rfl rfl (by decide) (by decide) rfl at_20 rfl (fun T283 X283 e283 => ?_)
        show Go p e below _ (T283.setTop (mkF m 23 #[.val (.int i0), .val (.int i1), .val (.int i2), .val (.ref w_MEMBERSHIP), .val (.ref w_MEMBERSHIP), .val (.ref w_MEMBERSHIP), .unset, .unset, .unset, .unset, .unset, .unset] [(.ref w_MEMBERSHIP)]))
        refine s_astore B X283 (pc' := 25) (Ls' := #[.val (.int i0), .val (.int i1), .val (.int i2), .val (.ref w_MEMBERSHIP), .val (.ref w_MEMBERSHIP), .val (.ref w_MEMBERSHIP), .val (.ref w_MEMBERSHIP), .unset, .unset, .unset, .unset, .unset]) at_23 rfl rfl rfl ?_
        refine s_aload B X283 (pc' := 27) at_25 rfl rfl rfl ?_
        refine s_ifnonnullY B X283 (pc' := 32) at_27 (by decide) (by decide) ?_
        refine s_aloadN B X283 (pc' := 33) at_32 rfl rfl rfl ?_
        refine p_static B X283 (y := mn2) (pc' := 36) (argsL := [(.ref w_MEMBERSHIP)]) (under := []) (W := 0) e283 (tw17 hw) (tw18 hw) (tw19 hw) (tw2 hw) (by decide) (rm3_3 l Z a0 hw  w_SHARED w_WRITE w_MEMBERSHIP w_READ Z.heap F0 ) (lenOf pd_2 rfl) rfl rfl (by decide) (by decide) rfl rfl (by decide) (by decide) rfl at_33 rfl (fun T284 X284 e284 => ?_)
        show Go p e below _ (T284.setTop (mkF m 36 #[.val (.int i0), .val (.int i1), .val (.int i2), .val (.ref w_MEMBERSHIP), .val (.ref w_MEMBERSHIP), .val (.ref w_MEMBERSHIP), .val (.ref w_MEMBERSHIP), .unset, .unset, .unset, .unset, .unset] [(.int (10 : Int32))]))
        refine s_aload B X284 (pc' := 38) at_36 rfl rfl rfl ?_
        refine p_static B X284 (y := mn2) (pc' := 41) (argsL := [(.ref w_MEMBERSHIP)]) (under := [(.int (10 : Int32))]) (W := 1) e284 (tw17 hw) (tw18 hw) (tw19 hw) (tw2 hw) (by decide) (rm3_3 l Z a0 hw  w_SHARED w_WRITE w_MEMBERSHIP w_READ Z.heap F0 ) (lenOf pd_2 rfl) rfl rfl (by decide) (by decide) rfl rfl (by decide) (by decide) rfl at_38 rfl (fun T285 X285 e285 => ?_)
        show Go p e below _ (T285.setTop (mkF m 41 #[.val (.int i0), .val (.int i1), .val (.int i2), .val (.ref w_MEMBERSHIP), .val (.ref w_MEMBERSHIP), .val (.ref w_MEMBERSHIP), .val (.ref w_MEMBERSHIP), .unset, .unset, .unset, .unset, .unset] [(.int (10 : Int32)), (.int (10 : Int32))]))
        refine s_ior B X285 (pc' := 42) (v := (10 : Int32)) at_41 rfl rfl ?_
        refine s_istore B X285 (pc' := 44) (Ls' := #[.val (.int i0), .val (.int i1), .val (.int i2), .val (.ref w_MEMBERSHIP), .val (.ref w_MEMBERSHIP), .val (.ref w_MEMBERSHIP), .val (.ref w_MEMBERSHIP), .val (.int (10 : Int32)), .unset, .unset, .unset, .unset]) at_42 rfl rfl ?_
        refine s_aload B X285 (pc' := 46) at_44 rfl rfl rfl ?_
        refine p_static B X285 (y := mn2) (pc' := 49) (argsL := [(.ref w_MEMBERSHIP)]) (under := []) (W := 0) e285 (tw17 hw) (tw18 hw) (tw19 hw) (tw2 hw) (by decide) (rm3_3 l Z a0 hw  w_SHARED w_WRITE w_MEMBERSHIP w_READ Z.heap F0 ) (lenOf pd_2 rfl) rfl rfl (by decide) (by decide) rfl rfl (by decide) (by decide) rfl at_46 rfl (fun T286 X286 e286 => ?_)
        show Go p e below _ (T286.setTop (mkF m 49 #[.val (.int i0), .val (.int i1), .val (.int i2), .val (.ref w_MEMBERSHIP), .val (.ref w_MEMBERSHIP), .val (.ref w_MEMBERSHIP), .val (.ref w_MEMBERSHIP), .val (.int (10 : Int32)), .unset, .unset, .unset, .unset] [(.int (10 : Int32))]))
        refine s_istore B X286 (pc' := 51) (Ls' := #[.val (.int i0), .val (.int i1), .val (.int i2), .val (.ref w_MEMBERSHIP), .val (.ref w_MEMBERSHIP), .val (.ref w_MEMBERSHIP), .val (.ref w_MEMBERSHIP), .val (.int (10 : Int32)), .val (.int (10 : Int32)), .unset, .unset, .unset]) at_49 rfl rfl ?_
        refine s_aload B X286 (pc' := 53) at_51 rfl rfl rfl ?_
        refine p_static B X286 (y := mn2) (pc' := 56) (argsL := [(.ref w_MEMBERSHIP)]) (under := []) (W := 0) e286 (tw17 hw) (tw18 hw) (tw19 hw) (tw2 hw) (by decide) (rm3_3 l Z a0 hw  w_SHARED w_WRITE w_MEMBERSHIP w_READ Z.heap F0 ) (lenOf pd_2 rfl) rfl rfl (by decide) (by decide) rfl rfl (by decide) (by decide) rfl at_53 rfl (fun T287 X287 e287 => ?_)
        show Go p e below _ (T287.setTop (mkF m 56 #[.val (.int i0), .val (.int i1), .val (.int i2), .val (.ref w_MEMBERSHIP), .val (.ref w_MEMBERSHIP), .val (.ref w_MEMBERSHIP), .val (.ref w_MEMBERSHIP), .val (.int (10 : Int32)), .val (.int (10 : Int32)), .unset, .unset, .unset] [(.int (10 : Int32))]))
        refine s_istore B X287 (pc' := 58) (Ls' := #[.val (.int i0), .val (.int i1), .val (.int i2), .val (.ref w_MEMBERSHIP), .val (.ref w_MEMBERSHIP), .val (.ref w_MEMBERSHIP), .val (.ref w_MEMBERSHIP), .val (.int (10 : Int32)), .val (.int (10 : Int32)), .val (.int (10 : Int32)), .unset, .unset]) at_56 rfl rfl ?_
        refine s_iload B X287 (pc' := 60) at_58 rfl rfl ?_
        refine s_iload B X287 (pc' := 62) at_60 rfl rfl ?_
        refine s_iand B X287 (pc' := 63) (v := (10 : Int32)) at_62 rfl rfl ?_
        refine s_iload B X287 (pc' := 65) at_63 rfl rfl ?_
        refine s_icmpN B X287 (pc' := 68) at_65 (by decide) rfl ?_
        refine s_iconst B X287 (pc' := 69) (v := (1 : Int32)) at_68 rfl rfl ?_
        refine s_goto B X287 (pc' := 73) at_69 (by decide) (by decide) ?_
        refine s_istore B X287 (pc' := 75) (Ls' := #[.val (.int i0), .val (.int i1), .val (.int i2), .val (.ref w_MEMBERSHIP), .val (.ref w_MEMBERSHIP), .val (.ref w_MEMBERSHIP), .val (.ref w_MEMBERSHIP), .val (.int (10 : Int32)), .val (.int (10 : Int32)), .val (.int (10 : Int32)), .val (.int (1 : Int32)), .unset]) at_73 rfl rfl ?_
        refine s_iload B X287 (pc' := 77) at_75 rfl rfl ?_
        refine s_iload B X287 (pc' := 79) at_77 rfl rfl ?_
        refine s_iand B X287 (pc' := 80) (v := (10 : Int32)) at_79 rfl rfl ?_
        refine s_iload B X287 (pc' := 82) at_80 rfl rfl ?_
        refine s_icmpN B X287 (pc' := 85) at_82 (by decide) rfl ?_
        refine s_iload B X287 (pc' := 87) at_85 rfl rfl ?_
        refine s_iload B X287 (pc' := 89) at_87 rfl rfl ?_
        refine s_iand B X287 (pc' := 90) (v := (10 : Int32)) at_89 rfl rfl ?_
        refine s_iload B X287 (pc' := 92) at_90 rfl rfl ?_
        refine s_icmpN B X287 (pc' := 95) at_92 (by decide) rfl ?_
        refine s_iconst B X287 (pc' := 96) (v := (1 : Int32)) at_95 rfl rfl ?_
        refine s_goto B X287 (pc' := 100) at_96 (by decide) (by decide) ?_
        refine s_istore B X287 (pc' := 102) (Ls' := #[.val (.int i0), .val (.int i1), .val (.int i2), .val (.ref w_MEMBERSHIP), .val (.ref w_MEMBERSHIP), .val (.ref w_MEMBERSHIP), .val (.ref w_MEMBERSHIP), .val (.int (10 : Int32)), .val (.int (10 : Int32)), .val (.int (10 : Int32)), .val (.int (1 : Int32)), .val (.int (1 : Int32))]) at_100 rfl rfl ?_
        refine s_iload B X287 (pc' := 104) at_102 rfl rfl ?_
        refine s_ifN B X287 (pc' := 107) at_104 (by decide) rfl ?_
        refine s_iload B X287 (pc' := 109) at_107 rfl rfl ?_
        refine s_ifN B X287 (pc' := 112) at_109 (by decide) rfl ?_
        refine s_iconst B X287 (pc' := 113) (v := (1 : Int32)) at_112 rfl rfl ?_
        refine s_goto B X287 (pc' := 117) at_113 (by decide) (by decide) ?_
        exact r_nar B X287 (t := .boolean) (by simp) rfl at_117 ⟨rfl, (Fr.nil _)⟩ (by decide) (by decide)
      · refine p_static B X268 (y := mn0) (pc' := 15) (argsL := [(.int i2)]) (under := []) (W := 0) e268 (tw0 hw) (tw1 hw) (tw3 hw) (tw2 hw) (by decide) (rm_mode3 l Z a0 hw i2 hm269 w_SHARED w_WRITE w_MEMBERSHIP w_READ Z.heap F0) (lenOf pd_0 rfl) rfl rfl (by decide) (by decide) rfl rfl (by decide) (by decide) rfl at_12 rfl (fun T288 X288 e288 => ?_)
        show Go p e below _ (T288.setTop (mkF m 15 #[.val (.int i0), .val (.int i1), .val (.int i2), .val (.ref w_MEMBERSHIP), .val (.ref w_MEMBERSHIP), .unset, .unset, .unset, .unset, .unset, .unset, .unset] [(.ref w_WRITE)]))
        refine s_astore B X288 (pc' := 17) (Ls' := #[.val (.int i0), .val (.int i1), .val (.int i2), .val (.ref w_MEMBERSHIP), .val (.ref w_MEMBERSHIP), .val (.ref w_WRITE), .unset, .unset, .unset, .unset, .unset, .unset]) at_15 rfl rfl rfl ?_
        refine s_aloadN B X288 (pc' := 18) at_17 rfl rfl rfl ?_
        refine s_aload B X288 (pc' := 20) at_18 rfl rfl rfl ?_
        refine p_virtual B X288 (y := mn1) (pc' := 23) (argsL := [(.ref w_MEMBERSHIP)]) (under := []) (W := 0) e288 (tw11 hw) (tw12 hw) (tw14 hw) (tw13 hw) (tw15 hw) (tw5 hw) (by decide) (rm2_14 l Z a0 hw  w_SHARED w_WRITE w_MEMBERSHIP w_READ Z.heap F0 ) E_MEMBERSHIP (lenOf pd_1 rfl) rfl rfl (by decide) (by decide) rfl rfl (by decide) (by decide) rfl at_20 rfl (fun T289 X289 e289 => ?_)
        show Go p e below _ (T289.setTop (mkF m 23 #[.val (.int i0), .val (.int i1), .val (.int i2), .val (.ref w_MEMBERSHIP), .val (.ref w_MEMBERSHIP), .val (.ref w_WRITE), .unset, .unset, .unset, .unset, .unset, .unset] [(.ref w_MEMBERSHIP)]))
        refine s_astore B X289 (pc' := 25) (Ls' := #[.val (.int i0), .val (.int i1), .val (.int i2), .val (.ref w_MEMBERSHIP), .val (.ref w_MEMBERSHIP), .val (.ref w_WRITE), .val (.ref w_MEMBERSHIP), .unset, .unset, .unset, .unset, .unset]) at_23 rfl rfl rfl ?_
        refine s_aload B X289 (pc' := 27) at_25 rfl rfl rfl ?_
        refine s_ifnonnullY B X289 (pc' := 32) at_27 (by decide) (by decide) ?_
        refine s_aloadN B X289 (pc' := 33) at_32 rfl rfl rfl ?_
        refine p_static B X289 (y := mn2) (pc' := 36) (argsL := [(.ref w_MEMBERSHIP)]) (under := []) (W := 0) e289 (tw17 hw) (tw18 hw) (tw19 hw) (tw2 hw) (by decide) (rm3_3 l Z a0 hw  w_SHARED w_WRITE w_MEMBERSHIP w_READ Z.heap F0 ) (lenOf pd_2 rfl) rfl rfl (by decide) (by decide) rfl rfl (by decide) (by decide) rfl at_33 rfl (fun T290 X290 e290 => ?_)
        show Go p e below _ (T290.setTop (mkF m 36 #[.val (.int i0), .val (.int i1), .val (.int i2), .val (.ref w_MEMBERSHIP), .val (.ref w_MEMBERSHIP), .val (.ref w_WRITE), .val (.ref w_MEMBERSHIP), .unset, .unset, .unset, .unset, .unset] [(.int (10 : Int32))]))
        refine s_aload B X290 (pc' := 38) at_36 rfl rfl rfl ?_
        refine p_static B X290 (y := mn2) (pc' := 41) (argsL := [(.ref w_MEMBERSHIP)]) (under := [(.int (10 : Int32))]) (W := 1) e290 (tw17 hw) (tw18 hw) (tw19 hw) (tw2 hw) (by decide) (rm3_3 l Z a0 hw  w_SHARED w_WRITE w_MEMBERSHIP w_READ Z.heap F0 ) (lenOf pd_2 rfl) rfl rfl (by decide) (by decide) rfl rfl (by decide) (by decide) rfl at_38 rfl (fun T291 X291 e291 => ?_)
        show Go p e below _ (T291.setTop (mkF m 41 #[.val (.int i0), .val (.int i1), .val (.int i2), .val (.ref w_MEMBERSHIP), .val (.ref w_MEMBERSHIP), .val (.ref w_WRITE), .val (.ref w_MEMBERSHIP), .unset, .unset, .unset, .unset, .unset] [(.int (10 : Int32)), (.int (10 : Int32))]))
        refine s_ior B X291 (pc' := 42) (v := (10 : Int32)) at_41 rfl rfl ?_
        refine s_istore B X291 (pc' := 44) (Ls' := #[.val (.int i0), .val (.int i1), .val (.int i2), .val (.ref w_MEMBERSHIP), .val (.ref w_MEMBERSHIP), .val (.ref w_WRITE), .val (.ref w_MEMBERSHIP), .val (.int (10 : Int32)), .unset, .unset, .unset, .unset]) at_42 rfl rfl ?_
        refine s_aload B X291 (pc' := 46) at_44 rfl rfl rfl ?_
        refine p_static B X291 (y := mn2) (pc' := 49) (argsL := [(.ref w_MEMBERSHIP)]) (under := []) (W := 0) e291 (tw17 hw) (tw18 hw) (tw19 hw) (tw2 hw) (by decide) (rm3_3 l Z a0 hw  w_SHARED w_WRITE w_MEMBERSHIP w_READ Z.heap F0 ) (lenOf pd_2 rfl) rfl rfl (by decide) (by decide) rfl rfl (by decide) (by decide) rfl at_46 rfl (fun T292 X292 e292 => ?_)
        show Go p e below _ (T292.setTop (mkF m 49 #[.val (.int i0), .val (.int i1), .val (.int i2), .val (.ref w_MEMBERSHIP), .val (.ref w_MEMBERSHIP), .val (.ref w_WRITE), .val (.ref w_MEMBERSHIP), .val (.int (10 : Int32)), .unset, .unset, .unset, .unset] [(.int (10 : Int32))]))
        refine s_istore B X292 (pc' := 51) (Ls' := #[.val (.int i0), .val (.int i1), .val (.int i2), .val (.ref w_MEMBERSHIP), .val (.ref w_MEMBERSHIP), .val (.ref w_WRITE), .val (.ref w_MEMBERSHIP), .val (.int (10 : Int32)), .val (.int (10 : Int32)), .unset, .unset, .unset]) at_49 rfl rfl ?_
        refine s_aload B X292 (pc' := 53) at_51 rfl rfl rfl ?_
        refine p_static B X292 (y := mn2) (pc' := 56) (argsL := [(.ref w_WRITE)]) (under := []) (W := 0) e292 (tw17 hw) (tw18 hw) (tw19 hw) (tw2 hw) (by decide) (rm3_4 l Z a0 hw  w_SHARED w_WRITE w_MEMBERSHIP w_READ Z.heap F0 ) (lenOf pd_2 rfl) rfl rfl (by decide) (by decide) rfl rfl (by decide) (by decide) rfl at_53 rfl (fun T293 X293 e293 => ?_)
        show Go p e below _ (T293.setTop (mkF m 56 #[.val (.int i0), .val (.int i1), .val (.int i2), .val (.ref w_MEMBERSHIP), .val (.ref w_MEMBERSHIP), .val (.ref w_WRITE), .val (.ref w_MEMBERSHIP), .val (.int (10 : Int32)), .val (.int (10 : Int32)), .unset, .unset, .unset] [(.int (15 : Int32))]))
        refine s_istore B X293 (pc' := 58) (Ls' := #[.val (.int i0), .val (.int i1), .val (.int i2), .val (.ref w_MEMBERSHIP), .val (.ref w_MEMBERSHIP), .val (.ref w_WRITE), .val (.ref w_MEMBERSHIP), .val (.int (10 : Int32)), .val (.int (10 : Int32)), .val (.int (15 : Int32)), .unset, .unset]) at_56 rfl rfl ?_
        refine s_iload B X293 (pc' := 60) at_58 rfl rfl ?_
        refine s_iload B X293 (pc' := 62) at_60 rfl rfl ?_
        refine s_iand B X293 (pc' := 63) (v := (10 : Int32)) at_62 rfl rfl ?_
        refine s_iload B X293 (pc' := 65) at_63 rfl rfl ?_
        refine s_icmpN B X293 (pc' := 68) at_65 (by decide) rfl ?_
        refine s_iconst B X293 (pc' := 69) (v := (1 : Int32)) at_68 rfl rfl ?_
        refine s_goto B X293 (pc' := 73) at_69 (by decide) (by decide) ?_
        refine s_istore B X293 (pc' := 75) (Ls' := #[.val (.int i0), .val (.int i1), .val (.int i2), .val (.ref w_MEMBERSHIP), .val (.ref w_MEMBERSHIP), .val (.ref w_WRITE), .val (.ref w_MEMBERSHIP), .val (.int (10 : Int32)), .val (.int (10 : Int32)), .val (.int (15 : Int32)), .val (.int (1 : Int32)), .unset]) at_73 rfl rfl ?_
        refine s_iload B X293 (pc' := 77) at_75 rfl rfl ?_
        refine s_iload B X293 (pc' := 79) at_77 rfl rfl ?_
        refine s_iand B X293 (pc' := 80) (v := (10 : Int32)) at_79 rfl rfl ?_
        refine s_iload B X293 (pc' := 82) at_80 rfl rfl ?_
        refine s_icmpN B X293 (pc' := 85) at_82 (by decide) rfl ?_
        refine s_iload B X293 (pc' := 87) at_85 rfl rfl ?_
        refine s_iload B X293 (pc' := 89) at_87 rfl rfl ?_
        refine s_iand B X293 (pc' := 90) (v := (10 : Int32)) at_89 rfl rfl ?_
        refine s_iload B X293 (pc' := 92) at_90 rfl rfl ?_
        refine s_icmpN B X293 (pc' := 95) at_92 (by decide) rfl ?_
        refine s_iconst B X293 (pc' := 96) (v := (1 : Int32)) at_95 rfl rfl ?_
        refine s_goto B X293 (pc' := 100) at_96 (by decide) (by decide) ?_
        refine s_istore B X293 (pc' := 102) (Ls' := #[.val (.int i0), .val (.int i1), .val (.int i2), .val (.ref w_MEMBERSHIP), .val (.ref w_MEMBERSHIP), .val (.ref w_WRITE), .val (.ref w_MEMBERSHIP), .val (.int (10 : Int32)), .val (.int (10 : Int32)), .val (.int (15 : Int32)), .val (.int (1 : Int32)), .val (.int (1 : Int32))]) at_100 rfl rfl ?_
        refine s_iload B X293 (pc' := 104) at_102 rfl rfl ?_
        refine s_ifN B X293 (pc' := 107) at_104 (by decide) rfl ?_
        refine s_iload B X293 (pc' := 109) at_107 rfl rfl ?_
        refine s_ifN B X293 (pc' := 112) at_109 (by decide) rfl ?_
        refine s_iconst B X293 (pc' := 113) (v := (1 : Int32)) at_112 rfl rfl ?_
        refine s_goto B X293 (pc' := 117) at_113 (by decide) (by decide) ?_
        exact r_nar B X293 (t := .boolean) (by simp) rfl at_117 ⟨rfl, (Fr.nil _)⟩ (by decide) (by decide)
    · refine p_static B X214 (y := mn0) (pc' := 9) (argsL := [(.int i1)]) (under := []) (W := 0) e214 (tw0 hw) (tw1 hw) (tw3 hw) (tw2 hw) (by decide) (rm_mode3 l Z a0 hw i1 hm215 w_SHARED w_WRITE w_MEMBERSHIP w_READ Z.heap F0) (lenOf pd_0 rfl) rfl rfl (by decide) (by decide) rfl rfl (by decide) (by decide) rfl at_6 rfl (fun T294 X294 e294 => ?_)
      show Go p e below _ (T294.setTop (mkF m 9 #[.val (.int i0), .val (.int i1), .val (.int i2), .val (.ref w_MEMBERSHIP), .unset, .unset, .unset, .unset, .unset, .unset, .unset, .unset] [(.ref w_WRITE)]))
      refine s_astore B X294 (pc' := 11) (Ls' := #[.val (.int i0), .val (.int i1), .val (.int i2), .val (.ref w_MEMBERSHIP), .val (.ref w_WRITE), .unset, .unset, .unset, .unset, .unset, .unset, .unset]) at_9 rfl rfl rfl ?_
      refine s_iloadN B X294 (pc' := 12) at_11 rfl rfl ?_
      rcases own_and3 i2 with hm295 | hm295 | hm295 | hm295
      · refine p_static B X294 (y := mn0) (pc' := 15) (argsL := [(.int i2)]) (under := []) (W := 0) e294 (tw0 hw) (tw1 hw) (tw3 hw) (tw2 hw) (by decide) (rm_mode0 l Z a0 hw i2 hm295 w_SHARED w_WRITE w_MEMBERSHIP w_READ Z.heap F0) (lenOf pd_0 rfl) rfl rfl (by decide) (by decide) rfl rfl (by decide) (by decide) rfl at_12 rfl (fun T296 X296 e296 => ?_)
        show Go p e below _ (T296.setTop (mkF m 15 #[.val (.int i0), .val (.int i1), .val (.int i2), .val (.ref w_MEMBERSHIP), .val (.ref w_WRITE), .unset, .unset, .unset, .unset, .unset, .unset, .unset] [(.ref w_SHARED)]))
        refine s_astore B X296 (pc' := 17) (Ls' := #[.val (.int i0), .val (.int i1), .val (.int i2), .val (.ref w_MEMBERSHIP), .val (.ref w_WRITE), .val (.ref w_SHARED), .unset, .unset, .unset, .unset, .unset, .unset]) at_15 rfl rfl rfl ?_
        refine s_aloadN B X296 (pc' := 18) at_17 rfl rfl rfl ?_
        refine s_aload B X296 (pc' := 20) at_18 rfl rfl rfl ?_
        refine p_virtual B X296 (y := mn1) (pc' := 23) (argsL := [(.ref w_WRITE)]) (under := []) (W := 0) e296 (tw11 hw) (tw12 hw) (tw14 hw) (tw13 hw) (tw15 hw) (tw5 hw) (by decide) (rm2_15 l Z a0 hw  w_SHARED w_WRITE w_MEMBERSHIP w_READ Z.heap F0 ) E_MEMBERSHIP (lenOf pd_1 rfl) rfl rfl (by decide) (by decide) rfl rfl (by decide) (by decide) rfl at_20 rfl (fun T297 X297 e297 => ?_)
        show Go p e below _ (T297.setTop (mkF m 23 #[.val (.int i0), .val (.int i1), .val (.int i2), .val (.ref w_MEMBERSHIP), .val (.ref w_WRITE), .val (.ref w_SHARED), .unset, .unset, .unset, .unset, .unset, .unset] [(.ref w_WRITE)]))
        refine s_astore B X297 (pc' := 25) (Ls' := #[.val (.int i0), .val (.int i1), .val (.int i2), .val (.ref w_MEMBERSHIP), .val (.ref w_WRITE), .val (.ref w_SHARED), .val (.ref w_WRITE), .unset, .unset, .unset, .unset, .unset]) at_23 rfl rfl rfl ?_
        refine s_aload B X297 (pc' := 27) at_25 rfl rfl rfl ?_
        refine s_ifnonnullY B X297 (pc' := 32) at_27 (by decide) (by decide) ?_
        refine s_aloadN B X297 (pc' := 33) at_32 rfl rfl rfl ?_
        refine p_static B X297 (y := mn2) (pc' := 36) (argsL := [(.ref w_MEMBERSHIP)]) (under := []) (W := 0) e297 (tw17 hw) (tw18 hw) (tw19 hw) (tw2 hw) (by decide) (rm3_3 l Z a0 hw  w_SHARED w_WRITE w_MEMBERSHIP w_READ Z.heap F0 ) (lenOf pd_2 rfl) rfl rfl (by decide) (by decide) rfl rfl (by decide) (by decide) rfl at_33 rfl (fun T298 X298 e298 => ?_)
        show Go p e below _ (T298.setTop (mkF m 36 #[.val (.int i0), .val (.int i1), .val (.int i2), .val (.ref w_MEMBERSHIP), .val (.ref w_WRITE), .val (.ref w_SHARED), .val (.ref w_WRITE), .unset, .unset, .unset, .unset, .unset] [(.int (10 : Int32))]))
        refine s_aload B X298 (pc' := 38) at_36 rfl rfl rfl ?_
        refine p_static B X298 (y := mn2) (pc' := 41) (argsL := [(.ref w_WRITE)]) (under := [(.int (10 : Int32))]) (W := 1) e298 (tw17 hw) (tw18 hw) (tw19 hw) (tw2 hw) (by decide) (rm3_4 l Z a0 hw  w_SHARED w_WRITE w_MEMBERSHIP w_READ Z.heap F0 ) (lenOf pd_2 rfl) rfl rfl (by decide) (by decide) rfl rfl (by decide) (by decide) rfl at_38 rfl (fun T299 X299 e299 => ?_)
        show Go p e below _ (T299.setTop (mkF m 41 #[.val (.int i0), .val (.int i1), .val (.int i2), .val (.ref w_MEMBERSHIP), .val (.ref w_WRITE), .val (.ref w_SHARED), .val (.ref w_WRITE), .unset, .unset, .unset, .unset, .unset] [(.int (15 : Int32)), (.int (10 : Int32))]))
        refine s_ior B X299 (pc' := 42) (v := (15 : Int32)) at_41 rfl rfl ?_
        refine s_istore B X299 (pc' := 44) (Ls' := #[.val (.int i0), .val (.int i1), .val (.int i2), .val (.ref w_MEMBERSHIP), .val (.ref w_WRITE), .val (.ref w_SHARED), .val (.ref w_WRITE), .val (.int (15 : Int32)), .unset, .unset, .unset, .unset]) at_42 rfl rfl ?_
        refine s_aload B X299 (pc' := 46) at_44 rfl rfl rfl ?_
        refine p_static B X299 (y := mn2) (pc' := 49) (argsL := [(.ref w_WRITE)]) (under := []) (W := 0) e299 (tw17 hw) (tw18 hw) (tw19 hw) (tw2 hw) (by decide) (rm3_4 l Z a0 hw  w_SHARED w_WRITE w_MEMBERSHIP w_READ Z.heap F0 ) (lenOf pd_2 rfl) rfl rfl (by decide) (by decide) rfl rfl (by decide) (by decide) rfl at_46 rfl (fun T300 X300 e300 => ?_)
        show Go p e below _ (T300.setTop (mkF m 49 #[.val (.int i0), .val (.int i1), .val (.int i2), .val (.ref w_MEMBERSHIP), .val (.ref w_WRITE), .val (.ref w_SHARED), .val (.ref w_WRITE), .val (.int (15 : Int32)), .unset, .unset, .unset, .unset] [(.int (15 : Int32))]))
        refine s_istore B X300 (pc' := 51) (Ls' := #[.val (.int i0), .val (.int i1), .val (.int i2), .val (.ref w_MEMBERSHIP), .val (.ref w_WRITE), .val (.ref w_SHARED), .val (.ref w_WRITE), .val (.int (15 : Int32)), .val (.int (15 : Int32)), .unset, .unset, .unset]) at_49 rfl rfl ?_
        refine s_aload B X300 (pc' := 53) at_51 rfl rfl rfl ?_
        refine p_static B X300 (y := mn2) (pc' := 56) (argsL := [(.ref w_SHARED)]) (under := []) (W := 0) e300 (tw17 hw) (tw18 hw) (tw19 hw) (tw2 hw) (by decide) (rm3_1 l Z a0 hw  w_SHARED w_WRITE w_MEMBERSHIP w_READ Z.heap F0 ) (lenOf pd_2 rfl) rfl rfl (by decide) (by decide) rfl rfl (by decide) (by decide) rfl at_53 rfl (fun T301 X301 e301 => ?_)
        show Go p e below _ (T301.setTop (mkF m 56 #[.val (.int i0), .val (.int i1), .val (.int i2), .val (.ref w_MEMBERSHIP), .val (.ref w_WRITE), .val (.ref w_SHARED), .val (.ref w_WRITE), .val (.int (15 : Int32)), .val (.int (15 : Int32)), .unset, .unset, .unset] [(.int (8 : Int32))]))
        refine s_istore B X301 (pc' := 58) (Ls' := #[.val (.int i0), .val (.int i1), .val (.int i2), .val (.ref w_MEMBERSHIP), .val (.ref w_WRITE), .val (.ref w_SHARED), .val (.ref w_WRITE), .val (.int (15 : Int32)), .val (.int (15 : Int32)), .val (.int (8 : Int32)), .unset, .unset]) at_56 rfl rfl ?_
        refine s_iload B X301 (pc' := 60) at_58 rfl rfl ?_
        refine s_iload B X301 (pc' := 62) at_60 rfl rfl ?_
        refine s_iand B X301 (pc' := 63) (v := (15 : Int32)) at_62 rfl rfl ?_
        refine s_iload B X301 (pc' := 65) at_63 rfl rfl ?_
        refine s_icmpN B X301 (pc' := 68) at_65 (by decide) rfl ?_
        refine s_iconst B X301 (pc' := 69) (v := (1 : Int32)) at_68 rfl rfl ?_
        refine s_goto B X301 (pc' := 73) at_69 (by decide) (by decide) ?_
        refine s_istore B X301 (pc' := 75) (Ls' := #[.val (.int i0), .val (.int i1), .val (.int i2), .val (.ref w_MEMBERSHIP), .val (.ref w_WRITE), .val (.ref w_SHARED), .val (.ref w_WRITE), .val (.int (15 : Int32)), .val (.int (15 : Int32)), .val (.int (8 : Int32)), .val (.int (1 : Int32)), .unset]) at_73 rfl rfl ?_
        refine s_iload B X301 (pc' := 77) at_75 rfl rfl ?_
        refine s_iload B X301 (pc' := 79) at_77 rfl rfl ?_
        refine s_iand B X301 (pc' := 80) (v := (8 : Int32)) at_79 rfl rfl ?_
        refine s_iload B X301 (pc' := 82) at_80 rfl rfl ?_
        refine s_icmpY B X301 (pc' := 95) at_82 (by decide) (by decide) (by decide) ?_
        refine s_iconst B X301 (pc' := 96) (v := (1 : Int32)) at_95 rfl rfl ?_
        refine s_goto B X301 (pc' := 100) at_96 (by decide) (by decide) ?_
        refine s_istore B X301 (pc' := 102) (Ls' := #[.val (.int i0), .val (.int i1), .val (.int i2), .val (.ref w_MEMBERSHIP), .val (.ref w_WRITE), .val (.ref w_SHARED), .val (.ref w_WRITE), .val (.int (15 : Int32)), .val (.int (15 : Int32)), .val (.int (8 : Int32)), .val (.int (1 : Int32)), .val (.int (1 : Int32))]) at_100 rfl rfl ?_
        refine s_iload B X301 (pc' := 104) at_102 rfl rfl ?_
        refine s_ifN B X301 (pc' := 107) at_104 (by decide) rfl ?_
        refine s_iload B X301 (pc' := 109) at_107 rfl rfl ?_
        refine s_ifN B X301 (pc' := 112) at_109 (by decide) rfl ?_
        refine s_iconst B X301 (pc' := 113) (v := (1 : Int32)) at_112 rfl rfl ?_
        refine s_goto B X301 (pc' := 117) at_113 (by decide) (by decide) ?_
        exact r_nar B X301 (t := .boolean) (by simp) rfl at_117 ⟨rfl, (Fr.nil _)⟩ (by decide) (by decide)
      · refine p_static B X294 (y := mn0) (pc' := 15) (argsL := [(.int i2)]) (under := []) (W := 0) e294 (tw0 hw) (tw1 hw) (tw3 hw) (tw2 hw) (by decide) (rm_mode1 l Z a0 hw i2 hm295 w_SHARED w_WRITE w_MEMBERSHIP w_READ Z.heap F0) (lenOf pd_0 rfl) rfl rfl (by decide) (by decide) rfl rfl (by decide) (by decide) rfl at_12 rfl (fun T302 X302 e302 => ?_)
        show Go p e below _ (T302.setTop (mkF m 15 #[.val (.int i0), .val (.int i1), .val (.int i2), .val (.ref w_MEMBERSHIP), .val (.ref w_WRITE), .unset, .unset, .unset, .unset, .unset, .unset, .unset] [(.ref w_READ)]))
        refine s_astore B X302 (pc' := 17) (Ls' := #[.val (.int i0), .val (.int i1), .val (.int i2), .val (.ref w_MEMBERSHIP), .val (.ref w_WRITE), .val (.ref w_READ), .unset, .unset, .unset, .unset, .unset, .unset]) at_15 rfl rfl rfl ?_
        refine s_aloadN B X302 (pc' := 18) at_17 rfl rfl rfl ?_
        refine s_aload B X302 (pc' := 20) at_18 rfl rfl rfl ?_
        refine p_virtual B X302 (y := mn1) (pc' := 23) (argsL := [(.ref w_WRITE)]) (under := []) (W := 0) e302 (tw11 hw) (tw12 hw) (tw14 hw) (tw13 hw) (tw15 hw) (tw5 hw) (by decide) (rm2_15 l Z a0 hw  w_SHARED w_WRITE w_MEMBERSHIP w_READ Z.heap F0 ) E_MEMBERSHIP (lenOf pd_1 rfl) rfl rfl (by decide) (by decide) rfl rfl (by decide) (by decide) rfl at_20 rfl (fun T303 X303 e303 => ?_)
        show Go p e below _ (T303.setTop (mkF m 23 #[.val (.int i0), .val (.int i1), .val (.int i2), .val (.ref w_MEMBERSHIP), .val (.ref w_WRITE), .val (.ref w_READ), .unset, .unset, .unset, .unset, .unset, .unset] [(.ref w_WRITE)]))
        refine s_astore B X303 (pc' := 25) (Ls' := #[.val (.int i0), .val (.int i1), .val (.int i2), .val (.ref w_MEMBERSHIP), .val (.ref w_WRITE), .val (.ref w_READ), .val (.ref w_WRITE), .unset, .unset, .unset, .unset, .unset]) at_23 rfl rfl rfl ?_
        refine s_aload B X303 (pc' := 27) at_25 rfl rfl rfl ?_
        refine s_ifnonnullY B X303 (pc' := 32) at_27 (by decide) (by decide) ?_
        refine s_aloadN B X303 (pc' := 33) at_32 rfl rfl rfl ?_
        refine p_static B X303 (y := mn2) (pc' := 36) (argsL := [(.ref w_MEMBERSHIP)]) (under := []) (W := 0) e303 (tw17 hw) (tw18 hw) (tw19 hw) (tw2 hw) (by decide) (rm3_3 l Z a0 hw  w_SHARED w_WRITE w_MEMBERSHIP w_READ Z.heap F0 ) (lenOf pd_2 rfl) rfl rfl (by decide) (by decide) rfl rfl (by decide) (by decide) rfl at_33 rfl (fun T304 X304 e304 => ?_)
        show Go p e below _ (T304.setTop (mkF m 36 #[.val (.int i0), .val (.int i1), .val (.int i2), .val (.ref w_MEMBERSHIP), .val (.ref w_WRITE), .val (.ref w_READ), .val (.ref w_WRITE), .unset, .unset, .unset, .unset, .unset] [(.int (10 : Int32))]))
        refine s_aload B X304 (pc' := 38) at_36 rfl rfl rfl ?_
        refine p_static B X304 (y := mn2) (pc' := 41) (argsL := [(.ref w_WRITE)]) (under := [(.int (10 : Int32))]) (W := 1) e304 (tw17 hw) (tw18 hw) (tw19 hw) (tw2 hw) (by decide) (rm3_4 l Z a0 hw  w_SHARED w_WRITE w_MEMBERSHIP w_READ Z.heap F0 ) (lenOf pd_2 rfl) rfl rfl (by decide) (by decide) rfl rfl (by decide) (by decide) rfl at_38 rfl (fun T305 X305 e305 => ?_)
        show Go p e below _ (T305.setTop (mkF m 41 #[.val (.int i0), .val (.int i1), .val (.int i2), .val (.ref w_MEMBERSHIP), .val (.ref w_WRITE), .val (.ref w_READ), .val (.ref w_WRITE), .unset, .unset, .unset, .unset, .unset] [(.int (15 : Int32)), (.int (10 : Int32))]))
        refine s_ior B X305 (pc' := 42) (v := (15 : Int32)) at_41 rfl rfl ?_
        refine s_istore B X305 (pc' := 44) (Ls' := #[.val (.int i0), .val (.int i1), .val (.int i2), .val (.ref w_MEMBERSHIP), .val (.ref w_WRITE), .val (.ref w_READ), .val (.ref w_WRITE), .val (.int (15 : Int32)), .unset, .unset, .unset, .unset]) at_42 rfl rfl ?_
        refine s_aload B X305 (pc' := 46) at_44 rfl rfl rfl ?_
        refine p_static B X305 (y := mn2) (pc' := 49) (argsL := [(.ref w_WRITE)]) (under := []) (W := 0) e305 (tw17 hw) (tw18 hw) (tw19 hw) (tw2 hw) (by decide) (rm3_4 l Z a0 hw  w_SHARED w_WRITE w_MEMBERSHIP w_READ Z.heap F0 ) (lenOf pd_2 rfl) rfl rfl (by decide) (by decide) rfl rfl (by decide) (by decide) rfl at_46 rfl (fun T306 X306 e306 => ?_)
        show Go p e below _ (T306.setTop (mkF m 49 #[.val (.int i0), .val (.int i1), .val (.int i2), .val (.ref w_MEMBERSHIP), .val (.ref w_WRITE), .val (.ref w_READ), .val (.ref w_WRITE), .val (.int (15 : Int32)), .unset, .unset, .unset, .unset] [(.int (15 : Int32))]))
        refine s_istore B X306 (pc' := 51) (Ls' := #[.val (.int i0), .val (.int i1), .val (.int i2), .val (.ref w_MEMBERSHIP), .val (.ref w_WRITE), .val (.ref w_READ), .val (.ref w_WRITE), .val (.int (15 : Int32)), .val (.int (15 : Int32)), .unset, .unset, .unset]) at_49 rfl rfl ?_
        refine s_aload B X306 (pc' := 53) at_51 rfl rfl rfl ?_
        refine p_static B X306 (y := mn2) (pc' := 56) (argsL := [(.ref w_READ)]) (under := []) (W := 0) e306 (tw17 hw) (tw18 hw) (tw19 hw) (tw2 hw) (by decide) (rm3_2 l Z a0 hw  w_SHARED w_WRITE w_MEMBERSHIP w_READ Z.heap F0 ) (lenOf pd_2 rfl) rfl rfl (by decide) (by decide) rfl rfl (by decide) (by decide) rfl at_53 rfl (fun T307 X307 e307 => ?_)
        show Go p e below _ (T307.setTop (mkF m 56 #[.val (.int i0), .val (.int i1), .val (.int i2), .val (.ref w_MEMBERSHIP), .val (.ref w_WRITE), .val (.ref w_READ), .val (.ref w_WRITE), .val (.int (15 : Int32)), .val (.int (15 : Int32)), .unset, .unset, .unset] [(.int (12 : Int32))]))
        refine s_istore B X307 (pc' := 58) (Ls' := #[.val (.int i0), .val (.int i1), .val (.int i2), .val (.ref w_MEMBERSHIP), .val (.ref w_WRITE), .val (.ref w_READ), .val (.ref w_WRITE), .val (.int (15 : Int32)), .val (.int (15 : Int32)), .val (.int (12 : Int32)), .unset, .unset]) at_56 rfl rfl ?_
        refine s_iload B X307 (pc' := 60) at_58 rfl rfl ?_
        refine s_iload B X307 (pc' := 62) at_60 rfl rfl ?_
        refine s_iand B X307 (pc' := 63) (v := (15 : Int32)) at_62 rfl rfl ?_
        refine s_iload B X307 (pc' := 65) at_63 rfl rfl ?_
        refine s_icmpN B X307 (pc' := 68) at_65 (by decide) rfl ?_
        refine s_iconst B X307 (pc' := 69) (v := (1 : Int32)) at_68 rfl rfl ?_
        refine s_goto B X307 (pc' := 73) at_69 (by decide) (by decide) ?_
        refine s_istore B X307 (pc' := 75) (Ls' := #[.val (.int i0), .val (.int i1), .val (.int i2), .val (.ref w_MEMBERSHIP), .val (.ref w_WRITE), .val (.ref w_READ), .val (.ref w_WRITE), .val (.int (15 : Int32)), .val (.int (15 : Int32)), .val (.int (12 : Int32)), .val (.int (1 : Int32)), .unset]) at_73 rfl rfl ?_
        refine s_iload B X307 (pc' := 77) at_75 rfl rfl ?_
        refine s_iload B X307 (pc' := 79) at_77 rfl rfl ?_
        refine s_iand B X307 (pc' := 80) (v := (12 : Int32)) at_79 rfl rfl ?_
        refine s_iload B X307 (pc' := 82) at_80 rfl rfl ?_
        refine s_icmpY B X307 (pc' := 95) at_82 (by decide) (by decide) (by decide) ?_
        refine s_iconst B X307 (pc' := 96) (v := (1 : Int32)) at_95 rfl rfl ?_
        refine s_goto B X307 (pc' := 100) at_96 (by decide) (by decide) ?_
        refine s_istore B X307 (pc' := 102) (Ls' := #[.val (.int i0), .val (.int i1), .val (.int i2), .val (.ref w_MEMBERSHIP), .val (.ref w_WRITE), .val (.ref w_READ), .val (.ref w_WRITE), .val (.int (15 : Int32)), .val (.int (15 : Int32)), .val (.int (12 : Int32)), .val (.int (1 : Int32)), .val (.int (1 : Int32))]) at_100 rfl rfl ?_
        refine s_iload B X307 (pc' := 104) at_102 rfl rfl ?_
        refine s_ifN B X307 (pc' := 107) at_104 (by decide) rfl ?_
        refine s_iload B X307 (pc' := 109) at_107 rfl rfl ?_
        refine s_ifN B X307 (pc' := 112) at_109 (by decide) rfl ?_
        refine s_iconst B X307 (pc' := 113) (v := (1 : Int32)) at_112 rfl rfl ?_
        refine s_goto B X307 (pc' := 117) at_113 (by decide) (by decide) ?_
        exact r_nar B X307 (t := .boolean) (by simp) rfl at_117 ⟨rfl, (Fr.nil _)⟩ (by decide) (by decide)
      · refine p_static B X294 (y := mn0) (pc' := 15) (argsL := [(.int i2)]) (under := []) (W := 0) e294 (tw0 hw) (tw1 hw) (tw3 hw) (tw2 hw) (by decide) (rm_mode2 l Z a0 hw i2 hm295 w_SHARED w_WRITE w_MEMBERSHIP w_READ Z.heap F0) (lenOf pd_0 rfl) rfl rfl (by decide) (by decide) rfl rfl (by decide) (by decide) rfl at_12 rfl (fun T308 X308 e308 => ?_)
        show Go p e below _ (T308.setTop (mkF m 15 #[.val (.int i0), .val (.int i1), .val (.int i2), .val (.ref w_MEMBERSHIP), .val (.ref w_WRITE), .unset, .unset, .unset, .unset, .unset, .unset, .unset] [(.ref w_MEMBERSHIP)]))
        refine s_astore B X308 (pc' := 17) (Ls' := #[.val (.int i0), .val (.int i1), .val (.int i2), .val (.ref w_MEMBERSHIP), .val (.ref w_WRITE), .val (.ref w_MEMBERSHIP), .unset, .unset, .unset, .unset, .unset, .unset]) at_15 rfl rfl rfl ?_
        refine s_aloadN B X308 (pc' := 18) at_17 rfl rfl rfl ?_
        refine s_aload B X308 (pc' := 20) at_18 rfl rfl rfl ?_
        refine p_virtual B X308 (y := mn1) (pc' := 23) (argsL := [(.ref w_WRITE)]) (under := []) (W := 0) e308 (tw11 hw) (tw12 hw) (tw14 hw) (tw13 hw) (tw15 hw) (tw5 hw) (by decide) (rm2_15 l Z a0 hw  w_SHARED w_WRITE w_MEMBERSHIP w_READ Z.heap F0 ) E_MEMBERSHIP (lenOf pd_1 rfl) rfl rfl (by decide) (by decide) rfl rfl (by decide) (by decide) rfl at_20 rfl (fun T309 X309 e309 => ?_)
        show Go p e below _ (T309.setTop (mkF m 23 #[.val (.int i0), .val (.int i1), .val (.int i2), .val (.ref w_MEMBERSHIP), .val (.ref w_WRITE), .val (.ref w_MEMBERSHIP), .unset, .unset, .unset, .unset, .unset, .unset] [(.ref w_WRITE)]))
        refine s_astore B X309 (pc' := 25) (Ls' := #[.val (.int i0), .val (.int i1), .val (.int i2), .val (.ref w_MEMBERSHIP), .val (.ref w_WRITE), .val (.ref w_MEMBERSHIP), .val (.ref w_WRITE), .unset, .unset, .unset, .unset, .unset]) at_23 rfl rfl rfl ?_
        refine s_aload B X309 (pc' := 27) at_25 rfl rfl rfl ?_
        refine s_ifnonnullY B X309 (pc' := 32) at_27 (by decide) (by decide) ?_
        refine s_aloadN B X309 (pc' := 33) at_32 rfl rfl rfl ?_
        refine p_static B X309 (y := mn2) (pc' := 36) (argsL := [(.ref w_MEMBERSHIP)]) (under := []) (W := 0) e309 (tw17 hw) (tw18 hw) (tw19 hw) (tw2 hw) (by decide) (rm3_3 l Z a0 hw  w_SHARED w_WRITE w_MEMBERSHIP w_READ Z.heap F0 ) (lenOf pd_2 rfl) rfl rfl (by decide) (by decide) rfl rfl (by decide) (by decide) rfl at_33 rfl (fun T310 X310 e310 => ?_)
        show Go p e below _ (T310.setTop (mkF m 36 #[.val (.int i0), .val (.int i1), .val (.int i2), .val (.ref w_MEMBERSHIP), .val (.ref w_WRITE), .val (.ref w_MEMBERSHIP), .val (.ref w_WRITE), .unset, .unset, .unset, .unset, .unset] [(.int (10 : Int32))]))
        refine s_aload B X310 (pc' := 38) at_36 rfl rfl rfl ?_
        refine p_static B X310 (y := mn2) (pc' := 41) (argsL := [(.ref w_WRITE)]) (under := [(.int (10 : Int32))]) (W := 1) e310 (tw17 hw) (tw18 hw) (tw19 hw) (tw2 hw) (by decide) (rm3_4 l Z a0 hw  w_SHARED w_WRITE w_MEMBERSHIP w_READ Z.heap F0 ) (lenOf pd_2 rfl) rfl rfl (by decide) (by decide) rfl rfl (by decide) (by decide) rfl at_38 rfl (fun T311 X311 e311 => ?_)
        show Go p e below _ (T311.setTop (mkF m 41 #[.val (.int i0), .val (.int i1), .val (.int i2), .val (.ref w_MEMBERSHIP), .val (.ref w_WRITE), .val (.ref w_MEMBERSHIP), .val (.ref w_WRITE), .unset, .unset, .unset, .unset, .unset] [(.int (15 : Int32)), (.int (10 : Int32))]))
        refine s_ior B X311 (pc' := 42) (v := (15 : Int32)) at_41 rfl rfl ?_
        refine s_istore B X311 (pc' := 44) (Ls' := #[.val (.int i0), .val (.int i1), .val (.int i2), .val (.ref w_MEMBERSHIP), .val (.ref w_WRITE), .val (.ref w_MEMBERSHIP), .val (.ref w_WRITE), .val (.int (15 : Int32)), .unset, .unset, .unset, .unset]) at_42 rfl rfl ?_
        refine s_aload B X311 (pc' := 46) at_44 rfl rfl rfl ?_
        refine p_static B X311 (y := mn2) (pc' := 49) (argsL := [(.ref w_WRITE)]) (under := []) (W := 0) e311 (tw17 hw) (tw18 hw) (tw19 hw) (tw2 hw) (by decide) (rm3_4 l Z a0 hw  w_SHARED w_WRITE w_MEMBERSHIP w_READ Z.heap F0 ) (lenOf pd_2 rfl) rfl rfl (by decide) (by decide) rfl rfl (by decide) (by decide) rfl at_46 rfl (fun T312 X312 e312 => ?_)
        show Go p e below _ (T312.setTop (mkF m 49 #[.val (.int i0), .val (.int i1), .val (.int i2), .val (.ref w_MEMBERSHIP), .val (.ref w_WRITE), .val (.ref w_MEMBERSHIP), .val (.ref w_WRITE), .val (.int (15 : Int32)), .unset, .unset, .unset, .unset] [(.int (15 : Int32))]))
        refine s_istore B X312 (pc' := 51) (Ls' := #[.val (.int i0), .val (.int i1), .val (.int i2), .val (.ref w_MEMBERSHIP), .val (.ref w_WRITE), .val (.ref w_MEMBERSHIP), .val (.ref w_WRITE), .val (.int (15 : Int32)), .val (.int (15 : Int32)), .unset, .unset, .unset]) at_49 rfl rfl ?_
        refine s_aload B X312 (pc' := 53) at_51 rfl rfl rfl ?_
        refine p_static B X312 (y := mn2) (pc' := 56) (argsL := [(.ref w_MEMBERSHIP)]) (under := []) (W := 0) e312 (tw17 hw) (tw18 hw) (tw19 hw) (tw2 hw) (by decide) (rm3_3 l Z a0 hw  w_SHARED w_WRITE w_MEMBERSHIP w_READ Z.heap F0 ) (lenOf pd_2 rfl) rfl rfl (by decide) (by decide) rfl rfl (by decide) (by decide) rfl at_53 rfl (fun T313 X313 e313 => ?_)
        show Go p e below _ (T313.setTop (mkF m 56 #[.val (.int i0), .val (.int i1), .val (.int i2), .val (.ref w_MEMBERSHIP), .val (.ref w_WRITE), .val (.ref w_MEMBERSHIP), .val (.ref w_WRITE), .val (.int (15 : Int32)), .val (.int (15 : Int32)), .unset, .unset, .unset] [(.int (10 : Int32))]))
        refine s_istore B X313 (pc' := 58) (Ls' := #[.val (.int i0), .val (.int i1), .val (.int i2), .val (.ref w_MEMBERSHIP), .val (.ref w_WRITE), .val (.ref w_MEMBERSHIP), .val (.ref w_WRITE), .val (.int (15 : Int32)), .val (.int (15 : Int32)), .val (.int (10 : Int32)), .unset, .unset]) at_56 rfl rfl ?_
        refine s_iload B X313 (pc' := 60) at_58 rfl rfl ?_
        refine s_iload B X313 (pc' := 62) at_60 rfl rfl ?_
        refine s_iand B X313 (pc' := 63) (v := (15 : Int32)) at_62 rfl rfl ?_
        refine s_iload B X313 (pc' := 65) at_63 rfl rfl ?_
        refine s_icmpN B X313 (pc' := 68) at_65 (by decide) rfl ?_
        refine s_iconst B X313 (pc' := 69) (v := (1 : Int32)) at_68 rfl rfl ?_
        refine s_goto B X313 (pc' := 73) at_69 (by decide) (by decide) ?_
        refine s_istore B X313 (pc' := 75) (Ls' := #[.val (.int i0), .val (.int i1), .val (.int i2), .val (.ref w_MEMBERSHIP), .val (.ref w_WRITE), .val (.ref w_MEMBERSHIP), .val (.ref w_WRITE), .val (.int (15 : Int32)), .val (.int (15 : Int32)), .val (.int (10 : Int32)), .val (.int (1 : Int32)), .unset]) at_73 rfl rfl ?_
        refine s_iload B X313 (pc' := 77) at_75 rfl rfl ?_
        refine s_iload B X313 (pc' := 79) at_77 rfl rfl ?_
        refine s_iand B X313 (pc' := 80) (v := (10 : Int32)) at_79 rfl rfl ?_
        refine s_iload B X313 (pc' := 82) at_80 rfl rfl ?_
        refine s_icmpY B X313 (pc' := 95) at_82 (by decide) (by decide) (by decide) ?_
        refine s_iconst B X313 (pc' := 96) (v := (1 : Int32)) at_95 rfl rfl ?_
        refine s_goto B X313 (pc' := 100) at_96 (by decide) (by decide) ?_
        refine s_istore B X313 (pc' := 102) (Ls' := #[.val (.int i0), .val (.int i1), .val (.int i2), .val (.ref w_MEMBERSHIP), .val (.ref w_WRITE), .val (.ref w_MEMBERSHIP), .val (.ref w_WRITE), .val (.int (15 : Int32)), .val (.int (15 : Int32)), .val (.int (10 : Int32)), .val (.int (1 : Int32)), .val (.int (1 : Int32))]) at_100 rfl rfl ?_
        refine s_iload B X313 (pc' := 104) at_102 rfl rfl ?_
        refine s_ifN B X313 (pc' := 107) at_104 (by decide) rfl ?_
        refine s_iload B X313 (pc' := 109) at_107 rfl rfl ?_
        refine s_ifN B X313 (pc' := 112) at_109 (by decide) rfl ?_
        refine s_iconst B X313 (pc' := 113) (v := (1 : Int32)) at_112 rfl rfl ?_
        refine s_goto B X313 (pc' := 117) at_113 (by decide) (by decide) ?_
        exact r_nar B X313 (t := .boolean) (by simp) rfl at_117 ⟨rfl, (Fr.nil _)⟩ (by decide) (by decide)
      · refine p_static B X294 (y := mn0) (pc' := 15) (argsL := [(.int i2)]) (under := []) (W := 0) e294 (tw0 hw) (tw1 hw) (tw3 hw) (tw2 hw) (by decide) (rm_mode3 l Z a0 hw i2 hm295 w_SHARED w_WRITE w_MEMBERSHIP w_READ Z.heap F0) (lenOf pd_0 rfl) rfl rfl (by decide) (by decide) rfl rfl (by decide) (by decide) rfl at_12 rfl (fun T314 X314 e314 => ?_)
        show Go p e below _ (T314.setTop (mkF m 15 #[.val (.int i0), .val (.int i1), .val (.int i2), .val (.ref w_MEMBERSHIP), .val (.ref w_WRITE), .unset, .unset, .unset, .unset, .unset, .unset, .unset] [(.ref w_WRITE)]))
        refine s_astore B X314 (pc' := 17) (Ls' := #[.val (.int i0), .val (.int i1), .val (.int i2), .val (.ref w_MEMBERSHIP), .val (.ref w_WRITE), .val (.ref w_WRITE), .unset, .unset, .unset, .unset, .unset, .unset]) at_15 rfl rfl rfl ?_
        refine s_aloadN B X314 (pc' := 18) at_17 rfl rfl rfl ?_
        refine s_aload B X314 (pc' := 20) at_18 rfl rfl rfl ?_
        refine p_virtual B X314 (y := mn1) (pc' := 23) (argsL := [(.ref w_WRITE)]) (under := []) (W := 0) e314 (tw11 hw) (tw12 hw) (tw14 hw) (tw13 hw) (tw15 hw) (tw5 hw) (by decide) (rm2_15 l Z a0 hw  w_SHARED w_WRITE w_MEMBERSHIP w_READ Z.heap F0 ) E_MEMBERSHIP (lenOf pd_1 rfl) rfl rfl (by decide) (by decide) rfl rfl (by decide) (by decide) rfl at_20 rfl (fun T315 X315 e315 => ?_)
        show Go p e below _ (T315.setTop (mkF m 23 #[.val (.int i0), .val (.int i1), .val (.int i2), .val (.ref w_MEMBERSHIP), .val (.ref w_WRITE), .val (.ref w_WRITE), .unset, .unset, .unset, .unset, .unset, .unset] [(.ref w_WRITE)]))
        refine s_astore B X315 (pc' := 25) (Ls' := #[.val (.int i0), .val (.int i1), .val (.int i2), .val (.ref w_MEMBERSHIP), .val (.ref w_WRITE), .val (.ref w_WRITE), .val (.ref w_WRITE), .unset, .unset, .unset, .unset, .unset]) at_23 rfl rfl rfl ?_
        refine s_aload B X315 (pc' := 27) at_25 rfl rfl rfl ?_
        refine s_ifnonnullY B X315 (pc' := 32) at_27 (by decide) (by decide) ?_
        refine s_aloadN B X315 (pc' := 33) at_32 rfl rfl rfl ?_
        refine p_static B X315 (y := mn2) (pc' := 36) (argsL := [(.ref w_MEMBERSHIP)]) (under := []) (W := 0) e315 (tw17 hw) (tw18 hw) (tw19 hw) (tw2 hw) (by decide) (rm3_3 l Z a0 hw  w_SHARED w_WRITE w_MEMBERSHIP w_READ Z.heap F0 ) (lenOf pd_2 rfl) rfl rfl (by decide) (by decide) rfl rfl (by decide) (by decide) rfl at_33 rfl (fun T316 X316 e316 => ?_)
        show Go p e below _ (T316.setTop (mkF m 36 #[.val (.int i0), .val (.int i1), .val (.int i2), .val (.ref w_MEMBERSHIP), .val (.ref w_WRITE), .val (.ref w_WRITE), .val (.ref w_WRITE), .unset, .unset, .unset, .unset, .unset] [(.int (10 : Int32))]))
        refine s_aload B X316 (pc' := 38) at_36 rfl rfl rfl ?_
        refine p_static B X316 (y := mn2) (pc' := 41) (argsL := [(.ref w_WRITE)]) (under := [(.int (10 : Int32))]) (W := 1) e316 (tw17 hw) (tw18 hw) (tw19 hw) (tw2 hw) (by decide) (rm3_4 l Z a0 hw  w_SHARED w_WRITE w_MEMBERSHIP w_READ Z.heap F0 ) (lenOf pd_2 rfl) rfl rfl (by decide) (by decide) rfl rfl (by decide) (by decide) rfl at_38 rfl (fun T317 X317 e317 => ?_)
        show Go p e below _ (T317.setTop (mkF m 41 #[.val (.int i0), .val (.int i1), .val (.int i2), .val (.ref w_MEMBERSHIP), .val (.ref w_WRITE), .val (.ref w_WRITE), .val (.ref w_WRITE), .unset, .unset, .unset, .unset, .unset] [(.int (15 : Int32)), (.int (10 : Int32))]))
        refine s_ior B X317 (pc' := 42) (v := (15 : Int32)) at_41 rfl rfl ?_
        refine s_istore B X317 (pc' := 44) (Ls' := #[.val (.int i0), .val (.int i1), .val (.int i2), .val (.ref w_MEMBERSHIP), .val (.ref w_WRITE), .val (.ref w_WRITE), .val (.ref w_WRITE), .val (.int (15 : Int32)), .unset, .unset, .unset, .unset]) at_42 rfl rfl ?_
        refine s_aload B X317 (pc' := 46) at_44 rfl rfl rfl ?_
        refine p_static B X317 (y := mn2) (pc' := 49) (argsL := [(.ref w_WRITE)]) (under := []) (W := 0) e317 (tw17 hw) (tw18 hw) (tw19 hw) (tw2 hw) (by decide) (rm3_4 l Z a0 hw  w_SHARED w_WRITE w_MEMBERSHIP w_READ Z.heap F0 ) (lenOf pd_2 rfl) rfl rfl (by decide) (by decide) rfl rfl (by decide) (by decide) rfl at_46 rfl (fun T318 X318 e318 => ?_)
        show Go p e below _ (T318.setTop (mkF m 49 #[.val (.int i0), .val (.int i1), .val (.int i2), .val (.ref w_MEMBERSHIP), .val (.ref w_WRITE), .val (.ref w_WRITE), .val (.ref w_WRITE), .val (.int (15 : Int32)), .unset, .unset, .unset, .unset] [(.int (15 : Int32))]))
        refine s_istore B X318 (pc' := 51) (Ls' := #[.val (.int i0), .val (.int i1), .val (.int i2), .val (.ref w_MEMBERSHIP), .val (.ref w_WRITE), .val (.ref w_WRITE), .val (.ref w_WRITE), .val (.int (15 : Int32)), .val (.int (15 : Int32)), .unset, .unset, .unset]) at_49 rfl rfl ?_
        refine s_aload B X318 (pc' := 53) at_51 rfl rfl rfl ?_
        refine p_static B X318 (y := mn2) (pc' := 56) (argsL := [(.ref w_WRITE)]) (under := []) (W := 0) e318 (tw17 hw) (tw18 hw) (tw19 hw) (tw2 hw) (by decide) (rm3_4 l Z a0 hw  w_SHARED w_WRITE w_MEMBERSHIP w_READ Z.heap F0 ) (lenOf pd_2 rfl) rfl rfl (by decide) (by decide) rfl rfl (by decide) (by decide) rfl at_53 rfl (fun T319 X319 e319 => ?_)
        show Go p e below _ (T319.setTop (mkF m 56 #[.val (.int i0), .val (.int i1), .val (.int i2), .val (.ref w_MEMBERSHIP), .val (.ref w_WRITE), .val (.ref w_WRITE), .val (.ref w_WRITE), .val (.int (15 : Int32)), .val (.int (15 : Int32)), .unset, .unset, .unset] [(.int (15 : Int32))]))
        refine s_istore B X319 (pc' := 58) (Ls' := #[.val (.int i0), .val (.int i1), .val (.int i2), .val (.ref w_MEMBERSHIP), .val (.ref w_WRITE), .val (.ref w_WRITE), .val (.ref w_WRITE), .val (.int (15 : Int32)), .val (.int (15 : Int32)), .val (.int (15 : Int32)), .unset, .unset]) at_56 rfl rfl ?_
        refine s_iload B X319 (pc' := 60) at_58 rfl rfl ?_
        refine s_iload B X319 (pc' := 62) at_60 rfl rfl ?_
        refine s_iand B X319 (pc' := 63) (v := (15 : Int32)) at_62 rfl rfl ?_
        refine s_iload B X319 (pc' := 65) at_63 rfl rfl ?_
        refine s_icmpN B X319 (pc' := 68) at_65 (by decide) rfl ?_
        refine s_iconst B X319 (pc' := 69) (v := (1 : Int32)) at_68 rfl rfl ?_
        refine s_goto B X319 (pc' := 73) at_69 (by decide) (by decide) ?_
        refine s_istore B X319 (pc' := 75) (Ls' := #[.val (.int i0), .val (.int i1), .val (.int i2), .val (.ref w_MEMBERSHIP), .val (.ref w_WRITE), .val (.ref w_WRITE), .val (.ref w_WRITE), .val (.int (15 : Int32)), .val (.int (15 : Int32)), .val (.int (15 : Int32)), .val (.int (1 : Int32)), .unset]) at_73 rfl rfl ?_
        refine s_iload B X319 (pc' := 77) at_75 rfl rfl ?_
        refine s_iload B X319 (pc' := 79) at_77 rfl rfl ?_
        refine s_iand B X319 (pc' := 80) (v := (15 : Int32)) at_79 rfl rfl ?_
        refine s_iload B X319 (pc' := 82) at_80 rfl rfl ?_
        refine s_icmpN B X319 (pc' := 85) at_82 (by decide) rfl ?_
        refine s_iload B X319 (pc' := 87) at_85 rfl rfl ?_
        refine s_iload B X319 (pc' := 89) at_87 rfl rfl ?_
        refine s_iand B X319 (pc' := 90) (v := (15 : Int32)) at_89 rfl rfl ?_
        refine s_iload B X319 (pc' := 92) at_90 rfl rfl ?_
        refine s_icmpN B X319 (pc' := 95) at_92 (by decide) rfl ?_
        refine s_iconst B X319 (pc' := 96) (v := (1 : Int32)) at_95 rfl rfl ?_
        refine s_goto B X319 (pc' := 100) at_96 (by decide) (by decide) ?_
        refine s_istore B X319 (pc' := 102) (Ls' := #[.val (.int i0), .val (.int i1), .val (.int i2), .val (.ref w_MEMBERSHIP), .val (.ref w_WRITE), .val (.ref w_WRITE), .val (.ref w_WRITE), .val (.int (15 : Int32)), .val (.int (15 : Int32)), .val (.int (15 : Int32)), .val (.int (1 : Int32)), .val (.int (1 : Int32))]) at_100 rfl rfl ?_
        refine s_iload B X319 (pc' := 104) at_102 rfl rfl ?_
        refine s_ifN B X319 (pc' := 107) at_104 (by decide) rfl ?_
        refine s_iload B X319 (pc' := 109) at_107 rfl rfl ?_
        refine s_ifN B X319 (pc' := 112) at_109 (by decide) rfl ?_
        refine s_iconst B X319 (pc' := 113) (v := (1 : Int32)) at_112 rfl rfl ?_
        refine s_goto B X319 (pc' := 117) at_113 (by decide) (by decide) ?_
        exact r_nar B X319 (t := .boolean) (by simp) rfl at_117 ⟨rfl, (Fr.nil _)⟩ (by decide) (by decide)
  · refine p_static B X0 (y := mn0) (pc' := 4) (argsL := [(.int i0)]) (under := []) (W := 0) e0 (tw0 hw) (tw1 hw) (tw3 hw) (tw2 hw) (by decide) (rm_mode3 l Z a0 hw i0 hm1 w_SHARED w_WRITE w_MEMBERSHIP w_READ Z.heap F0) (lenOf pd_0 rfl) rfl rfl (by decide) (by decide) rfl rfl (by decide) (by decide) rfl at_1 rfl (fun T320 X320 e320 => ?_)
    show Go p e below _ (T320.setTop (mkF m 4 #[.val (.int i0), .val (.int i1), .val (.int i2), .unset, .unset, .unset, .unset, .unset, .unset, .unset, .unset, .unset] [(.ref w_WRITE)]))
    refine s_astoreN B X320 (pc' := 5) (Ls' := #[.val (.int i0), .val (.int i1), .val (.int i2), .val (.ref w_WRITE), .unset, .unset, .unset, .unset, .unset, .unset, .unset, .unset]) at_4 rfl rfl rfl ?_
    refine s_iloadN B X320 (pc' := 6) at_5 rfl rfl ?_
    rcases own_and3 i1 with hm321 | hm321 | hm321 | hm321
    · refine p_static B X320 (y := mn0) (pc' := 9) (argsL := [(.int i1)]) (under := []) (W := 0) e320 (tw0 hw) (tw1 hw) (tw3 hw) (tw2 hw) (by decide) (rm_mode0 l Z a0 hw i1 hm321 w_SHARED w_WRITE w_MEMBERSHIP w_READ Z.heap F0) (lenOf pd_0 rfl) rfl rfl (by decide) (by decide) rfl rfl (by decide) (by decide) rfl at_6 rfl (fun T322 X322 e322 => ?_)
      show Go p e below _ (T322.setTop (mkF m 9 #[.val (.int i0), .val (.int i1), .val (.int i2), .val (.ref w_WRITE), .unset, .unset, .unset, .unset, .unset, .unset, .unset, .unset] [(.ref w_SHARED)]))
      refine s_astore B X322 (pc' := 11) (Ls' := #[.val (.int i0), .val (.int i1), .val (.int i2), .val (.ref w_WRITE), .val (.ref w_SHARED), .unset, .unset, .unset, .unset, .unset, .unset, .unset]) at_9 rfl rfl rfl ?_
      refine s_iloadN B X322 (pc' := 12) at_11 rfl rfl ?_
      rcases own_and3 i2 with hm323 | hm323 | hm323 | hm323
      · refine p_static B X322 (y := mn0) (pc' := 15) (argsL := [(.int i2)]) (under := []) (W := 0) e322 (tw0 hw) (tw1 hw) (tw3 hw) (tw2 hw) (by decide) (rm_mode0 l Z a0 hw i2 hm323 w_SHARED w_WRITE w_MEMBERSHIP w_READ Z.heap F0) (lenOf pd_0 rfl) rfl rfl (by decide) (by decide) rfl rfl (by decide) (by decide) rfl at_12 rfl (fun T324 X324 e324 => ?_)
        show Go p e below _ (T324.setTop (mkF m 15 #[.val (.int i0), .val (.int i1), .val (.int i2), .val (.ref w_WRITE), .val (.ref w_SHARED), .unset, .unset, .unset, .unset, .unset, .unset, .unset] [(.ref w_SHARED)]))
        refine s_astore B X324 (pc' := 17) (Ls' := #[.val (.int i0), .val (.int i1), .val (.int i2), .val (.ref w_WRITE), .val (.ref w_SHARED), .val (.ref w_SHARED), .unset, .unset, .unset, .unset, .unset, .unset]) at_15 rfl rfl rfl ?_
        refine s_aloadN B X324 (pc' := 18) at_17 rfl rfl rfl ?_
        refine s_aload B X324 (pc' := 20) at_18 rfl rfl rfl ?_
        refine p_virtual B X324 (y := mn1) (pc' := 23) (argsL := [(.ref w_SHARED)]) (under := []) (W := 0) e324 (tw11 hw) (tw12 hw) (tw14 hw) (tw13 hw) (tw15 hw) (tw5 hw) (by decide) (rm2_16 l Z a0 hw  w_SHARED w_WRITE w_MEMBERSHIP w_READ Z.heap F0 ) E_WRITE (lenOf pd_1 rfl) rfl rfl (by decide) (by decide) rfl rfl (by decide) (by decide) rfl at_20 rfl (fun T325 X325 e325 => ?_)
        show Go p e below _ (T325.setTop (mkF m 23 #[.val (.int i0), .val (.int i1), .val (.int i2), .val (.ref w_WRITE), .val (.ref w_SHARED), .val (.ref w_SHARED), .unset, .unset, .unset, .unset, .unset, .unset] [(.ref w_WRITE)]))
        refine s_astore B X325 (pc' := 25) (Ls' := #[.val (.int i0), .val (.int i1), .val (.int i2), .val (.ref w_WRITE), .val (.ref w_SHARED), .val (.ref w_SHARED), .val (.ref w_WRITE), .unset, .unset, .unset, .unset, .unset]) at_23 rfl rfl rfl ?_
        refine s_aload B X325 (pc' := 27) at_25 rfl rfl rfl ?_
        refine s_ifnonnullY B X325 (pc' := 32) at_27 (by decide) (by decide) ?_
        refine s_aloadN B X325 (pc' := 33) at_32 rfl rfl rfl ?_
        refine p_static B X325 (y := mn2) (pc' := 36) (argsL := [(.ref w_WRITE)]) (under := []) (W := 0) e325 (tw17 hw) (tw18 hw) (tw19 hw) (tw2 hw) (by decide) (rm3_4 l Z a0 hw  w_SHARED w_WRITE w_MEMBERSHIP w_READ Z.heap F0 ) (lenOf pd_2 rfl) rfl rfl (by decide) (by decide) rfl rfl (by decide) (by decide) rfl at_33 rfl (fun T326 X326 e326 => ?_)
        show Go p e below _ (T326.setTop (mkF m 36 #[.val (.int i0), .val (.int i1), .val (.int i2), .val (.ref w_WRITE), .val (.ref w_SHARED), .val (.ref w_SHARED), .val (.ref w_WRITE), .unset, .unset, .unset, .unset, .unset] [(.int (15 : Int32))]))
        refine s_aload B X326 (pc' := 38) at_36 rfl rfl rfl ?_
        refine p_static B X326 (y := mn2) (pc' := 41) (argsL := [(.ref w_SHARED)]) (under := [(.int (15 : Int32))]) (W := 1) e326 (tw17 hw) (tw18 hw) (tw19 hw) (tw2 hw) (by decide) (rm3_1 l Z a0 hw  w_SHARED w_WRITE w_MEMBERSHIP w_READ Z.heap F0 ) (lenOf pd_2 rfl) rfl rfl (by decide) (by decide) rfl rfl (by decide) (by decide) rfl at_38 rfl (fun T327 X327 e327 => ?_)
        show Go p e below _ (T327.setTop (mkF m 41 #[.val (.int i0), .val (.int i1), .val (.int i2), .val (.ref w_WRITE), .val (.ref w_SHARED), .val (.ref w_SHARED), .val (.ref w_WRITE), .unset, .unset, .unset, .unset, .unset] [(.int (8 : Int32)), (.int (15 : Int32))]))
        refine s_ior B X327 (pc' := 42) (v := (15 : Int32)) at_41 rfl rfl ?_
        refine s_istore B X327 (pc' := 44) (Ls' := #[.val (.int i0), .val (.int i1), .val (.int i2), .val (.ref w_WRITE), .val (.ref w_SHARED), .val (.ref w_SHARED), .val (.ref w_WRITE), .val (.int (15 : Int32)), .unset, .unset, .unset, .unset]) at_42 rfl rfl ?_
        refine s_aload B X327 (pc' := 46) at_44 rfl rfl rfl ?_
        refine p_static B X327 (y := mn2) (pc' := 49) (argsL := [(.ref w_WRITE)]) (under := []) (W := 0) e327 (tw17 hw) (tw18 hw) (tw19 hw) (tw2 hw) (by decide) (rm3_4 l Z a0 hw  w_SHARED w_WRITE w_MEMBERSHIP w_READ Z.heap F0 ) (lenOf pd_2 rfl) rfl rfl (by decide) (by decide) rfl rfl (by decide) (by decide) rfl at_46 rfl (fun T328 X328 e328 => ?_)
        show Go p e below _ (T328.setTop (mkF m 49 #[.val (.int i0), .val (.int i1), .val (.int i2), .val (.ref w_WRITE), .val (.ref w_SHARED), .val (.ref w_SHARED), .val (.ref w_WRITE), .val (.int (15 : Int32)), .unset, .unset, .unset, .unset] [(.int (15 : Int32))]))
        refine s_istore B X328 (pc' := 51) (Ls' := #[.val (.int i0), .val (.int i1), .val (.int i2), .val (.ref w_WRITE), .val (.ref w_SHARED), .val (.ref w_SHARED), .val (.ref w_WRITE), .val (.int (15 : Int32)), .val (.int (15 : Int32)), .unset, .unset, .unset]) at_49 rfl rfl ?_
        refine s_aload B X328 (pc' := 53) at_51 rfl rfl rfl ?_
        refine p_static B X328 (y := mn2) (pc' := 56) (argsL := [(.ref w_SHARED)]) (under := []) (W := 0) e328 (tw17 hw) (tw18 hw) (tw19 hw) (tw2 hw) (by decide) (rm3_1 l Z a0 hw  w_SHARED w_WRITE w_MEMBERSHIP w_READ Z.heap F0 ) (lenOf pd_2 rfl) rfl rfl (by decide) (by decide) rfl rfl (by decide) (by decide) rfl at_53 rfl (fun T329 X329 e329 => ?_)
        show Go p e below _ (T329.setTop (mkF m 56 #[.val (.int i0), .val (.int i1), .val (.int i2), .val (.ref w_WRITE), .val (.ref w_SHARED), .val (.ref w_SHARED), .val (.ref w_WRITE), .val (.int (15 : Int32)), .val (.int (15 : Int32)), .unset, .unset, .unset] [(.int (8 : Int32))]))
        refine s_istore B X329 (pc' := 58) (Ls' := #[.val (.int i0), .val (.int i1), .val (.int i2), .val (.ref w_WRITE), .val (.ref w_SHARED), .val (.ref w_SHARED), .val (.ref w_WRITE), .val (.int (15 : Int32)), .val (.int (15 : Int32)), .val (.int (8 : Int32)), .unset, .unset]) at_56 rfl rfl ?_
        refine s_iload B X329 (pc' := 60) at_58 rfl rfl ?_
        refine s_iload B X329 (pc' := 62) at_60 rfl rfl ?_
        refine s_iand B X329 (pc' := 63) (v := (15 : Int32)) at_62 rfl rfl ?_
        refine s_iload B X329 (pc' := 65) at_63 rfl rfl ?_
        refine s_icmpN B X329 (pc' := 68) at_65 (by decide) rfl ?_
        refine s_iconst B X329 (pc' := 69) (v := (1 : Int32)) at_68 rfl rfl ?_
        refine s_goto B X329 (pc' := 73) at_69 (by decide) (by decide) ?_
        refine s_istore B X329 (pc' := 75) (Ls' := #[.val (.int i0), .val (.int i1), .val (.int i2), .val (.ref w_WRITE), .val (.ref w_SHARED), .val (.ref w_SHARED), .val (.ref w_WRITE), .val (.int (15 : Int32)), .val (.int (15 : Int32)), .val (.int (8 : Int32)), .val (.int (1 : Int32)), .unset]) at_73 rfl rfl ?_
        refine s_iload B X329 (pc' := 77) at_75 rfl rfl ?_
        refine s_iload B X329 (pc' := 79) at_77 rfl rfl ?_
        refine s_iand B X329 (pc' := 80) (v := (8 : Int32)) at_79 rfl rfl ?_
        refine s_iload B X329 (pc' := 82) at_80 rfl rfl ?_
        refine s_icmpY B X329 (pc' := 95) at_82 (by decide) (by decide) (by decide) ?_
        refine s_iconst B X329 (pc' := 96) (v := (1 : Int32)) at_95 rfl rfl ?_
        refine s_goto B X329 (pc' := 100) at_96 (by decide) (by decide) ?_
        refine s_istore B X329 (pc' := 102) (Ls' := #[.val (.int i0), .val (.int i1), .val (.int i2), .val (.ref w_WRITE), .val (.ref w_SHARED), .val (.ref w_SHARED), .val (.ref w_WRITE), .val (.int (15 : Int32)), .val (.int (15 : Int32)), .val (.int (8 : Int32)), .val (.int (1 : Int32)), .val (.int (1 : Int32))]) at_100 rfl rfl ?_
        refine s_iload B X329 (pc' := 104) at_102 rfl rfl ?_
        refine s_ifN B X329 (pc' := 107) at_104 (by decide) rfl ?_
        refine s_iload B X329 (pc' := 109) at_107 rfl rfl ?_
        refine s_ifN B X329 (pc' := 112) at_109 (by decide) rfl ?_
        refine s_iconst B X329 (pc' := 113) (v := (1 : Int32)) at_112 rfl rfl ?_
        refine s_goto B X329 (pc' := 117) at_113 (by decide) (by decide) ?_
        exact r_nar B X329 (t := .boolean) (by simp) rfl at_117 ⟨rfl, (Fr.nil _)⟩ (by decide) (by decide)
      · refine p_static B X322 (y := mn0) (pc' := 15) (argsL := [(.int i2)]) (under := []) (W := 0) e322 (tw0 hw) (tw1 hw) (tw3 hw) (tw2 hw) (by decide) (rm_mode1 l Z a0 hw i2 hm323 w_SHARED w_WRITE w_MEMBERSHIP w_READ Z.heap F0) (lenOf pd_0 rfl) rfl rfl (by decide) (by decide) rfl rfl (by decide) (by decide) rfl at_12 rfl (fun T330 X330 e330 => ?_)
        show Go p e below _ (T330.setTop (mkF m 15 #[.val (.int i0), .val (.int i1), .val (.int i2), .val (.ref w_WRITE), .val (.ref w_SHARED), .unset, .unset, .unset, .unset, .unset, .unset, .unset] [(.ref w_READ)]))
        refine s_astore B X330 (pc' := 17) (Ls' := #[.val (.int i0), .val (.int i1), .val (.int i2), .val (.ref w_WRITE), .val (.ref w_SHARED), .val (.ref w_READ), .unset, .unset, .unset, .unset, .unset, .unset]) at_15 rfl rfl rfl ?_
        refine s_aloadN B X330 (pc' := 18) at_17 rfl rfl rfl ?_
        refine s_aload B X330 (pc' := 20) at_18 rfl rfl rfl ?_
        refine p_virtual B X330 (y := mn1) (pc' := 23) (argsL := [(.ref w_SHARED)]) (under := []) (W := 0) e330 (tw11 hw) (tw12 hw) (tw14 hw) (tw13 hw) (tw15 hw) (tw5 hw) (by decide) (rm2_16 l Z a0 hw  w_SHARED w_WRITE w_MEMBERSHIP w_READ Z.heap F0 ) E_WRITE (lenOf pd_1 rfl) rfl rfl (by decide) (by decide) rfl rfl (by decide) (by decide) rfl at_20 rfl (fun T331 X331 e331 => ?_)
        show Go p e below _ (T331.setTop (mkF m 23 #[.val (.int i0), .val (.int i1), .val (.int i2), .val (.ref w_WRITE), .val (.ref w_SHARED), .val (.ref w_READ), .unset, .unset, .unset, .unset, .unset, .unset] [(.ref w_WRITE)]))
        refine s_astore B X331 (pc' := 25) (Ls' := #[.val (.int i0), .val (.int i1), .val (.int i2), .val (.ref w_WRITE), .val (.ref w_SHARED), .val (.ref w_READ), .val (.ref w_WRITE), .unset, .unset, .unset, .unset, .unset]) at_23 rfl rfl rfl ?_
        refine s_aload B X331 (pc' := 27) at_25 rfl rfl rfl ?_
        refine s_ifnonnullY B X331 (pc' := 32) at_27 (by decide) (by decide) ?_
        refine s_aloadN B X331 (pc' := 33) at_32 rfl rfl rfl ?_
        refine p_static B X331 (y := mn2) (pc' := 36) (argsL := [(.ref w_WRITE)]) (under := []) (W := 0) e331 (tw17 hw) (tw18 hw) (tw19 hw) (tw2 hw) (by decide) (rm3_4 l Z a0 hw  w_SHARED w_WRITE w_MEMBERSHIP w_READ Z.heap F0 ) (lenOf pd_2 rfl) rfl rfl (by decide) (by decide) rfl rfl (by decide) (by decide) rfl at_33 rfl (fun T332 X332 e332 => ?_)
        show Go p e below _ (T332.setTop (mkF m 36 #[.val (.int i0), .val (.int i1), .val (.int i2), .val (.ref w_WRITE), .val (.ref w_SHARED), .val (.ref w_READ), .val (.ref w_WRITE), .unset, .unset, .unset, .unset, .unset] [(.int (15 : Int32))]))
        refine s_aload B X332 (pc' := 38) at_36 rfl rfl rfl ?_
        refine p_static B X332 (y := mn2) (pc' := 41) (argsL := [(.ref w_SHARED)]) (under := [(.int (15 : Int32))]) (W := 1) e332 (tw17 hw) (tw18 hw) (tw19 hw) (tw2 hw) (by decide) (rm3_1 l Z a0 hw  w_SHARED w_WRITE w_MEMBERSHIP w_READ Z.heap F0 ) (lenOf pd_2 rfl) rfl rfl (by decide) (by decide) rfl rfl (by decide) (by decide) rfl at_38 rfl (fun T333 X333 e333 => ?_)
        show Go p e below _ (T333.setTop (mkF m 41 #[.val (.int i0), .val (.int i1), .val (.int i2), .val (.ref w_WRITE), .val (.ref w_SHARED), .val (.ref w_READ), .val (.ref w_WRITE), .unset, .unset, .unset, .unset, .unset] [(.int (8 : Int32)), (.int (15 : Int32))]))
        refine s_ior B X333 (pc' := 42) (v := (15 : Int32)) at_41 rfl rfl ?_
        refine s_istore B X333 (pc' := 44) (Ls' := #[.val (.int i0), .val (.int i1), .val (.int i2), .val (.ref w_WRITE), .val (.ref w_SHARED), .val (.ref w_READ), .val (.ref w_WRITE), .val (.int (15 : Int32)), .unset, .unset, .unset, .unset]) at_42 rfl rfl ?_
        refine s_aload B X333 (pc' := 46) at_44 rfl rfl rfl ?_
        refine p_static B X333 (y := mn2) (pc' := 49) (argsL := [(.ref w_WRITE)]) (under := []) (W := 0) e333 (tw17 hw) (tw18 hw) (tw19 hw) (tw2 hw) (by decide) (rm3_4 l Z a0 hw  w_SHARED w_WRITE w_MEMBERSHIP w_READ Z.heap F0 ) (lenOf pd_2 rfl) rfl rfl (by decide) (by decide) rfl rfl (by decide) (by decide) rfl at_46 rfl (fun T334 X334 e334 => ?_)
        show Go p e below _ (T334.setTop (mkF m 49 #[.val (.int i0), .val (.int i1), .val (.int i2), .val (.ref w_WRITE), .val (.ref w_SHARED), .val (.ref w_READ), .val (.ref w_WRITE), .val (.int (15 : Int32)), .unset, .unset, .unset, .unset] [(.int (15 : Int32))]))
        refine s_istore B X334 (pc' := 51) (Ls' := #[.val (.int i0), .val (.int i1), .val (.int i2), .val (.ref w_WRITE), .val (.ref w_SHARED), .val (.ref w_READ), .val (.ref w_WRITE), .val (.int (15 : Int32)), .val (.int (15 : Int32)), .unset, .unset, .unset]) at_49 rfl rfl ?_
        refine s_aload B X334 (pc' := 53) at_51 rfl rfl rfl ?_
        refine p_static B X334 (y := mn2) (pc' := 56) (argsL := [(.ref w_READ)]) (under := []) (W := 0) e334 (tw17 hw) (tw18 hw) (tw19 hw) (tw2 hw) (by decide) (rm3_2 l Z a0 hw  w_SHARED w_WRITE w_MEMBERSHIP w_READ Z.heap F0 ) (lenOf pd_2 rfl) rfl rfl (by decide) (by decide) rfl rfl (by decide) (by decide) rfl at_53 rfl (fun T335 X335 e335 => ?_)
        show Go p e below _ (T335.setTop (mkF m 56 #[.val (.int i0), .val (.int i1), .val (.int i2), .val (.ref w_WRITE), .val (.ref w_SHARED), .val (.ref w_READ), .val (.ref w_WRITE), .val (.int (15 : Int32)), .val (.int (15 : Int32)), .unset, .unset, .unset] [(.int (12 : Int32))]))
        refine s_istore B X335 (pc' := 58) (Ls' := #[.val (.int i0), .val (.int i1), .val (.int i2), .val (.ref w_WRITE), .val (.ref w_SHARED), .val (.ref w_READ), .val (.ref w_WRITE), .val (.int (15 : Int32)), .val (.int (15 : Int32)), .val (.int (12 : Int32)), .unset, .unset]) at_56 rfl rfl ?_
        refine s_iload B X335 (pc' := 60) at_58 rfl rfl ?_
        refine s_iload B X335 (pc' := 62) at_60 rfl rfl ?_
        refine s_iand B X335 (pc' := 63) (v := (15 : Int32)) at_62 rfl rfl ?_
        refine s_iload B X335 (pc' := 65) at_63 rfl rfl ?_
        refine s_icmpN B X335 (pc' := 68) at_65 (by decide) rfl ?_
        refine s_iconst B X335 (pc' := 69) (v := (1 : Int32)) at_68 rfl rfl ?_
        refine s_goto B X335 (pc' := 73) at_69 (by decide) (by decide) ?_
        refine s_istore B X335 (pc' := 75) (Ls' := #[.val (.int i0), .val (.int i1), .val (.int i2), .val (.ref w_WRITE), .val (.ref w_SHARED), .val (.ref w_READ), .val (.ref w_WRITE), .val (.int (15 : Int32)), .val (.int (15 : Int32)), .val (.int (12 : Int32)), .val (.int (1 : Int32)), .unset]) at_73 rfl rfl ?_
        refine s_iload B X335 (pc' := 77) at_75 rfl rfl ?_
        refine s_iload B X335 (pc' := 79) at_77 rfl rfl ?_
        refine s_iand B X335 (pc' := 80) (v := (12 : Int32)) at_79 rfl rfl ?_
        refine s_iload B X335 (pc' := 82) at_80 rfl rfl ?_
        refine s_icmpY B X335 (pc' := 95) at_82 (by decide) (by decide) (by decide) ?_
        refine s_iconst B X335 (pc' := 96) (v := (1 : Int32)) at_95 rfl rfl ?_
        refine s_goto B X335 (pc' := 100) at_96 (by decide) (by decide) ?_
        refine s_istore B X335 (pc' := 102) (Ls' := #[.val (.int i0), .val (.int i1), .val (.int i2), .val (.ref w_WRITE), .val (.ref w_SHARED), .val (.ref w_READ), .val (.ref w_WRITE), .val (.int (15 : Int32)), .val (.int (15 : Int32)), .val (.int (12 : Int32)), .val (.int (1 : Int32)), .val (.int (1 : Int32))]) at_100 rfl rfl ?_
        refine s_iload B X335 (pc' := 104) at_102 rfl rfl ?_
        refine s_ifN B X335 (pc' := 107) at_104 (by decide) rfl ?_
        refine s_iload B X335 (pc' := 109) at_107 rfl rfl ?_
        refine s_ifN B X335 (pc' := 112) at_109 (by decide) rfl ?_
        refine s_iconst B X335 (pc' := 113) (v := (1 : Int32)) at_112 rfl rfl ?_
        refine s_goto B X335 (pc' := 117) at_113 (by decide) (by decide) ?_
        exact r_nar B X335 (t := .boolean) (by simp) rfl at_117 ⟨rfl, (Fr.nil _)⟩ (by decide) (by decide)
      · refine p_static B X322 (y := mn0) (pc' := 15) (argsL := [(.int i2)]) (under := []) (W := 0) e322 (tw0 hw) (tw1 hw) (tw3 hw) (tw2 hw) (by decide) (rm_mode2 l Z a0 hw i2 hm323 w_SHARED w_WRITE w_MEMBERSHIP w_READ Z.heap F0) (lenOf pd_0 rfl) rfl rfl (by decide) (by decide) rfl rfl (by decide) (by decide) rfl at_12 rfl (fun T336 X336 e336 => ?_)
        show Go p e below _ (T336.setTop (mkF m 15 #[.val (.int i0), .val (.int i1), .val (.int i2), .val (.ref w_WRITE), .val (.ref w_SHARED), .unset, .unset, .unset, .unset, .unset, .unset, .unset] [(.ref w_MEMBERSHIP)]))
        refine s_astore B X336 (pc' := 17) (Ls' := #[.val (.int i0), .val (.int i1), .val (.int i2), .val (.ref w_WRITE), .val (.ref w_SHARED), .val (.ref w_MEMBERSHIP), .unset, .unset, .unset, .unset, .unset, .unset]) at_15 rfl rfl rfl ?_
        refine s_aloadN B X336 (pc' := 18) at_17 rfl rfl rfl ?_
        refine s_aload B X336 (pc' := 20) at_18 rfl rfl rfl ?_
        refine p_virtual B X336 (y := mn1) (pc' := 23) (argsL := [(.ref w_SHARED)]) (under := []) (W := 0) e336 (tw11 hw) (tw12 hw) (tw14 hw) (tw13 hw) (tw15 hw) (tw5 hw) (by decide) (rm2_16 l Z a0 hw  w_SHARED w_WRITE w_MEMBERSHIP w_READ Z.heap F0 ) E_WRITE (lenOf pd_1 rfl) rfl rfl (by decide) (by decide) rfl rfl (by decide) (by decide) rfl at_20 rfl (fun T337 X337 e337 => ?_)
        show Go p e below _ (T337.setTop (mkF m 23 #[.val (.int i0), .val (.int i1), .val (.int i2), .val (.ref w_WRITE), .val (.ref w_SHARED), .val (.ref w_MEMBERSHIP), .unset, .unset, .unset, .unset, .unset, .unset] [(.ref w_WRITE)]))
        refine s_astore B X337 (pc' := 25) (Ls' := #[.val (.int i0), .val (.int i1), .val (.int i2), .val (.ref w_WRITE), .val (.ref w_SHARED), .val (.ref w_MEMBERSHIP), .val (.ref w_WRITE), .unset, .unset, .unset, .unset, .unset]) at_23 rfl rfl rfl ?_
        refine s_aload B X337 (pc' := 27) at_25 rfl rfl rfl ?_
        refine s_ifnonnullY B X337 (pc' := 32) at_27 (by decide) (by decide) ?_
        refine s_aloadN B X337 (pc' := 33) at_32 rfl rfl rfl ?_
        refine p_static B X337 (y := mn2) (pc' := 36) (argsL := [(.ref w_WRITE)]) (under := []) (W := 0) e337 (tw17 hw) (tw18 hw) (tw19 hw) (tw2 hw) (by decide) (rm3_4 l Z a0 hw  w_SHARED w_WRITE w_MEMBERSHIP w_READ Z.heap F0 ) (lenOf pd_2 rfl) rfl rfl (by decide) (by decide) rfl rfl (by decide) (by decide) rfl at_33 rfl (fun T338 X338 e338 => ?_)
        show Go p e below _ (T338.setTop (mkF m 36 #[.val (.int i0), .val (.int i1), .val (.int i2), .val (.ref w_WRITE), .val (.ref w_SHARED), .val (.ref w_MEMBERSHIP), .val (.ref w_WRITE), .unset, .unset, .unset, .unset, .unset] [(.int (15 : Int32))]))
        refine s_aload B X338 (pc' := 38) at_36 rfl rfl rfl ?_
        refine p_static B X338 (y := mn2) (pc' := 41) (argsL := [(.ref w_SHARED)]) (under := [(.int (15 : Int32))]) (W := 1) e338 (tw17 hw) (tw18 hw) (tw19 hw) (tw2 hw) (by decide) (rm3_1 l Z a0 hw  w_SHARED w_WRITE w_MEMBERSHIP w_READ Z.heap F0 ) (lenOf pd_2 rfl) rfl rfl (by decide) (by decide) rfl rfl (by decide) (by decide) rfl at_38 rfl (fun T339 X339 e339 => ?_)
        show Go p e below _ (T339.setTop (mkF m 41 #[.val (.int i0), .val (.int i1), .val (.int i2), .val (.ref w_WRITE), .val (.ref w_SHARED), .val (.ref w_MEMBERSHIP), .val (.ref w_WRITE), .unset, .unset, .unset, .unset, .unset] [(.int (8 : Int32)), (.int (15 : Int32))]))
        refine s_ior B X339 (pc' := 42) (v := (15 : Int32)) at_41 rfl rfl ?_
        refine s_istore B X339 (pc' := 44) (Ls' := #[.val (.int i0), .val (.int i1), .val (.int i2), .val (.ref w_WRITE), .val (.ref w_SHARED), .val (.ref w_MEMBERSHIP), .val (.ref w_WRITE), .val (.int (15 : Int32)), .unset, .unset, .unset, .unset]) at_42 rfl rfl ?_
        refine s_aload B X339 (pc' := 46) at_44 rfl rfl rfl ?_
        refine p_static B X339 (y := mn2) (pc' := 49) (argsL := [(.ref w_WRITE)]) (under := []) (W := 0) e339 (tw17 hw) (tw18 hw) (tw19 hw) (tw2 hw) (by decide) (rm3_4 l Z a0 hw  w_SHARED w_WRITE w_MEMBERSHIP w_READ Z.heap F0 ) (lenOf pd_2 rfl) rfl rfl (by decide) (by decide) rfl rfl (by decide) (by decide) rfl at_46 rfl (fun T340 X340 e340 => ?_)
        show Go p e below _ (T340.setTop (mkF m 49 #[.val (.int i0), .val (.int i1), .val (.int i2), .val (.ref w_WRITE), .val (.ref w_SHARED), .val (.ref w_MEMBERSHIP), .val (.ref w_WRITE), .val (.int (15 : Int32)), .unset, .unset, .unset, .unset] [(.int (15 : Int32))]))
        refine s_istore B X340 (pc' := 51) (Ls' := #[.val (.int i0), .val (.int i1), .val (.int i2), .val (.ref w_WRITE), .val (.ref w_SHARED), .val (.ref w_MEMBERSHIP), .val (.ref w_WRITE), .val (.int (15 : Int32)), .val (.int (15 : Int32)), .unset, .unset, .unset]) at_49 rfl rfl ?_
        refine s_aload B X340 (pc' := 53) at_51 rfl rfl rfl ?_
        refine p_static B X340 (y := mn2) (pc' := 56) (argsL := [(.ref w_MEMBERSHIP)]) (under := []) (W := 0) e340 (tw17 hw) (tw18 hw) (tw19 hw) (tw2 hw) (by decide) (rm3_3 l Z a0 hw  w_SHARED w_WRITE w_MEMBERSHIP w_READ Z.heap F0 ) (lenOf pd_2 rfl) rfl rfl (by decide) (by decide) rfl rfl (by decide) (by decide) rfl at_53 rfl (fun T341 X341 e341 => ?_)
        show Go p e below _ (T341.setTop (mkF m 56 #[.val (.int i0), .val (.int i1), .val (.int i2), .val (.ref w_WRITE), .val (.ref w_SHARED), .val (.ref w_MEMBERSHIP), .val (.ref w_WRITE), .val (.int (15 : Int32)), .val (.int (15 : Int32)), .unset, .unset, .unset] [(.int (10 : Int32))]))
        refine s_istore B X341 (pc' := 58) (Ls' := #[.val (.int i0), .val (.int i1), .val (.int i2), .val (.ref w_WRITE), .val (.ref w_SHARED), .val (.ref w_MEMBERSHIP), .val (.ref w_WRITE), .val (.int (15 : Int32)), .val (.int (15 : Int32)), .val (.int (10 : Int32)), .unset, .unset]) at_56 rfl rfl ?_
        refine s_iload B X341 (pc' := 60) at_58 rfl rfl ?_
        refine s_iload B X341 (pc' := 62) at_60 rfl rfl ?_
        refine s_iand B X341 (pc' := 63) (v := (15 : Int32)) at_62 rfl rfl ?_
        refine s_iload B X341 (pc' := 65) at_63 rfl rfl ?_
        refine s_icmpN B X341 (pc' := 68) at_65 (by decide) rfl ?_
        refine s_iconst B X341 (pc' := 69) (v := (1 : Int32)) at_68 rfl rfl ?_
        refine s_goto B X341 (pc' := 73) at_69 (by decide) (by decide) ?_
        refine s_istore B X341 (pc' := 75) (Ls' := #[.val (.int i0), .val (.int i1), .val (.int i2), .val (.ref w_WRITE), .val (.ref w_SHARED), .val (.ref w_MEMBERSHIP), .val (.ref w_WRITE), .val (.int (15 : Int32)), .val (.int (15 : Int32)), .val (.int (10 : Int32)), .val (.int (1 : Int32)), .unset]) at_73 rfl rfl ?_
        refine s_iload B X341 (pc' := 77) at_75 rfl rfl ?_
        refine s_iload B X341 (pc' := 79) at_77 rfl rfl ?_
        refine s_iand B X341 (pc' := 80) (v := (10 : Int32)) at_79 rfl rfl ?_
        refine s_iload B X341 (pc' := 82) at_80 rfl rfl ?_
        refine s_icmpY B X341 (pc' := 95) at_82 (by decide) (by decide) (by decide) ?_
        refine s_iconst B X341 (pc' := 96) (v := (1 : Int32)) at_95 rfl rfl ?_
        refine s_goto B X341 (pc' := 100) at_96 (by decide) (by decide) ?_
        refine s_istore B X341 (pc' := 102) (Ls' := #[.val (.int i0), .val (.int i1), .val (.int i2), .val (.ref w_WRITE), .val (.ref w_SHARED), .val (.ref w_MEMBERSHIP), .val (.ref w_WRITE), .val (.int (15 : Int32)), .val (.int (15 : Int32)), .val (.int (10 : Int32)), .val (.int (1 : Int32)), .val (.int (1 : Int32))]) at_100 rfl rfl ?_
        refine s_iload B X341 (pc' := 104) at_102 rfl rfl ?_
        refine s_ifN B X341 (pc' := 107) at_104 (by decide) rfl ?_
        refine s_iload B X341 (pc' := 109) at_107 rfl rfl ?_
        refine s_ifN B X341 (pc' := 112) at_109 (by decide) rfl ?_
        refine s_iconst B X341 (pc' := 113) (v := (1 : Int32)) at_112 rfl rfl ?_
        refine s_goto B X341 (pc' := 117) at_113 (by decide) (by decide) ?_
        exact r_nar B X341 (t := .boolean) (by simp) rfl at_117 ⟨rfl, (Fr.nil _)⟩ (by decide) (by decide)
      · refine p_static B X322 (y := mn0) (pc' := 15) (argsL := [(.int i2)]) (under := []) (W := 0) e322 (tw0 hw) (tw1 hw) (tw3 hw) (tw2 hw) (by decide) (rm_mode3 l Z a0 hw i2 hm323 w_SHARED w_WRITE w_MEMBERSHIP w_READ Z.heap F0) (lenOf pd_0 rfl) rfl rfl (by decide) (by decide) rfl rfl (by decide) (by decide) rfl at_12 rfl (fun T342 X342 e342 => ?_)
        show Go p e below _ (T342.setTop (mkF m 15 #[.val (.int i0), .val (.int i1), .val (.int i2), .val (.ref w_WRITE), .val (.ref w_SHARED), .unset, .unset, .unset, .unset, .unset, .unset, .unset] [(.ref w_WRITE)]))
        refine s_astore B X342 (pc' := 17) (Ls' := #[.val (.int i0), .val (.int i1), .val (.int i2), .val (.ref w_WRITE), .val (.ref w_SHARED), .val (.ref w_WRITE), .unset, .unset, .unset, .unset, .unset, .unset]) at_15 rfl rfl rfl ?_
        refine s_aloadN B X342 (pc' := 18) at_17 rfl rfl rfl ?_
        refine s_aload B X342 (pc' := 20) at_18 rfl rfl rfl ?_
        refine p_virtual B X342 (y := mn1) (pc' := 23) (argsL := [(.ref w_SHARED)]) (under := []) (W := 0) e342 (tw11 hw) (tw12 hw) (tw14 hw) (tw13 hw) (tw15 hw) (tw5 hw) (by decide) (rm2_16 l Z a0 hw  w_SHARED w_WRITE w_MEMBERSHIP w_READ Z.heap F0 ) E_WRITE (lenOf pd_1 rfl) rfl rfl (by decide) (by decide) rfl rfl (by decide) (by decide) rfl at_20 rfl (fun T343 X343 e343 => ?_)
        show Go p e below _ (T343.setTop (mkF m 23 #[.val (.int i0), .val (.int i1), .val (.int i2), .val (.ref w_WRITE), .val (.ref w_SHARED), .val (.ref w_WRITE), .unset, .unset, .unset, .unset, .unset, .unset] [(.ref w_WRITE)]))
        refine s_astore B X343 (pc' := 25) (Ls' := #[.val (.int i0), .val (.int i1), .val (.int i2), .val (.ref w_WRITE), .val (.ref w_SHARED), .val (.ref w_WRITE), .val (.ref w_WRITE), .unset, .unset, .unset, .unset, .unset]) at_23 rfl rfl rfl ?_
        refine s_aload B X343 (pc' := 27) at_25 rfl rfl rfl ?_
        refine s_ifnonnullY B X343 (pc' := 32) at_27 (by decide) (by decide) ?_
        refine s_aloadN B X343 (pc' := 33) at_32 rfl rfl rfl ?_
        refine p_static B X343 (y := mn2) (pc' := 36) (argsL := [(.ref w_WRITE)]) (under := []) (W := 0) e343 (tw17 hw) (tw18 hw) (tw19 hw) (tw2 hw) (by decide) (rm3_4 l Z a0 hw  w_SHARED w_WRITE w_MEMBERSHIP w_READ Z.heap F0 ) (lenOf pd_2 rfl) rfl rfl (by decide) (by decide) rfl rfl (by decide) (by decide) rfl at_33 rfl (fun T344 X344 e344 => ?_)
        show Go p e below _ (T344.setTop (mkF m 36 #[.val (.int i0), .val (.int i1), .val (.int i2), .val (.ref w_WRITE), .val (.ref w_SHARED), .val (.ref w_WRITE), .val (.ref w_WRITE), .unset, .unset, .unset, .unset, .unset] [(.int (15 : Int32))]))
        refine s_aload B X344 (pc' := 38) at_36 rfl rfl rfl ?_
        refine p_static B X344 (y := mn2) (pc' := 41) (argsL := [(.ref w_SHARED)]) (under := [(.int (15 : Int32))]) (W := 1) e344 (tw17 hw) (tw18 hw) (tw19 hw) (tw2 hw) (by decide) (rm3_1 l Z a0 hw  w_SHARED w_WRITE w_MEMBERSHIP w_READ Z.heap F0 ) (lenOf pd_2 rfl) rfl rfl (by decide) (by decide) rfl rfl (by decide) (by decide) rfl at_38 rfl (fun T345 X345 e345 => ?_)
        show Go p e below _ (T345.setTop (mkF m 41 #[.val (.int i0), .val (.int i1), .val (.int i2), .val (.ref w_WRITE), .val (.ref w_SHARED), .val (.ref w_WRITE), .val (.ref w_WRITE), .unset, .unset, .unset, .unset, .unset] [(.int (8 : Int32)), (.int (15 : Int32))]))
        refine s_ior B X345 (pc' := 42) (v := (15 : Int32)) at_41 rfl rfl ?_
        refine s_istore B X345 (pc' := 44) (Ls' := #[.val (.int i0), .val (.int i1), .val (.int i2), .val (.ref w_WRITE), .val (.ref w_SHARED), .val (.ref w_WRITE), .val (.ref w_WRITE), .val (.int (15 : Int32)), .unset, .unset, .unset, .unset]) at_42 rfl rfl ?_
        refine s_aload B X345 (pc' := 46) at_44 rfl rfl rfl ?_
        refine p_static B X345 (y := mn2) (pc' := 49) (argsL := [(.ref w_WRITE)]) (under := []) (W := 0) e345 (tw17 hw) (tw18 hw) (tw19 hw) (tw2 hw) (by decide) (rm3_4 l Z a0 hw  w_SHARED w_WRITE w_MEMBERSHIP w_READ Z.heap F0 ) (lenOf pd_2 rfl) rfl rfl (by decide) (by decide) rfl rfl (by decide) (by decide) rfl at_46 rfl (fun T346 X346 e346 => ?_)
        show Go p e below _ (T346.setTop (mkF m 49 #[.val (.int i0), .val (.int i1), .val (.int i2), .val (.ref w_WRITE), .val (.ref w_SHARED), .val (.ref w_WRITE), .val (.ref w_WRITE), .val (.int (15 : Int32)), .unset, .unset, .unset, .unset] [(.int (15 : Int32))]))
        refine s_istore B X346 (pc' := 51) (Ls' := #[.val (.int i0), .val (.int i1), .val (.int i2), .val (.ref w_WRITE), .val (.ref w_SHARED), .val (.ref w_WRITE), .val (.ref w_WRITE), .val (.int (15 : Int32)), .val (.int (15 : Int32)), .unset, .unset, .unset]) at_49 rfl rfl ?_
        refine s_aload B X346 (pc' := 53) at_51 rfl rfl rfl ?_
        refine p_static B X346 (y := mn2) (pc' := 56) (argsL := [(.ref w_WRITE)]) (under := []) (W := 0) e346 (tw17 hw) (tw18 hw) (tw19 hw) (tw2 hw) (by decide) (rm3_4 l Z a0 hw  w_SHARED w_WRITE w_MEMBERSHIP w_READ Z.heap F0 ) (lenOf pd_2 rfl) rfl rfl (by decide) (by decide) rfl rfl (by decide) (by decide) rfl at_53 rfl (fun T347 X347 e347 => ?_)
        show Go p e below _ (T347.setTop (mkF m 56 #[.val (.int i0), .val (.int i1), .val (.int i2), .val (.ref w_WRITE), .val (.ref w_SHARED), .val (.ref w_WRITE), .val (.ref w_WRITE), .val (.int (15 : Int32)), .val (.int (15 : Int32)), .unset, .unset, .unset] [(.int (15 : Int32))]))
        refine s_istore B X347 (pc' := 58) (Ls' := #[.val (.int i0), .val (.int i1), .val (.int i2), .val (.ref w_WRITE), .val (.ref w_SHARED), .val (.ref w_WRITE), .val (.ref w_WRITE), .val (.int (15 : Int32)), .val (.int (15 : Int32)), .val (.int (15 : Int32)), .unset, .unset]) at_56 rfl rfl ?_
        refine s_iload B X347 (pc' := 60) at_58 rfl rfl ?_
        refine s_iload B X347 (pc' := 62) at_60 rfl rfl ?_
        refine s_iand B X347 (pc' := 63) (v := (15 : Int32)) at_62 rfl rfl ?_
        refine s_iload B X347 (pc' := 65) at_63 rfl rfl ?_
        refine s_icmpN B X347 (pc' := 68) at_65 (by decide) rfl ?_
        refine s_iconst B X347 (pc' := 69) (v := (1 : Int32)) at_68 rfl rfl ?_
        refine s_goto B X347 (pc' := 73) at_69 (by decide) (by decide) ?_
        refine s_istore B X347 (pc' := 75) (Ls' := #[.val (.int i0), .val (.int i1), .val (.int i2), .val (.ref w_WRITE), .val (.ref w_SHARED), .val (.ref w_WRITE), .val (.ref w_WRITE), .val (.int (15 : Int32)), .val (.int (15 : Int32)), .val (.int (15 : Int32)), .val (.int (1 : Int32)), .unset]) at_73 rfl rfl ?_
        refine s_iload B X347 (pc' := 77) at_75 rfl rfl ?_
        refine s_iload B X347 (pc' := 79) at_77 rfl rfl ?_
        refine s_iand B X347 (pc' := 80) (v := (15 : Int32)) at_79 rfl rfl ?_
        refine s_iload B X347 (pc' := 82) at_80 rfl rfl ?_
        refine s_icmpN B X347 (pc' := 85) at_82 (by decide) rfl ?_
        refine s_iload B X347 (pc' := 87) at_85 rfl rfl ?_
        refine s_iload B X347 (pc' := 89) at_87 rfl rfl ?_
        refine s_iand B X347 (pc' := 90) (v := (15 : Int32)) at_89 rfl rfl ?_
        refine s_iload B X347 (pc' := 92) at_90 rfl rfl ?_
        refine s_icmpN B X347 (pc' := 95) at_92 (by decide) rfl ?_
        refine s_iconst B X347 (pc' := 96) (v := (1 : Int32)) at_95 rfl rfl ?_
        refine s_goto B X347 (pc' := 100) at_96 (by decide) (by decide) ?_
        refine s_istore B X347 (pc' := 102) (Ls' := #[.val (.int i0), .val (.int i1), .val (.int i2), .val (.ref w_WRITE), .val (.ref w_SHARED), .val (.ref w_WRITE), .val (.ref w_WRITE), .val (.int (15 : Int32)), .val (.int (15 : Int32)), .val (.int (15 : Int32)), .val (.int (1 : Int32)), .val (.int (1 : Int32))]) at_100 rfl rfl ?_
        refine s_iload B X347 (pc' := 104) at_102 rfl rfl ?_
        refine s_ifN B X347 (pc' := 107) at_104 (by decide) rfl ?_
        refine s_iload B X347 (pc' := 109) at_107 rfl rfl ?_
        refine s_ifN B X347 (pc' := 112) at_109 (by decide) rfl ?_
        refine s_iconst B X347 (pc' := 113) (v := (1 : Int32)) at_112 rfl rfl ?_
        refine s_goto B X347 (pc' := 117) at_113 (by decide) (by decide) ?_
        exact r_nar B X347 (t := .boolean) (by simp) rfl at_117 ⟨rfl, (Fr.nil _)⟩ (by decide) (by decide)
    · refine p_static B X320 (y := mn0) (pc' := 9) (argsL := [(.int i1)]) (under := []) (W := 0) e320 (tw0 hw) (tw1 hw) (tw3 hw) (tw2 hw) (by decide) (rm_mode1 l Z a0 hw i1 hm321 w_SHARED w_WRITE w_MEMBERSHIP w_READ Z.heap F0) (lenOf pd_0 rfl) rfl rfl (by decide) (by decide) rfl rfl (by decide) (by decide) rfl at_6 rfl (fun T348 X348 e348 => ?_)
      show Go p e below _ (T348.setTop (mkF m 9 #[.val (.int i0), .val (.int i1), .val (.int i2), .val (.ref w_WRITE), .unset, .unset, .unset, .unset, .unset, .unset, .unset, .unset] [(.ref w_READ)]))
      refine s_astore B X348 (pc' := 11) (Ls' := #[.val (.int i0), .val (.int i1), .val (.int i2), .val (.ref w_WRITE), .val (.ref w_READ), .unset, .unset, .unset, .unset, .unset, .unset, .unset]) at_9 rfl rfl rfl ?_
      refine s_iloadN B X348 (pc' := 12) at_11 rfl rfl ?_
      rcases own_and3 i2 with hm349 | hm349 | hm349 | hm349
      · refine p_static B X348 (y := mn0) (pc' := 15) (argsL := [(.int i2)]) (under := []) (W := 0) e348 (tw0 hw) (tw1 hw) (tw3 hw) (tw2 hw) (by decide) (rm_mode0 l Z a0 hw i2 hm349 w_SHARED w_WRITE w_MEMBERSHIP w_READ Z.heap F0) (lenOf pd_0 rfl) rfl rfl (by decide) (by decide) rfl rfl (by decide) (by decide) rfl at_12 rfl (fun T350 X350 e350 => ?_)
        show Go p e below _ (T350.setTop (mkF m 15 #[.val (.int i0), .val (.int i1), .val (.int i2), .val (.ref w_WRITE), .val (.ref w_READ), .unset, .unset, .unset, .unset, .unset, .unset, .unset] [(.ref w_SHARED)]))
        refine s_astore B X350 (pc' := 17) (Ls' := #[.val (.int i0), .val (.int i1), .val (.int i2), .val (.ref w_WRITE), .val (.ref w_READ), .val (.ref w_SHARED), .unset, .unset, .unset, .unset, .unset, .unset]) at_15 rfl rfl rfl ?_
        refine s_aloadN B X350 (pc' := 18) at_17 rfl rfl rfl ?_
        refine s_aload B X350 (pc' := 20) at_18 rfl rfl rfl ?_
        refine p_virtual B X350 (y := mn1) (pc' := 23) (argsL := [(.ref w_READ)]) (under := []) (W := 0) e350 (tw11 hw) (tw12 hw) (tw14 hw) (tw13 hw) (tw15 hw) (tw5 hw) (by decide) (rm2_17 l Z a0 hw  w_SHARED w_WRITE w_MEMBERSHIP w_READ Z.heap F0 ) E_WRITE (lenOf pd_1 rfl) rfl rfl (by decide) (by decide) rfl rfl (by decide) (by decide) rfl at_20 rfl (fun T351 X351 e351 => ?_)
        show Go p e below _ (T351.setTop (mkF m 23 #[.val (.int i0), .val (.int i1), .val (.int i2), .val (.ref w_WRITE), .val (.ref w_READ), .val (.ref w_SHARED), .unset, .unset, .unset, .unset, .unset, .unset] [(.ref w_WRITE)]))
        refine s_astore B X351 (pc' := 25) (Ls' := #[.val (.int i0), .val (.int i1), .val (.int i2), .val (.ref w_WRITE), .val (.ref w_READ), .val (.ref w_SHARED), .val (.ref w_WRITE), .unset, .unset, .unset, .unset, .unset]) at_23 rfl rfl rfl ?_
        refine s_aload B X351 (pc' := 27) at_25 rfl rfl rfl ?_
        refine s_ifnonnullY B X351 (pc' := 32) at_27 (by decide) (by decide) ?_
        refine s_aloadN B X351 (pc' := 33) at_32 rfl rfl rfl ?_
        refine p_static B X351 (y := mn2) (pc' := 36) (argsL := [(.ref w_WRITE)]) (under := []) (W := 0) e351 (tw17 hw) (tw18 hw) (tw19 hw) (tw2 hw) (by decide) (rm3_4 l Z a0 hw  w_SHARED w_WRITE w_MEMBERSHIP w_READ Z.heap F0 ) (lenOf pd_2 rfl) rfl rfl (by decide) (by decide) rfl rfl (by decide) (by decide) rfl at_33 rfl (fun T352 X352 e352 => ?_)
        show Go p e below _ (T352.setTop (mkF m 36 #[.val (.int i0), .val (.int i1), .val (.int i2), .val (.ref w_WRITE), .val (.ref w_READ), .val (.ref w_SHARED), .val (.ref w_WRITE), .unset, .unset, .unset, .unset, .unset] [(.int (15 : Int32))]))
        refine s_aload B X352 (pc' := 38) at_36 rfl rfl rfl ?_
        refine p_static B X352 (y := mn2) (pc' := 41) (argsL := [(.ref w_READ)]) (under := [(.int (15 : Int32))]) (W := 1) e352 (tw17 hw) (tw18 hw) (tw19 hw) (tw2 hw) (by decide) (rm3_2 l Z a0 hw  w_SHARED w_WRITE w_MEMBERSHIP w_READ Z.heap F0 ) (lenOf pd_2 rfl) rfl rfl (by decide) (by decide) rfl rfl (by decide) (by decide) rfl at_38 rfl (fun T353 X353 e353 => ?_)
        show Go p e below _ (T353.setTop (mkF m 41 #[.val (.int i0), .val (.int i1), .val (.int i2), .val (.ref w_WRITE), .val (.ref w_READ), .val (.ref w_SHARED), .val (.ref w_WRITE), .unset, .unset, .unset, .unset, .unset] [(.int (12 : Int32)), (.int (15 : Int32))]))
        refine s_ior B X353 (pc' := 42) (v := (15 : Int32)) at_41 rfl rfl ?_
        refine s_istore B X353 (pc' := 44) (Ls' := #[.val (.int i0), .val (.int i1), .val (.int i2), .val (.ref w_WRITE), .val (.ref w_READ), .val (.ref w_SHARED), .val (.ref w_WRITE), .val (.int (15 : Int32)), .unset, .unset, .unset, .unset]) at_42 rfl rfl ?_
        refine s_aload B X353 (pc' := 46) at_44 rfl rfl rfl ?_
        refine p_static B X353 (y := mn2) (pc' := 49) (argsL := [(.ref w_WRITE)]) (under := []) (W := 0) e353 (tw17 hw) (tw18 hw) (tw19 hw) (tw2 hw) (by decide) (rm3_4 l Z a0 hw  w_SHARED w_WRITE w_MEMBERSHIP w_READ Z.heap F0 ) (lenOf pd_2 rfl) rfl rfl (by decide) (by decide) rfl rfl (by decide) (by decide) rfl at_46 rfl (fun T354 X354 e354 => ?_)
        show Go p e below _ (T354.setTop (mkF m 49 #[.val (.int i0), .val (.int i1), .val (.int i2), .val (.ref w_WRITE), .val (.ref w_READ), .val (.ref w_SHARED), .val (.ref w_WRITE), .val (.int (15 : Int32)), .unset, .unset, .unset, .unset] [(.int (15 : Int32))]))
        refine s_istore B X354 (pc' := 51) (Ls' := #[.val (.int i0), .val (.int i1), .val (.int i2), .val (.ref w_WRITE), .val (.ref w_READ), .val (.ref w_SHARED), .val (.ref w_WRITE), .val (.int (15 : Int32)), .val (.int (15 : Int32)), .unset, .unset, .unset]) at_49 rfl rfl ?_
        refine s_aload B X354 (pc' := 53) at_51 rfl rfl rfl ?_
        refine p_static B X354 (y := mn2) (pc' := 56) (argsL := [(.ref w_SHARED)]) (under := []) (W := 0) e354 (tw17 hw) (tw18 hw) (tw19 hw) (tw2 hw) (by decide) (rm3_1 l Z a0 hw  w_SHARED w_WRITE w_MEMBERSHIP w_READ Z.heap F0 ) (lenOf pd_2 rfl) rfl rfl (by decide) (by decide) rfl rfl (by decide) (by decide) rfl at_53 rfl (fun T355 X355 e355 => ?_)
        show Go p e below _ (T355.setTop (mkF m 56 #[.val (.int i0), .val (.int i1), .val (.int i2), .val (.ref w_WRITE), .val (.ref w_READ), .val (.ref w_SHARED), .val (.ref w_WRITE), .val (.int (15 : Int32)), .val (.int (15 : Int32)), .unset, .unset, .unset] [(.int (8 : Int32))]))
        refine s_istore B X355 (pc' := 58) (Ls' := #[.val (.int i0), .val (.int i1), .val (.int i2), .val (.ref w_WRITE), .val (.ref w_READ), .val (.ref w_SHARED), .val (.ref w_WRITE), .val (.int (15 : Int32)), .val (.int (15 : Int32)), .val (.int (8 : Int32)), .unset, .unset]) at_56 rfl rfl ?_
        refine s_iload B X355 (pc' := 60) at_58 rfl rfl ?_
        refine s_iload B X355 (pc' := 62) at_60 rfl rfl ?_
        refine s_iand B X355 (pc' := 63) (v := (15 : Int32)) at_62 rfl rfl ?_
        refine s_iload B X355 (pc' := 65) at_63 rfl rfl ?_
        refine s_icmpN B X355 (pc' := 68) at_65 (by decide) rfl ?_
        refine s_iconst B X355 (pc' := 69) (v := (1 : Int32)) at_68 rfl rfl ?_
        refine s_goto B X355 (pc' := 73) at_69 (by decide) (by decide) ?_
        refine s_istore B X355 (pc' := 75) (Ls' := #[.val (.int i0), .val (.int i1), .val (.int i2), .val (.ref w_WRITE), .val (.ref w_READ), .val (.ref w_SHARED), .val (.ref w_WRITE), .val (.int (15 : Int32)), .val (.int (15 : Int32)), .val (.int (8 : Int32)), .val (.int (1 : Int32)), .unset]) at_73 rfl rfl ?_
        refine s_iload B X355 (pc' := 77) at_75 rfl rfl ?_
        refine s_iload B X355 (pc' := 79) at_77 rfl rfl ?_
        refine s_iand B X355 (pc' := 80) (v := (8 : Int32)) at_79 rfl rfl ?_
        refine s_iload B X355 (pc' := 82) at_80 rfl rfl ?_
        refine s_icmpY B X355 (pc' := 95) at_82 (by decide) (by decide) (by decide) ?_
        refine s_iconst B X355 (pc' := 96) (v := (1 : Int32)) at_95 rfl rfl ?_
        refine s_goto B X355 (pc' := 100) at_96 (by decide) (by decide) ?_
        refine s_istore B X355 (pc' := 102) (Ls' := #[.val (.int i0), .val (.int i1), .val (.int i2), .val (.ref w_WRITE), .val (.ref w_READ), .val (.ref w_SHARED), .val (.ref w_WRITE), .val (.int (15 : Int32)), .val (.int (15 : Int32)), .val (.int (8 : Int32)), .val (.int (1 : Int32)), .val (.int (1 : Int32))]) at_100 rfl rfl ?_
        refine s_iload B X355 (pc' := 104) at_102 rfl rfl ?_
        refine s_ifN B X355 (pc' := 107) at_104 (by decide) rfl ?_
        refine s_iload B X355 (pc' := 109) at_107 rfl rfl ?_
        refine s_ifN B X355 (pc' := 112) at_109 (by decide) rfl ?_
        refine s_iconst B X355 (pc' := 113) (v := (1 : Int32)) at_112 rfl rfl ?_
        refine s_goto B X355 (pc' := 117) at_113 (by decide) (by decide) ?_
        exact r_nar B X355 (t := .boolean) (by simp) rfl at_117 ⟨rfl, (Fr.nil _)⟩ (by decide) (by decide)
      · refine p_static B X348 (y := mn0) (pc' := 15) (argsL := [(.int i2)]) (under := []) (W := 0) e348 (tw0 hw) (tw1 hw) (tw3 hw) (tw2 hw) (by decide) (rm_mode1 l Z a0 hw i2 hm349 w_SHARED w_WRITE w_MEMBERSHIP w_READ Z.heap F0) (lenOf pd_0 rfl) rfl rfl (by decide) (by decide) rfl rfl (by decide) (by decide) rfl at_12 rfl (fun T356 X356 e356 => ?_)
        show Go p e below _ (T356.setTop (mkF m 15 #[.val (.int i0), .val (.int i1), .val (.int i2), .val (.ref w_WRITE), .val (.ref w_READ), .unset, .unset, .unset, .unset, .unset, .unset, .unset] [(.ref w_READ)]))
        refine s_astore B X356 (pc' := 17) (Ls' := #[.val (.int i0), .val (.int i1), .val (.int i2), .val (.ref w_WRITE), .val (.ref w_READ), .val (.ref w_READ), .unset, .unset, .unset, .unset, .unset, .unset]) at_15 rfl rfl rfl ?_
        refine s_aloadN B X356 (pc' := 18) at_17 rfl rfl rfl ?_
        refine s_aload B X356 (pc' := 20) at_18 rfl rfl rfl ?_
        refine p_virtual B X356 (y := mn1) (pc' := 23) (argsL := [(.ref w_READ)]) (under := []) (W := 0) e356 (tw11 hw) (tw12 hw) (tw14 hw) (tw13 hw) (tw15 hw) (tw5 hw) (by decide) (rm2_17 l Z a0 hw  w_SHARED w_WRITE w_MEMBERSHIP w_READ Z.heap F0 ) E_WRITE (lenOf pd_1 rfl) rfl rfl (by decide) (by decide) rfl rfl (by decide) (by decide) rfl at_20 rfl (fun T357 X357 e357 => ?_)
        show Go p e below _ (T357.setTop (mkF m 23 #[.val (.int i0), .val (.int i1), .val (.int i2), .val (.ref w_WRITE), .val (.ref w_READ), .val (.ref w_READ), .unset, .unset, .unset, .unset, .unset, .unset] [(.ref w_WRITE)]))
        refine s_astore B X357 (pc' := 25) (Ls' := #[.val (.int i0), .val (.int i1), .val (.int i2), .val (.ref w_WRITE), .val (.ref w_READ), .val (.ref w_READ), .val (.ref w_WRITE), .unset, .unset, .unset, .unset, .unset]) at_23 rfl rfl rfl ?_
        refine s_aload B X357 (pc' := 27) at_25 rfl rfl rfl ?_
        refine s_ifnonnullY B X357 (pc' := 32) at_27 (by decide) (by decide) ?_
        refine s_aloadN B X357 (pc' := 33) at_32 rfl rfl rfl ?_
        refine p_static B X357 (y := mn2) (pc' := 36) (argsL := [(.ref w_WRITE)]) (under := []) (W := 0) e357 (tw17 hw) (tw18 hw) (tw19 hw) (tw2 hw) (by decide) (rm3_4 l Z a0 hw  w_SHARED w_WRITE w_MEMBERSHIP w_READ Z.heap F0 ) (lenOf pd_2 rfl) rfl rfl (by decide) (by decide) rfl rfl (by decide) (by decide) rfl at_33 rfl (fun T358 X358 e358 => ?_)
        show Go p e below _ (T358.setTop (mkF m 36 #[.val (.int i0), .val (.int i1), .val (.int i2), .val (.ref w_WRITE), .val (.ref w_READ), .val (.ref w_READ), .val (.ref w_WRITE), .unset, .unset, .unset, .unset, .unset] [(.int (15 : Int32))]))
        refine s_aload B X358 (pc' := 38) at_36 rfl rfl rfl ?_
        refine p_static B X358 (y := mn2) (pc' := 41) (argsL := [(.ref w_READ)]) (under := [(.int (15 : Int32))]) (W := 1) e358 (tw17 hw) (tw18 hw) (tw19 hw) (tw2 hw) (by decide) (rm3_2 l Z a0 hw  w_SHARED w_WRITE w_MEMBERSHIP w_READ Z.heap F0 ) (lenOf pd_2 rfl) rfl rfl (by decide) (by decide) rfl rfl (by decide) (by decide) rfl at_38 rfl (fun T359 X359 e359 => ?_)
        show Go p e below _ (T359.setTop (mkF m 41 #[.val (.int i0), .val (.int i1), .val (.int i2), .val (.ref w_WRITE), .val (.ref w_READ), .val (.ref w_READ), .val (.ref w_WRITE), .unset, .unset, .unset, .unset, .unset] [(.int (12 : Int32)), (.int (15 : Int32))]))
        refine s_ior B X359 (pc' := 42) (v := (15 : Int32)) at_41 rfl rfl ?_
        refine s_istore B X359 (pc' := 44) (Ls' := #[.val (.int i0), .val (.int i1), .val (.int i2), .val (.ref w_WRITE), .val (.ref w_READ), .val (.ref w_READ), .val (.ref w_WRITE), .val (.int (15 : Int32)), .unset, .unset, .unset, .unset]) at_42 rfl rfl ?_
        refine s_aload B X359 (pc' := 46) at_44 rfl rfl rfl ?_
        refine p_static B X359 (y := mn2) (pc' := 49) (argsL := [(.ref w_WRITE)]) (under := []) (W := 0) e359 (tw17 hw) (tw18 hw) (tw19 hw) (tw2 hw) (by decide) (rm3_4 l Z a0 hw  w_SHARED w_WRITE w_MEMBERSHIP w_READ Z.heap F0 ) (lenOf pd_2 rfl) rfl rfl (by decide) (by decide) rfl rfl (by decide) (by decide) rfl at_46 rfl (fun T360 X360 e360 => ?_)
        show Go p e below _ (T360.setTop (mkF m 49 #[.val (.int i0), .val (.int i1), .val (.int i2), .val (.ref w_WRITE), .val (.ref w_READ), .val (.ref w_READ), .val (.ref w_WRITE), .val (.int (15 : Int32)), .unset, .unset, .unset, .unset] [(.int (15 : Int32))]))
        refine s_istore B X360 (pc' := 51) (Ls' := #[.val (.int i0), .val (.int i1), .val (.int i2), .val (.ref w_WRITE), .val (.ref w_READ), .val (.ref w_READ), .val (.ref w_WRITE), .val (.int (15 : Int32)), .val (.int (15 : Int32)), .unset, .unset, .unset]) at_49 rfl rfl ?_
        refine s_aload B X360 (pc' := 53) at_51 rfl rfl rfl ?_
        refine p_static B X360 (y := mn2) (pc' := 56) (argsL := [(.ref w_READ)]) (under := []) (W := 0) e360 (tw17 hw) (tw18 hw) (tw19 hw) (tw2 hw) (by decide) (rm3_2 l Z a0 hw  w_SHARED w_WRITE w_MEMBERSHIP w_READ Z.heap F0 ) (lenOf pd_2 rfl) rfl rfl (by decide) (by decide) rfl rfl (by decide) (by decide) rfl at_53 rfl (fun T361 X361 e361 => ?_)
        show Go p e below _ (T361.setTop (mkF m 56 #[.val (.int i0), .val (.int i1), .val (.int i2), .val (.ref w_WRITE), .val (.ref w_READ), .val (.ref w_READ), .val (.ref w_WRITE), .val (.int (15 : Int32)), .val (.int (15 : Int32)), .unset, .unset, .unset] [(.int (12 : Int32))]))
        refine s_istore B X361 (pc' := 58) (Ls' := #[.val (.int i0), .val (.int i1), .val (.int i2), .val (.ref w_WRITE), .val (.ref w_READ), .val (.ref w_READ), .val (.ref w_WRITE), .val (.int (15 : Int32)), .val (.int (15 : Int32)), .val (.int (12 : Int32)), .unset, .unset]) at_56 rfl rfl ?_
        refine s_iload B X361 (pc' := 60) at_58 rfl rfl ?_
        refine s_iload B X361 (pc' := 62) at_60 rfl rfl ?_
        refine s_iand B X361 (pc' := 63) (v := (15 : Int32)) at_62 rfl rfl ?_
        refine s_iload B X361 (pc' := 65) at_63 rfl rfl ?_
        refine s_icmpN B X361 (pc' := 68) at_65 (by decide) rfl ?_
        refine s_iconst B X361 (pc' := 69) (v := (1 : Int32)) at_68 rfl rfl ?_
        refine s_goto B X361 (pc' := 73) at_69 (by decide) (by decide) ?_
        refine s_istore B X361 (pc' := 75) (Ls' := #[.val (.int i0), .val (.int i1), .val (.int i2), .val (.ref w_WRITE), .val (.ref w_READ), .val (.ref w_READ), .val (.ref w_WRITE), .val (.int (15 : Int32)), .val (.int (15 : Int32)), .val (.int (12 : Int32)), .val (.int (1 : Int32)), .unset]) at_73 rfl rfl ?_
        refine s_iload B X361 (pc' := 77) at_75 rfl rfl ?_
        refine s_iload B X361 (pc' := 79) at_77 rfl rfl ?_
        refine s_iand B X361 (pc' := 80) (v := (12 : Int32)) at_79 rfl rfl ?_
        refine s_iload B X361 (pc' := 82) at_80 rfl rfl ?_
        refine s_icmpY B X361 (pc' := 95) at_82 (by decide) (by decide) (by decide) ?_
        refine s_iconst B X361 (pc' := 96) (v := (1 : Int32)) at_95 rfl rfl ?_
        refine s_goto B X361 (pc' := 100) at_96 (by decide) (by decide) ?_
        refine s_istore B X361 (pc' := 102) (Ls' := #[.val (.int i0), .val (.int i1), .val (.int i2), .val (.ref w_WRITE), .val (.ref w_READ), .val (.ref w_READ), .val (.ref w_WRITE), .val (.int (15 : Int32)), .val (.int (15 : Int32)), .val (.int (12 : Int32)), .val (.int (1 : Int32)), .val (.int (1 : Int32))]) at_100 rfl rfl ?_
        refine s_iload B X361 (pc' := 104) at_102 rfl rfl ?_
        refine s_ifN B X361 (pc' := 107) at_104 (by decide) rfl ?_
        refine s_iload B X361 (pc' := 109) at_107 rfl rfl ?_
        refine s_ifN B X361 (pc' := 112) at_109 (by decide) rfl ?_
        refine s_iconst B X361 (pc' := 113) (v := (1 : Int32)) at_112 rfl rfl ?_
        refine s_goto B X361 (pc' := 117) at_113 (by decide) (by decide) ?_
        exact r_nar B X361 (t := .boolean) (by simp) rfl at_117 ⟨rfl, (Fr.nil _)⟩ (by decide) (by decide)
      · refine p_static B X348 (y := mn0) (pc' := 15) (argsL := [(.int i2)]) (under := []) (W := 0) e348 (tw0 hw) (tw1 hw) (tw3 hw) (tw2 hw) (by decide) (rm_mode2 l Z a0 hw i2 hm349 w_SHARED w_WRITE w_MEMBERSHIP w_READ Z.heap F0) (lenOf pd_0 rfl) rfl rfl (by decide) (by decide) rfl rfl (by decide) (by decide) rfl at_12 rfl (fun T362 X362 e362 => ?_)
        show Go p e below _ (T362.setTop (mkF m 15 #[.val (.int i0), .val (.int i1), .val (.int i2), .val (.ref w_WRITE), .val (.ref w_READ), .unset, .unset, .unset, .unset, .unset, .unset, .unset] [(.ref w_MEMBERSHIP)]))
        refine s_astore B X362 (pc' := 17) (Ls' := #[.val (.int i0), .val (.int i1), .val (.int i2), .val (.ref w_WRITE), .val (.ref w_READ), .val (.ref w_MEMBERSHIP), .unset, .unset, .unset, .unset, .unset, .unset]) at_15 rfl rfl rfl ?_
        refine s_aloadN B X362 (pc' := 18) at_17 rfl rfl rfl ?_
        refine s_aload B X362 (pc' := 20) at_18 rfl rfl rfl ?_
        refine p_virtual B X362 (y := mn1) (pc' := 23) (argsL := [(.ref w_READ)]) (under := []) (W := 0) e362 (tw11 hw) (tw12 hw) (tw14 hw) (tw13 hw) (tw15 hw) (tw5 hw) (by decide) (rm2_17 l Z a0 hw  w_SHARED w_WRITE w_MEMBERSHIP w_READ Z.heap F0 ) E_WRITE (lenOf pd_1 rfl) rfl rfl (by decide) (by decide) rfl rfl (by decide) (by decide) rfl at_20 rfl (fun T363 X363 e363 => ?_)
        show Go p e below _ (T363.setTop (mkF m 23 #[.val (.int i0), .val (.int i1), .val (.int i2), .val (.ref w_WRITE), .val (.ref w_READ), .val (.ref w_MEMBERSHIP), .unset, .unset, .unset, .unset, .unset, .unset] [(.ref w_WRITE)]))
        refine s_astore B X363 (pc' := 25) (Ls' := #[.val (.int i0), .val (.int i1), .val (.int i2), .val (.ref w_WRITE), .val (.ref w_READ), .val (.ref w_MEMBERSHIP), .val (.ref w_WRITE), .unset, .unset, .unset, .unset, .unset]) at_23 rfl rfl rfl ?_
        refine s_aload B X363 (pc' := 27) at_25 rfl rfl rfl ?_
        refine s_ifnonnullY B X363 (pc' := 32) at_27 (by decide) (by decide) ?_
        refine s_aloadN B X363 (pc' := 33) at_32 rfl rfl rfl ?_
        refine p_static B X363 (y := mn2) (pc' := 36) (argsL := [(.ref w_WRITE)]) (under := []) (W := 0) e363 (tw17 hw) (tw18 hw) (tw19 hw) (tw2 hw) (by decide) (rm3_4 l Z a0 hw  w_SHARED w_WRITE w_MEMBERSHIP w_READ Z.heap F0 ) (lenOf pd_2 rfl) rfl rfl (by decide) (by decide) rfl rfl (by decide) (by decide) rfl at_33 rfl (fun T364 X364 e364 => ?_)
        show Go p e below _ (T364.setTop (mkF m 36 #[.val (.int i0), .val (.int i1), .val (.int i2), .val (.ref w_WRITE), .val (.ref w_READ), .val (.ref w_MEMBERSHIP), .val (.ref w_WRITE), .unset, .unset, .unset, .unset, .unset] [(.int (15 : Int32))]))
        refine s_aload B X364 (pc' := 38) at_36 rfl rfl rfl ?_
        refine p_static B X364 (y := mn2) (pc' := 41) (argsL := [(.ref w_READ)]) (under := [(.int (15 : Int32))]) (W := 1) e364 (tw17 hw) (tw18 hw) (tw19 hw) (tw2 hw) (by decide) (rm3_2 l Z a0 hw  w_SHARED w_WRITE w_MEMBERSHIP w_READ Z.heap F0 ) (lenOf pd_2 rfl) rfl rfl (by decide) (by decide) rfl rfl (by decide) (by decide) rfl at_38 rfl (fun T365 X365 e365 => ?_)
        show Go p e below _ (T365.setTop (mkF m 41 #[.val (.int i0), .val (.int i1), .val (.int i2), .val (.ref w_WRITE), .val (.ref w_READ), .val (.ref w_MEMBERSHIP), .val (.ref w_WRITE), .unset, .unset, .unset, .unset, .unset] [(.int (12 : Int32)), (.int (15 : Int32))]))
        refine s_ior B X365 (pc' := 42) (v := (15 : Int32)) at_41 rfl rfl ?_
        refine s_istore B X365 (pc' := 44) (Ls' := #[.val (.int i0), .val (.int i1), .val (.int i2), .val (.ref w_WRITE), .val (.ref w_READ), .val (.ref w_MEMBERSHIP), .val (.ref w_WRITE), .val (.int (15 : Int32)), .unset, .unset, .unset, .unset]) at_42 rfl rfl ?_
        refine s_aload B X365 (pc' := 46) at_44 rfl rfl rfl ?_
        refine p_static B X365 (y := mn2) (pc' := 49) (argsL := [(.ref w_WRITE)]) (under := []) (W := 0) e365 (tw17 hw) (tw18 hw) (tw19 hw) (tw2 hw) (by decide) (rm3_4 l Z a0 hw  w_SHARED w_WRITE w_MEMBERSHIP w_READ Z.heap F0 ) (lenOf pd_2 rfl) rfl rfl (by decide) (by decide) rfl rfl (by decide) (by decide) rfl at_46 rfl (fun T366 X366 e366 => ?_)
        show Go p e below _ (T366.setTop (mkF m 49 #[.val (.int i0), .val (.int i1), .val (.int i2), .val (.ref w_WRITE), .val (.ref w_READ), .val (.ref w_MEMBERSHIP), .val (.ref w_WRITE), .val (.int (15 : Int32)), .unset, .unset, .unset, .unset] [(.int (15 : Int32))]))
        refine s_istore B X366 (pc' := 51) (Ls' := #[.val (.int i0), .val (.int i1), .val (.int i2), .val (.ref w_WRITE), .val (.ref w_READ), .val (.ref w_MEMBERSHIP), .val (.ref w_WRITE), .val (.int (15 : Int32)), .val (.int (15 : Int32)), .unset, .unset, .unset]) at_49 rfl rfl ?_
        refine s_aload B X366 (pc' := 53) at_51 rfl rfl rfl ?_
        refine p_static B X366 (y := mn2) (pc' := 56) (argsL := [(.ref w_MEMBERSHIP)]) (under := []) (W := 0) e366 (tw17 hw) (tw18 hw) (tw19 hw) (tw2 hw) (by decide) (rm3_3 l Z a0 hw  w_SHARED w_WRITE w_MEMBERSHIP w_READ Z.heap F0 ) (lenOf pd_2 rfl) rfl rfl (by decide) (by decide) rfl rfl (by decide) (by decide) rfl at_53 rfl (fun T367 X367 e367 => ?_)
        show Go p e below _ (T367.setTop (mkF m 56 #[.val (.int i0), .val (.int i1), .val (.int i2), .val (.ref w_WRITE), .val (.ref w_READ), .val (.ref w_MEMBERSHIP), .val (.ref w_WRITE), .val (.int (15 : Int32)), .val (.int (15 : Int32)), .unset, .unset, .unset] [(.int (10 : Int32))]))
        refine s_istore B X367 (pc' := 58) (Ls' := #[.val (.int i0), .val (.int i1), .val (.int i2), .val (.ref w_WRITE), .val (.ref w_READ), .val (.ref w_MEMBERSHIP), .val (.ref w_WRITE), .val (.int (15 : Int32)), .val (.int (15 : Int32)), .val (.int (10 : Int32)), .unset, .unset]) at_56 rfl rfl ?_
        refine s_iload B X367 (pc' := 60) at_58 rfl rfl ?_
        refine s_iload B X367 (pc' := 62) at_60 rfl rfl ?_
        refine s_iand B X367 (pc' := 63) (v := (15 : Int32)) at_62 rfl rfl ?_
        refine s_iload B X367 (pc' := 65) at_63 rfl rfl ?_
        refine s_icmpN B X367 (pc' := 68) at_65 (by decide) rfl ?_
        refine s_iconst B X367 (pc' := 69) (v := (1 : Int32)) at_68 rfl rfl ?_
        refine s_goto B X367 (pc' := 73) at_69 (by decide) (by decide) ?_
        refine s_istore B X367 (pc' := 75) (Ls' := #[.val (.int i0), .val (.int i1), .val (.int i2), .val (.ref w_WRITE), .val (.ref w_READ), .val (.ref w_MEMBERSHIP), .val (.ref w_WRITE), .val (.int (15 : Int32)), .val (.int (15 : Int32)), .val (.int (10 : Int32)), .val (.int (1 : Int32)), .unset]) at_73 rfl rfl ?_
        refine s_iload B X367 (pc' := 77) at_75 rfl rfl ?_
        refine s_iload B X367 (pc' := 79) at_77 rfl rfl ?_
        refine s_iand B X367 (pc' := 80) (v := (10 : Int32)) at_79 rfl rfl ?_
        refine s_iload B X367 (pc' := 82) at_80 rfl rfl ?_
        refine s_icmpY B X367 (pc' := 95) at_82 (by decide) (by decide) (by decide) ?_
        refine s_iconst B X367 (pc' := 96) (v := (1 : Int32)) at_95 rfl rfl ?_
        refine s_goto B X367 (pc' := 100) at_96 (by decide) (by decide) ?_
        refine s_istore B X367 (pc' := 102) (Ls' := #[.val (.int i0), .val (.int i1), .val (.int i2), .val (.ref w_WRITE), .val (.ref w_READ), .val (.ref w_MEMBERSHIP), .val (.ref w_WRITE), .val (.int (15 : Int32)), .val (.int (15 : Int32)), .val (.int (10 : Int32)), .val (.int (1 : Int32)), .val (.int (1 : Int32))]) at_100 rfl rfl ?_
        refine s_iload B X367 (pc' := 104) at_102 rfl rfl ?_
        refine s_ifN B X367 (pc' := 107) at_104 (by decide) rfl ?_
        refine s_iload B X367 (pc' := 109) at_107 rfl rfl ?_
        refine s_ifN B X367 (pc' := 112) at_109 (by decide) rfl ?_
        refine s_iconst B X367 (pc' := 113) (v := (1 : Int32)) at_112 rfl rfl ?_
        refine s_goto B X367 (pc' := 117) at_113 (by decide) (by decide) ?_
        exact r_nar B X367 (t := .boolean) (by simp) rfl at_117 ⟨rfl, (Fr.nil _)⟩ (by decide) (by decide)
      · refine p_static B X348 (y := mn0) (pc' := 15) (argsL := [(.int i2)]) (under := []) (W := 0) e348 (tw0 hw) (tw1 hw) (tw3 hw) (tw2 hw) (by decide) (rm_mode3 l Z a0 hw i2 hm349 w_SHARED w_WRITE w_MEMBERSHIP w_READ Z.heap F0) (lenOf pd_0 rfl) rfl rfl (by decide) (by decide) rfl rfl (by decide) (by decide) rfl at_12 rfl (fun T368 X368 e368 => ?_)
        show Go p e below _ (T368.setTop (mkF m 15 #[.val (.int i0), .val (.int i1), .val (.int i2), .val (.ref w_WRITE), .val (.ref w_READ), .unset, .unset, .unset, .unset, .unset, .unset, .unset] [(.ref w_WRITE)]))
        refine s_astore B X368 (pc' := 17) (Ls' := #[.val (.int i0), .val (.int i1), .val (.int i2), .val (.ref w_WRITE), .val (.ref w_READ), .val (.ref w_WRITE), .unset, .unset, .unset, .unset, .unset, .unset]) at_15 rfl rfl rfl ?_
        refine s_aloadN B X368 (pc' := 18) at_17 rfl rfl rfl ?_
        refine s_aload B X368 (pc' := 20) at_18 rfl rfl rfl ?_
        refine p_virtual B X368 (y := mn1) (pc' := 23) (argsL := [(.ref w_READ)]) (under := []) (W := 0) e368 (tw11 hw) (tw12 hw) (tw14 hw) (tw13 hw) (tw15 hw) (tw5 hw) (by decide) (rm2_17 l Z a0 hw  w_SHARED w_WRITE w_MEMBERSHIP w_READ Z.heap F0 ) E_WRITE (lenOf pd_1 rfl) rfl rfl (by decide) (by decide) rfl rfl (by decide) (by decide) rfl at_20 rfl (fun T369 X369 e369 => ?_)
        show Go p e below _ (T369.setTop (mkF m 23 #[.val (.int i0), .val (.int i1), .val (.int i2), .val (.ref w_WRITE), .val (.ref w_READ), .val (.ref w_WRITE), .unset, .unset, .unset, .unset, .unset, .unset] [(.ref w_WRITE)]))
        refine s_astore B X369 (pc' := 25) (Ls' := #[.val (.int i0), .val (.int i1), .val (.int i2), .val (.ref w_WRITE), .val (.ref w_READ), .val (.ref w_WRITE), .val (.ref w_WRITE), .unset, .unset, .unset, .unset, .unset]) at_23 rfl rfl rfl ?_
        refine s_aload B X369 (pc' := 27) at_25 rfl rfl rfl ?_
        refine s_ifnonnullY B X369 (pc' := 32) at_27 (by decide) (by decide) ?_
        refine s_aloadN B X369 (pc' := 33) at_32 rfl rfl rfl ?_
        refine p_static B X369 (y := mn2) (pc' := 36) (argsL := [(.ref w_WRITE)]) (under := []) (W := 0) e369 (tw17 hw) (tw18 hw) (tw19 hw) (tw2 hw) (by decide) (rm3_4 l Z a0 hw  w_SHARED w_WRITE w_MEMBERSHIP w_READ Z.heap F0 ) (lenOf pd_2 rfl) rfl rfl (by decide) (by decide) rfl rfl (by decide) (by decide) rfl at_33 rfl (fun T370 X370 e370 => ?_)
        show Go p e below _ (T370.setTop (mkF m 36 #[.val (.int i0), .val (.int i1), .val (.int i2), .val (.ref w_WRITE), .val (.ref w_READ), .val (.ref w_WRITE), .val (.ref w_WRITE), .unset, .unset, .unset, .unset, .unset] [(.int (15 : Int32))]))
        refine s_aload B X370 (pc' := 38) at_36 rfl rfl rfl ?_
        refine p_static B X370 (y := mn2) (pc' := 41) (argsL := [(.ref w_READ)]) (under := [(.int (15 : Int32))]) (W := 1) e370 (tw17 hw) (tw18 hw) (tw19 hw) (tw2 hw) (by decide) (rm3_2 l Z a0 hw  w_SHARED w_WRITE w_MEMBERSHIP w_READ Z.heap F0 ) (lenOf pd_2 rfl) rfl rfl (by decide) (by decide) rfl rfl (by decide) (by decide) rfl at_38 rfl (fun T371 X371 e371 => ?_)
        show Go p e below _ (T371.setTop (mkF m 41 #[.val (.int i0), .val (.int i1), .val (.int i2), .val (.ref w_WRITE), .val (.ref w_READ), .val (.ref w_WRITE), .val (.ref w_WRITE), .unset, .unset, .unset, .unset, .unset] [(.int (12 : Int32)), (.int (15 : Int32))]))
        refine s_ior B X371 (pc' := 42) (v := (15 : Int32)) at_41 rfl rfl ?_
        refine s_istore B X371 (pc' := 44) (Ls' := #[.val (.int i0), .val (.int i1), .val (.int i2), .val (.ref w_WRITE), .val (.ref w_READ), .val (.ref w_WRITE), .val (.ref w_WRITE), .val (.int (15 : Int32)), .unset, .unset, .unset, .unset]) at_42 rfl rfl ?_
        refine s_aload B X371 (pc' := 46) at_44 rfl rfl rfl ?_
        refine p_static B X371 (y := mn2) (pc' := 49) (argsL := [(.ref w_WRITE)]) (under := []) (W := 0) e371 (tw17 hw) (tw18 hw) (tw19 hw) (tw2 hw) (by decide) (rm3_4 l Z a0 hw  w_SHARED w_WRITE w_MEMBERSHIP w_READ Z.heap F0 ) (lenOf pd_2 rfl) rfl rfl (by decide) (by decide) rfl rfl (by decide) (by decide) rfl at_46 rfl (fun T372 X372 e372 => ?_)
        show Go p e below _ (T372.setTop (mkF m 49 #[.val (.int i0), .val (.int i1), .val (.int i2), .val (.ref w_WRITE), .val (.ref w_READ), .val (.ref w_WRITE), .val (.ref w_WRITE), .val (.int (15 : Int32)), .unset, .unset, .unset, .unset] [(.int (15 : Int32))]))
        refine s_istore B X372 (pc' := 51) (Ls' := #[.val (.int i0), .val (.int i1), .val (.int i2), .val (.ref w_WRITE), .val (.ref w_READ), .val (.ref w_WRITE), .val (.ref w_WRITE), .val (.int (15 : Int32)), .val (.int (15 : Int32)), .unset, .unset, .unset]) at_49 rfl rfl ?_
        refine s_aload B X372 (pc' := 53) at_51 rfl rfl rfl ?_
        refine p_static B X372 (y := mn2) (pc' := 56) (argsL := [(.ref w_WRITE)]) (under := []) (W := 0) e372 (tw17 hw) (tw18 hw) (tw19 hw) (tw2 hw) (by decide) (rm3_4 l Z a0 hw  w_SHARED w_WRITE w_MEMBERSHIP w_READ Z.heap F0 ) (lenOf pd_2 rfl) rfl rfl (by decide) (by decide) rfl rfl (by decide) (by decide) rfl at_53 rfl (fun T373 X373 e373 => ?_)
        show Go p e below _ (T373.setTop (mkF m 56 #[.val (.int i0), .val (.int i1), .val (.int i2), .val (.ref w_WRITE), .val (.ref w_READ), .val (.ref w_WRITE), .val (.ref w_WRITE), .val (.int (15 : Int32)), .val (.int (15 : Int32)), .unset, .unset, .unset] [(.int (15 : Int32))]))
        refine s_istore B X373 (pc' := 58) (Ls' := #[.val (.int i0), .val (.int i1), .val (.int i2), .val (.ref w_WRITE), .val (.ref w_READ), .val (.ref w_WRITE), .val (.ref w_WRITE), .val (.int (15 : Int32)), .val (.int (15 : Int32)), .val (.int (15 : Int32)), .unset, .unset]) at_56 rfl rfl ?_
        refine s_iload B X373 (pc' := 60) at_58 rfl rfl ?_
        refine s_iload B X373 (pc' := 62) at_60 rfl rfl ?_
        refine s_iand B X373 (pc' := 63) (v := (15 : Int32)) at_62 rfl rfl ?_
        refine s_iload B X373 (pc' := 65) at_63 rfl rfl ?_
        refine s_icmpN B X373 (pc' := 68) at_65 (by decide) rfl ?_
        refine s_iconst B X373 (pc' := 69) (v := (1 : Int32)) at_68 rfl rfl ?_
        refine s_goto B X373 (pc' := 73) at_69 (by decide) (by decide) ?_
        refine s_istore B X373 (pc' := 75) (Ls' := #[.val (.int i0), .val (.int i1), .val (.int i2), .val (.ref w_WRITE), .val (.ref w_READ), .val (.ref w_WRITE), .val (.ref w_WRITE), .val (.int (15 : Int32)), .val (.int (15 : Int32)), .val (.int (15 : Int32)), .val (.int (1 : Int32)), .unset]) at_73 rfl rfl ?_
        refine s_iload B X373 (pc' := 77) at_75 rfl rfl ?_
        refine s_iload B X373 (pc' := 79) at_77 rfl rfl ?_
        refine s_iand B X373 (pc' := 80) (v := (15 : Int32)) at_79 rfl rfl ?_
        refine s_iload B X373 (pc' := 82) at_80 rfl rfl ?_
        refine s_icmpN B X373 (pc' := 85) at_82 (by decide) rfl ?_
        refine s_iload B X373 (pc' := 87) at_85 rfl rfl ?_
        refine s_iload B X373 (pc' := 89) at_87 rfl rfl ?_
        refine s_iand B X373 (pc' := 90) (v := (15 : Int32)) at_89 rfl rfl ?_
        refine s_iload B X373 (pc' := 92) at_90 rfl rfl ?_
        refine s_icmpN B X373 (pc' := 95) at_92 (by decide) rfl ?_
        refine s_iconst B X373 (pc' := 96) (v := (1 : Int32)) at_95 rfl rfl ?_
        refine s_goto B X373 (pc' := 100) at_96 (by decide) (by decide) ?_
        refine s_istore B X373 (pc' := 102) (Ls' := #[.val (.int i0), .val (.int i1), .val (.int i2), .val (.ref w_WRITE), .val (.ref w_READ), .val (.ref w_WRITE), .val (.ref w_WRITE), .val (.int (15 : Int32)), .val (.int (15 : Int32)), .val (.int (15 : Int32)), .val (.int (1 : Int32)), .val (.int (1 : Int32))]) at_100 rfl rfl ?_
        refine s_iload B X373 (pc' := 104) at_102 rfl rfl ?_
        refine s_ifN B X373 (pc' := 107) at_104 (by decide) rfl ?_
        refine s_iload B X373 (pc' := 109) at_107 rfl rfl ?_
        refine s_ifN B X373 (pc' := 112) at_109 (by decide) rfl ?_
        refine s_iconst B X373 (pc' := 113) (v := (1 : Int32)) at_112 rfl rfl ?_
        refine s_goto B X373 (pc' := 117) at_113 (by decide) (by decide) ?_
        exact r_nar B X373 (t := .boolean) (by simp) rfl at_117 ⟨rfl, (Fr.nil _)⟩ (by decide) (by decide)
    · refine p_static B X320 (y := mn0) (pc' := 9) (argsL := [(.int i1)]) (under := []) (W := 0) e320 (tw0 hw) (tw1 hw) (tw3 hw) (tw2 hw) (by decide) (rm_mode2 l Z a0 hw i1 hm321 w_SHARED w_WRITE w_MEMBERSHIP w_READ Z.heap F0) (lenOf pd_0 rfl) rfl rfl (by decide) (by decide) rfl rfl (by decide) (by decide) rfl at_6 rfl (fun T374 X374 e374 => ?_)
      show Go p e below _ (T374.setTop (mkF m 9 #[.val (.int i0), .val (.int i1), .val (.int i2), .val (.ref w_WRITE), .unset, .unset, .unset, .unset, .unset, .unset, .unset, .unset] [(.ref w_MEMBERSHIP)]))
      refine s_astore B X374 (pc' := 11) (Ls' := #[.val (.int i0), .val (.int i1), .val (.int i2), .val (.ref w_WRITE), .val (.ref w_MEMBERSHIP), .unset, .unset, .unset, .unset, .unset, .unset, .unset]) at_9 rfl rfl rfl ?_
      refine s_iloadN B X374 (pc' := 12) at_11 rfl rfl ?_
      rcases own_and3 i2 with hm375 | hm375 | hm375 | hm375
      · refine p_static B X374 (y := mn0) (pc' := 15) (argsL := [(.int i2)]) (under := []) (W := 0) e374 (tw0 hw) (tw1 hw) (tw3 hw) (tw2 hw) (by decide) (rm_mode0 l Z a0 hw i2 hm375 w_SHARED w_WRITE w_MEMBERSHIP w_READ Z.heap F0) (lenOf pd_0 rfl) rfl rfl (by decide) (by decide) rfl rfl (by decide) (by decide) rfl at_12 rfl (fun T376 X376 e376 => ?_)
        show Go p e below _ (T376.setTop (mkF m 15 #[.val (.int i0), .val (.int i1), .val (.int i2), .val (.ref w_WRITE), .val (.ref w_MEMBERSHIP), .unset, .unset, .unset, .unset, .unset, .unset, .unset] [(.ref w_SHARED)]))
        refine s_astore B X376 (pc' := 17) (Ls' := #[.val (.int i0), .val (.int i1), .val (.int i2), .val (.ref w_WRITE), .val (.ref w_MEMBERSHIP), .val (.ref w_SHARED), .unset, .unset, .unset, .unset, .unset, .unset]) at_15 rfl rfl rfl ?_
        refine s_aloadN B X376 (pc' := 18) at_17 rfl rfl rfl ?_
        refine s_aload B X376 (pc' := 20) at_18 rfl rfl rfl ?_
        refine p_virtual B X376 (y := mn1) (pc' := 23) (argsL := [(.ref w_MEMBERSHIP)]) (under := []) (W := 0) e376 (tw11 hw) (tw12 hw) (tw14 hw) (tw13 hw) (tw15 hw) (tw5 hw) (by decide) (rm2_18 l Z a0 hw  w_SHARED w_WRITE w_MEMBERSHIP w_READ Z.heap F0 ) E_WRITE (lenOf pd_1 rfl) rfl rfl (by decide) (by decide) rfl rfl (by decide) (by decide) rfl at_20 rfl (fun T377 X377 e377 => ?_)
        show Go p e below _ (T377.setTop (mkF m 23 #[.val (.int i0), .val (.int i1), .val (.int i2), .val (.ref w_WRITE), .val (.ref w_MEMBERSHIP), .val (.ref w_SHARED), .unset, .unset, .unset, .unset, .unset, .unset] [(.ref w_WRITE)]))
        refine s_astore B X377 (pc' := 25) (Ls' := #[.val (.int i0), .val (.int i1), .val (.int i2), .val (.ref w_WRITE), .val (.ref w_MEMBERSHIP), .val (.ref w_SHARED), .val (.ref w_WRITE), .unset, .unset, .unset, .unset, .unset]) at_23 rfl rfl rfl ?_
        refine s_aload B X377 (pc' := 27) at_25 rfl rfl rfl ?_
        refine s_ifnonnullY B X377 (pc' := 32) at_27 (by decide) (by decide) ?_
        refine s_aloadN B X377 (pc' := 33) at_32 rfl rfl rfl ?_
        refine p_static B X377 (y := mn2) (pc' := 36) (argsL := [(.ref w_WRITE)]) (under := []) (W := 0) e377 (tw17 hw) (tw18 hw) (tw19 hw) (tw2 hw) (by decide) (rm3_4 l Z a0 hw  w_SHARED w_WRITE w_MEMBERSHIP w_READ Z.heap F0 ) (lenOf pd_2 rfl) rfl rfl (by decide) (by decide) rfl rfl (by decide) (by decide) rfl at_33 rfl (fun T378 X378 e378 => ?_)
        show Go p e below _ (T378.setTop (mkF m 36 #[.val (.int i0), .val (.int i1), .val (.int i2), .val (.ref w_WRITE), .val (.ref w_MEMBERSHIP), .val (.ref w_SHARED), .val (.ref w_WRITE), .unset, .unset, .unset, .unset, .unset] [(.int (15 : Int32))]))
        refine s_aload B X378 (pc' := 38) at_36 rfl rfl rfl ?_
        refine p_static B X378 (y := mn2) (pc' := 41) (argsL := [(.ref w_MEMBERSHIP)]) (under := [(.int (15 : Int32))]) (W := 1) e378 (tw17 hw) (tw18 hw) (tw19 hw) (tw2 hw) (by decide) (rm3_3 l Z a0 hw  w_SHARED w_WRITE w_MEMBERSHIP w_READ Z.heap F0 ) (lenOf pd_2 rfl) rfl rfl (by decide) (by decide) rfl rfl (by decide) (by decide) rfl at_38 rfl (fun T379 X379 e379 => ?_)
        show Go p e below _ (T379.setTop (mkF m 41 #[.val (.int i0), .val (.int i1), .val (.int i2), .val (.ref w_WRITE), .val (.ref w_MEMBERSHIP), .val (.ref w_SHARED), .val (.ref w_WRITE), .unset, .unset, .unset, .unset, .unset] [(.int (10 : Int32)), (.int (15 : Int32))]))
        refine s_ior B X379 (pc' := 42) (v := (15 : Int32)) at_41 rfl rfl ?_
        refine s_istore B X379 (pc' := 44) (Ls' := #[.val (.int i0), .val (.int i1), .val (.int i2), .val (.ref w_WRITE), .val (.ref w_MEMBERSHIP), .val (.ref w_SHARED), .val (.ref w_WRITE), .val (.int (15 : Int32)), .unset, .unset, .unset, .unset]) at_42 rfl rfl ?_
        refine s_aload B X379 (pc' := 46) at_44 rfl rfl rfl ?_
        refine p_static B X379 (y := mn2) (pc' := 49) (argsL := [(.ref w_WRITE)]) (under := []) (W := 0) e379 (tw17 hw) (tw18 hw) (tw19 hw) (tw2 hw) (by decide) (rm3_4 l Z a0 hw  w_SHARED w_WRITE w_MEMBERSHIP w_READ Z.heap F0 ) (lenOf pd_2 rfl) rfl rfl (by decide) (by decide) rfl rfl (by decide) (by decide) rfl at_46 rfl (fun T380 X380 e380 => ?_)
        show Go p e below _ (T380.setTop (mkF m 49 #[.val (.int i0), .val (.int i1), .val (.int i2), .val (.ref w_WRITE), .val (.ref w_MEMBERSHIP), .val (.ref w_SHARED), .val (.ref w_WRITE), .val (.int (15 : Int32)), .unset, .unset, .unset, .unset] [(.int (15 : Int32))]))
        refine s_istore B X380 (pc' := 51) (Ls' := #[.val (.int i0), .val (.int i1), .val (.int i2), .val (.ref w_WRITE), .val (.ref w_MEMBERSHIP), .val (.ref w_SHARED), .val (.ref w_WRITE), .val (.int (15 : Int32)), .val (.int (15 : Int32)), .unset, .unset, .unset]) at_49 rfl rfl ?_
        refine s_aload B X380 (pc' := 53) at_51 rfl rfl rfl ?_
        refine p_static B X380 (y := mn2) (pc' := 56) (argsL := [(.ref w_SHARED)]) (under := []) (W := 0) e380 (tw17 hw) (tw18 hw) (tw19 hw) (tw2 hw) (by decide) (rm3_1 l Z a0 hw  w_SHARED w_WRITE w_MEMBERSHIP w_READ Z.heap F0 ) (lenOf pd_2 rfl) rfl rfl (by decide) (by decide) rfl rfl (by decide) (by decide) rfl at_53 rfl (fun T381 X381 e381 => ?_)
        show Go p e below _ (T381.setTop (mkF m 56 #[.val (.int i0), .val (.int i1), .val (.int i2), .val (.ref w_WRITE), .val (.ref w_MEMBERSHIP), .val (.ref w_SHARED), .val (.ref w_WRITE), .val (.int (15 : Int32)), .val (.int (15 : Int32)), .unset, .unset, .unset] [(.int (8 : Int32))]))
        refine s_istore B X381 (pc' := 58) (Ls' := #[.val (.int i0), .val (.int i1), .val (.int i2), .val (.ref w_WRITE), .val (.ref w_MEMBERSHIP), .val (.ref w_SHARED), .val (.ref w_WRITE), .val (.int (15 : Int32)), .val (.int (15 : Int32)), .val (.int (8 : Int32)), .unset, .unset]) at_56 rfl rfl ?_
        refine s_iload B X381 (pc' := 60) at_58 rfl rfl ?_
        refine s_iload B X381 (pc' := 62) at_60 rfl rfl ?_
        refine s_iand B X381 (pc' := 63) (v := (15 : Int32)) at_62 rfl rfl ?_
        refine s_iload B X381 (pc' := 65) at_63 rfl rfl ?_
        refine s_icmpN B X381 (pc' := 68) at_65 (by decide) rfl ?_
        refine s_iconst B X381 (pc' := 69) (v := (1 : Int32)) at_68 rfl rfl ?_
        refine s_goto B X381 (pc' := 73) at_69 (by decide) (by decide) ?_
        refine s_istore B X381 (pc' := 75) (Ls' := #[.val (.int i0), .val (.int i1), .val (.int i2), .val (.ref w_WRITE), .val (.ref w_MEMBERSHIP), .val (.ref w_SHARED), .val (.ref w_WRITE), .val (.int (15 : Int32)), .val (.int (15 : Int32)), .val (.int (8 : Int32)), .val (.int (1 : Int32)), .unset]) at_73 rfl rfl ?_
        refine s_iload B X381 (pc' := 77) at_75 rfl rfl ?_
        refine s_iload B X381 (pc' := 79) at_77 rfl rfl ?_
        refine s_iand B X381 (pc' := 80) (v := (8 : Int32)) at_79 rfl rfl ?_
        refine s_iload B X381 (pc' := 82) at_80 rfl rfl ?_
        refine s_icmpY B X381 (pc' := 95) at_82 (by decide) (by decide) (by decide) ?_
        refine s_iconst B X381 (pc' := 96) (v := (1 : Int32)) at_95 rfl rfl ?_
        refine s_goto B X381 (pc' := 100) at_96 (by decide) (by decide) ?_
        refine s_istore B X381 (pc' := 102) (Ls' := #[.val (.int i0), .val (.int i1), .val (.int i2), .val (.ref w_WRITE), .val (.ref w_MEMBERSHIP), .val (.ref w_SHARED), .val (.ref w_WRITE), .val (.int (15 : Int32)), .val (.int (15 : Int32)), .val (.int (8 : Int32)), .val (.int (1 : Int32)), .val (.int (1 : Int32))]) at_100 rfl rfl ?_
        refine s_iload B X381 (pc' := 104) at_102 rfl rfl ?_
        refine s_ifN B X381 (pc' := 107) at_104 (by decide) rfl ?_
        refine s_iload B X381 (pc' := 109) at_107 rfl rfl ?_
        refine s_ifN B X381 (pc' := 112) at_109 (by decide) rfl ?_
        refine s_iconst B X381 (pc' := 113) (v := (1 : Int32)) at_112 rfl rfl ?_
        refine s_goto B X381 (pc' := 117) at_113 (by decide) (by decide) ?_
        exact r_nar B X381 (t := .boolean) (by simp) rfl at_117 ⟨rfl, (Fr.nil _)⟩ (by decide) (by decide)
      · refine p_static B X374 (y := mn0) (pc' := 15) (argsL := [(.int i2)]) (under := []) (W := 0) e374 (tw0 hw) (tw1 hw) (tw3 hw) (tw2 hw) (by decide) (rm_mode1 l Z a0 hw i2 hm375 w_SHARED w_WRITE w_MEMBERSHIP w_READ Z.heap F0) (lenOf pd_0 rfl) rfl rfl (by decide) (by decide) rfl rfl (by decide) (by decide) rfl at_12 rfl (fun T382 X382 e382 => ?_)
        show Go p e below _ (T382.setTop (mkF m 15 #[.val (.int i0), .val (.int i1), .val (.int i2), .val (.ref w_WRITE), .val (.ref w_MEMBERSHIP), .unset, .unset, .unset, .unset, .unset, .unset, .unset] [(.ref w_READ)]))
        refine s_astore B X382 (pc' := 17) (Ls' := #[.val (.int i0), .val (.int i1), .val (.int i2), .val (.ref w_WRITE), .val (.ref w_MEMBERSHIP), .val (.ref w_READ), .unset, .unset, .unset, .unset, .unset, .unset]) at_15 rfl rfl rfl ?_
        refine s_aloadN B X382 (pc' := 18) at_17 rfl rfl rfl ?_
        refine s_aload B X382 (pc' := 20) at_18 rfl rfl rfl ?_
        refine p_virtual B X382 (y := mn1) (pc' := 23) (argsL := [(.ref w_MEMBERSHIP)]) (under := []) (W := 0) e382 (tw11 hw) (tw12 hw) (tw14 hw) (tw13 hw) (tw15 hw) (tw5 hw) (by decide) (rm2_18 l Z a0 hw  w_SHARED w_WRITE w_MEMBERSHIP w_READ Z.heap F0 ) E_WRITE (lenOf pd_1 rfl) rfl rfl (by decide) (by decide) rfl rfl (by decide) (by decide) rfl at_20 rfl (fun T383 X383 e383 => ?_)
        show Go p e below _ (T383.setTop (mkF m 23 #[.val (.int i0), .val (.int i1), .val (.int i2), .val (.ref w_WRITE), .val (.ref w_MEMBERSHIP), .val (.ref w_READ), .unset, .unset, .unset, .unset, .unset, .unset] [(.ref w_WRITE)]))
        refine s_astore B X383 (pc' := 25) (Ls' := #[.val (.int i0), .val (.int i1), .val (.int i2), .val (.ref w_WRITE), .val (.ref w_MEMBERSHIP), .val (.ref w_READ), .val (.ref w_WRITE), .unset, .unset, .unset, .unset, .unset]) at_23 rfl rfl rfl ?_
        refine s_aload B X383 (pc' := 27) at_25 rfl rfl rfl ?_
        refine s_ifnonnullY B X383 (pc' := 32) at_27 (by decide) (by decide) ?_
        refine s_aloadN B X383 (pc' := 33) at_32 rfl rfl rfl ?_
        refine p_static B X383 (y := mn2) (pc' := 36) (argsL := [(.ref w_WRITE)]) (under := []) (W := 0) e383 (tw17 hw) (tw18 hw) (tw19 hw) (tw2 hw) (by decide) (rm3_4 l Z a0 hw  w_SHARED w_WRITE w_MEMBERSHIP w_READ Z.heap F0 ) (lenOf pd_2 rfl) rfl rfl (by decide) (by decide) rfl rfl (by decide) (by decide) rfl at_33 rfl (fun T384 X384 e384 => ?_)
        show Go p e below _ (T384.setTop (mkF m 36 #[.val (.int i0), .val (.int i1), .val (.int i2), .val (.ref w_WRITE), .val (.ref w_MEMBERSHIP), .val (.ref w_READ), .val (.ref w_WRITE), .unset, .unset, .unset, .unset, .unset] [(.int (15 : Int32))]))
        refine s_aload B X384 (pc' := 38) at_36 rfl rfl rfl ?_
        refine p_static B X384 (y := mn2) (pc' := 41) (argsL := [(.ref w_MEMBERSHIP)]) (under := [(.int (15 : Int32))]) (W := 1) e384 (tw17 hw) (tw18 hw) (tw19 hw) (tw2 hw) (by decide) (rm3_3 l Z a0 hw  w_SHARED w_WRITE w_MEMBERSHIP w_READ Z.heap F0 ) (lenOf pd_2 rfl) rfl rfl (by decide) (by decide) rfl rfl (by decide) (by decide) rfl at_38 rfl (fun T385 X385 e385 => ?_)
        show Go p e below _ (T385.setTop (mkF m 41 #[.val (.int i0), .val (.int i1), .val (.int i2), .val (.ref w_WRITE), .val (.ref w_MEMBERSHIP), .val (.ref w_READ), .val (.ref w_WRITE), .unset, .unset, .unset, .unset, .unset] [(.int (10 : Int32)), (.int (15 : Int32))]))
        refine s_ior B X385 (pc' := 42) (v := (15 : Int32)) at_41 rfl rfl ?_
        refine s_istore B X385 (pc' := 44) (Ls' := #[.val (.int i0), .val (.int i1), .val (.int i2), .val (.ref w_WRITE), .val (.ref w_MEMBERSHIP), .val (.ref w_READ), .val (.ref w_WRITE), .val (.int (15 : Int32)), .unset, .unset, .unset, .unset]) at_42 rfl rfl ?_
        refine s_aload B X385 (pc' := 46) at_44 rfl rfl rfl ?_
        refine p_static B X385 (y := mn2) (pc' := 49) (argsL := [(.ref w_WRITE)]) (under := []) (W := 0) e385 (tw17 hw) (tw18 hw) (tw19 hw) (tw2 hw) (by decide) (rm3_4 l Z a0 hw  w_SHARED w_WRITE w_MEMBERSHIP w_READ Z.heap F0 ) (lenOf pd_2 rfl) rfl rfl (by decide) (by decide) rfl rfl (by decide) (by decide) rfl at_46 rfl (fun T386 X386 e386 => ?_)
        show Go p e below _ (T386.setTop (mkF m 49 #[.val (.int i0), .val (.int i1), .val (.int i2), .val (.ref w_WRITE), .val (.ref w_MEMBERSHIP), .val (.ref w_READ), .val (.ref w_WRITE), .val (.int (15 : Int32)), .unset, .unset, .unset, .unset] [(.int (15 : Int32))]))
        refine s_istore B X386 (pc' := 51) (Ls' := #[.val (.int i0), .val (.int i1), .val (.int i2), .val (.ref w_WRITE), .val (.ref w_MEMBERSHIP), .val (.ref w_READ), .val (.ref w_WRITE), .val (.int (15 : Int32)), .val (.int (15 : Int32)), .unset, .unset, .unset]) at_49 rfl rfl ?_
        refine s_aload B X386 (pc' := 53) at_51 rfl rfl rfl ?_
        refine p_static B X386 (y := mn2) (pc' := 56) (argsL := [(.ref w_READ)]) (under := []) (W := 0) e386 (tw17 hw) (tw18 hw) (tw19 hw) (tw2 hw) (by decide) (rm3_2 l Z a0 hw  w_SHARED w_WRITE w_MEMBERSHIP w_READ Z.heap F0 ) (lenOf pd_2 rfl) rfl rfl (by decide) (by decide) rfl rfl (by decide) (by decide) rfl at_53 rfl (fun T387 X387 e387 => ?_)
        show Go p e below _ (T387.setTop (mkF m 56 #[.val (.int i0), .val (.int i1), .val (.int i2), .val (.ref w_WRITE), .val (.ref w_MEMBERSHIP), .val (.ref w_READ), .val (.ref w_WRITE), .val (.int (15 : Int32)), .val (.int (15 : Int32)), .unset, .unset, .unset] [(.int (12 : Int32))]))
        refine s_istore B X387 (pc' := 58) (Ls' := #[.val (.int i0), .val (.int i1), .val (.int i2), .val (.ref w_WRITE), .val (.ref w_MEMBERSHIP), .val (.ref w_READ), .val (.ref w_WRITE), .val (.int (15 : Int32)), .val (.int (15 : Int32)), .val (.int (12 : Int32)), .unset, .unset]) at_56 rfl rfl ?_
        refine s_iload B X387 (pc' := 60) at_58 rfl rfl ?_
        refine s_iload B X387 (pc' := 62) at_60 rfl rfl ?_
        refine s_iand B X387 (pc' := 63) (v := (15 : Int32)) at_62 rfl rfl ?_
        refine s_iload B X387 (pc' := 65) at_63 rfl rfl ?_
        refine s_icmpN B X387 (pc' := 68) at_65 (by decide) rfl ?_
        refine s_iconst B X387 (pc' := 69) (v := (1 : Int32)) at_68 rfl rfl ?_
        refine s_goto B X387 (pc' := 73) at_69 (by decide) (by decide) ?_
        refine s_istore B X387 (pc' := 75) (Ls' := #[.val (.int i0), .val (.int i1), .val (.int i2), .val (.ref w_WRITE), .val (.ref w_MEMBERSHIP), .val (.ref w_READ), .val (.ref w_WRITE), .val (.int (15 : Int32)), .val (.int (15 : Int32)), .val (.int (12 : Int32)), .val (.int (1 : Int32)), .unset]) at_73 rfl rfl ?_
        refine s_iload B X387 (pc' := 77) at_75 rfl rfl ?_
        refine s_iload B X387 (pc' := 79) at_77 rfl rfl ?_
        refine s_iand B X387 (pc' := 80) (v := (12 : Int32)) at_79 rfl rfl ?_
        refine s_iload B X387 (pc' := 82) at_80 rfl rfl ?_
        refine s_icmpY B X387 (pc' := 95) at_82 (by decide) (by decide) (by decide) ?_
        refine s_iconst B X387 (pc' := 96) (v := (1 : Int32)) at_95 rfl rfl ?_
        refine s_goto B X387 (pc' := 100) at_96 (by decide) (by decide) ?_
        refine s_istore B X387 (pc' := 102) (Ls' := #[.val (.int i0), .val (.int i1), .val (.int i2), .val (.ref w_WRITE), .val (.ref w_MEMBERSHIP), .val (.ref w_READ), .val (.ref w_WRITE), .val (.int (15 : Int32)), .val (.int (15 : Int32)), .val (.int (12 : Int32)), .val (.int (1 : Int32)), .val (.int (1 : Int32))]) at_100 rfl rfl ?_
        refine s_iload B X387 (pc' := 104) at_102 rfl rfl ?_
        refine s_ifN B X387 (pc' := 107) at_104 (by decide) rfl ?_
        refine s_iload B X387 (pc' := 109) at_107 rfl rfl ?_
        refine s_ifN B X387 (pc' := 112) at_109 (by decide) rfl ?_
        refine s_iconst B X387 (pc' := 113) (v := (1 : Int32)) at_112 rfl rfl ?_
        refine s_goto B X387 (pc' := 117) at_113 (by decide) (by decide) ?_
        exact r_nar B X387 (t := .boolean) (by simp) rfl at_117 ⟨rfl, (Fr.nil _)⟩ (by decide) (by decide)
      · refine p_static B X374 (y := mn0) (pc' := 15) (argsL := [(.int i2)]) (under := []) (W := 0) e374 (tw0 hw) (tw1 hw) (tw3 hw) (tw2 hw) (by decide) (rm_mode2 l Z a0 hw i2 hm375 w_SHARED w_WRITE w_MEMBERSHIP w_READ Z.heap F0) (lenOf pd_0 rfl) rfl rfl (by decide) (by decide) rfl rfl (by decide) (by decide) rfl at_12 rfl (fun T388 X388 e388 => ?_)
        show Go p e below _ (T388.setTop (mkF m 15 #[.val (.int i0), .val (.int i1), .val (.int i2), .val (.ref w_WRITE), .val (.ref w_MEMBERSHIP), .unset, .unset, .unset, .unset, .unset, .unset, .unset] [(.ref w_MEMBERSHIP)]))
        refine s_astore B X388 (pc' := 17) (Ls' := #[.val (.int i0), .val (.int i1), .val (.int i2), .val (.ref w_WRITE), .val (.ref w_MEMBERSHIP), .val (.ref w_MEMBERSHIP), .unset, .unset, .unset, .unset, .unset, .unset]) at_15 rfl rfl rfl ?_
        refine s_aloadN B X388 (pc' := 18) at_17 rfl rfl rfl ?_
        refine s_aload B X388 (pc' := 20) at_18 rfl rfl rfl ?_
        refine p_virtual B X388 (y := mn1) (pc' := 23) (argsL := [(.ref w_MEMBERSHIP)]) (under := []) (W := 0) e388 (tw11 hw) (tw12 hw) (tw14 hw) (tw13 hw) (tw15 hw) (tw5 hw) (by decide) (rm2_18 l Z a0 hw  w_SHARED w_WRITE w_MEMBERSHIP w_READ Z.heap F0 ) E_WRITE (lenOf pd_1 rfl) rfl rfl (by decide) (by decide) rfl rfl (by decide) (by decide) rfl at_20 rfl (fun T389 X389 e389 => ?_)
        show Go p e below _ (T389.setTop (mkF m 23 #[.val (.int i0), .val (.int i1), .val (.int i2), .val (.ref w_WRITE), .val (.ref w_MEMBERSHIP), .val (.ref w_MEMBERSHIP), .unset, .unset, .unset, .unset, .unset, .unset] [(.ref w_WRITE)]))
        refine s_astore B X389 (pc' := 25) (Ls' := #[.val (.int i0), .val (.int i1), .val (.int i2), .val (.ref w_WRITE), .val (.ref w_MEMBERSHIP), .val (.ref w_MEMBERSHIP), .val (.ref w_WRITE), .unset, .unset, .unset, .unset, .unset]) at_23 rfl rfl rfl ?_
        refine s_aload B X389 (pc' := 27) at_25 rfl rfl rfl ?_
        refine s_ifnonnullY B X389 (pc' := 32) at_27 (by decide) (by decide) ?_
        refine s_aloadN B X389 (pc' := 33) at_32 rfl rfl rfl ?_
        refine p_static B X389 (y := mn2) (pc' := 36) (argsL := [(.ref w_WRITE)]) (under := []) (W := 0) e389 (tw17 hw) (tw18 hw) (tw19 hw) (tw2 hw) (by decide) (rm3_4 l Z a0 hw  w_SHARED w_WRITE w_MEMBERSHIP w_READ Z.heap F0 ) (lenOf pd_2 rfl) rfl rfl (by decide) (by decide) rfl rfl (by decide) (by decide) rfl at_33 rfl (fun T390 X390 e390 => ?_)
        show Go p e below _ (T390.setTop (mkF m 36 #[.val (.int i0), .val (.int i1), .val (.int i2), .val (.ref w_WRITE), .val (.ref w_MEMBERSHIP), .val (.ref w_MEMBERSHIP), .val (.ref w_WRITE), .unset, .unset, .unset, .unset, .unset] [(.int (15 : Int32))]))
        refine s_aload B X390 (pc' := 38) at_36 rfl rfl rfl ?_
        refine p_static B X390 (y := mn2) (pc' := 41) (argsL := [(.ref w_MEMBERSHIP)]) (under := [(.int (15 : Int32))]) (W := 1) e390 (tw17 hw) (tw18 hw) (tw19 hw) (tw2 hw) (by decide) (rm3_3 l Z a0 hw  w_SHARED w_WRITE w_MEMBERSHIP w_READ Z.heap F0 ) (lenOf pd_2 rfl) rfl rfl (by decide) (by decide) rfl rfl (by decide) (by decide) rfl at_38 rfl (fun T391 X391 e391 => ?_)
        show Go p e below _ (T391.setTop (mkF m 41 #[.val (.int i0), .val (.int i1), .val (.int i2), .val (.ref w_WRITE), .val (.ref w_MEMBERSHIP), .val (.ref w_MEMBERSHIP), .val (.ref w_WRITE), .unset, .unset, .unset, .unset, .unset] [(.int (10 : Int32)), (.int (15 : Int32))]))
        refine s_ior B X391 (pc' := 42) (v := (15 : Int32)) at_41 rfl rfl ?_
        refine s_istore B X391 (pc' := 44) (Ls' := #[.val (.int i0), .val (.int i1), .val (.int i2), .val (.ref w_WRITE), .val (.ref w_MEMBERSHIP), .val (.ref w_MEMBERSHIP), .val (.ref w_WRITE), .val (.int (15 : Int32)), .unset, .unset, .unset, .unset]) at_42 rfl rfl ?_
        refine s_aload B X391 (pc' := 46) at_44 rfl rfl rfl ?_
        refine p_static B X391 (y := mn2) (pc' := 49) (argsL := [(.ref w_WRITE)]) (under := []) (W := 0) e391 (tw17 hw) (tw18 hw) (tw19 hw) (tw2 hw) (by decide) (rm3_4 l Z a0 hw  w_SHARED w_WRITE w_MEMBERSHIP w_READ Z.heap F0 ) (lenOf pd_2 rfl) rfl rfl (by decide) (by decide) rfl rfl (by decide) (by decide) rfl at_46 rfl (fun T392 X392 e392 => ?_)
        show Go p e below _ (T392.setTop (mkF m 49 #[.val (.int i0), .val (.int i1), .val (.int i2), .val (.ref w_WRITE), .val (.ref w_MEMBERSHIP), .val (.ref w_MEMBERSHIP), .val (.ref w_WRITE), .val (.int (15 : Int32)), .unset, .unset, .unset, .unset] [(.int (15 : Int32))]))
        refine s_istore B X392 (pc' := 51) (Ls' := #[.val (.int i0), .val (.int i1), .val (.int i2), .val (.ref w_WRITE), .val (.ref w_MEMBERSHIP), .val (.ref w_MEMBERSHIP), .val (.ref w_WRITE), .val (.int (15 : Int32)), .val (.int (15 : Int32)), .unset, .unset, .unset]) at_49 rfl rfl ?_
        refine s_aload B X392 (pc' := 53) at_51 rfl rfl rfl ?_
        refine p_static B X392 (y := mn2) (pc' := 56) (argsL := [(.ref w_MEMBERSHIP)]) (under := []) (W := 0) e392 (tw17 hw) (tw18 hw) (tw19 hw) (tw2 hw) (by decide) (rm3_3 l Z a0 hw  w_SHARED w_WRITE w_MEMBERSHIP w_READ Z.heap F0 ) (lenOf pd_2 rfl) rfl rfl (by decide) (by decide) rfl rfl (by decide) (by decide) rfl at_53 rfl (fun T393 X393 e393 => ?_)
        show Go p e below _ (T393.setTop (mkF m 56 #[.val (.int i0), .val (.int i1), .val (.int i2), .val (.ref w_WRITE), .val (.ref w_MEMBERSHIP), .val (.ref w_MEMBERSHIP), .val (.ref w_WRITE), .val (.int (15 : Int32)), .val (.int (15 : Int32)), .unset, .unset, .unset] [(.int (10 : Int32))]))
        refine s_istore B X393 (pc' := 58) (Ls' := #[.val (.int i0), .val (.int i1), .val (.int i2), .val (.ref w_WRITE), .val (.ref w_MEMBERSHIP), .val (.ref w_MEMBERSHIP), .val (.ref w_WRITE), .val (.int (15 : Int32)), .val (.int (15 : Int32)), .val (.int (10 : Int32)), .unset, .unset]) at_56 rfl rfl ?_
        refine s_iload B X393 (pc' := 60) at_58 rfl rfl ?_
        refine s_iload B X393 (pc' := 62) at_60 rfl rfl ?_
        refine s_iand B X393 (pc' := 63) (v := (15 : Int32)) at_62 rfl rfl ?_
        refine s_iload B X393 (pc' := 65) at_63 rfl rfl ?_
        refine s_icmpN B X393 (pc' := 68) at_65 (by decide) rfl ?_
        refine s_iconst B X393 (pc' := 69) (v := (1 : Int32)) at_68 rfl rfl ?_
        refine s_goto B X393 (pc' := 73) at_69 (by decide) (by decide) ?_
        refine s_istore B X393 (pc' := 75) (Ls' := #[.val (.int i0), .val (.int i1), .val (.int i2), .val (.ref w_WRITE), .val (.ref w_MEMBERSHIP), .val (.ref w_MEMBERSHIP), .val (.ref w_WRITE), .val (.int (15 : Int32)), .val (.int (15 : Int32)), .val (.int (10 : Int32)), .val (.int (1 : Int32)), .unset]) at_73 rfl rfl ?_
        refine s_iload B X393 (pc' := 77) at_75 rfl rfl ?_
        refine s_iload B X393 (pc' := 79) at_77 rfl rfl ?_
        refine s_iand B X393 (pc' := 80) (v := (10 : Int32)) at_79 rfl rfl ?_
        refine s_iload B X393 (pc' := 82) at_80 rfl rfl ?_
        refine s_icmpY B X393 (pc' := 95) at_82 (by decide) (by decide) (by decide) ?_
        refine s_iconst B X393 (pc' := 96) (v := (1 : Int32)) at_95 rfl rfl ?_
        refine s_goto B X393 (pc' := 100) at_96 (by decide) (by decide) ?_
        refine s_istore B X393 (pc' := 102) (Ls' := #[.val (.int i0), .val (.int i1), .val (.int i2), .val (.ref w_WRITE), .val (.ref w_MEMBERSHIP), .val (.ref w_MEMBERSHIP), .val (.ref w_WRITE), .val (.int (15 : Int32)), .val (.int (15 : Int32)), .val (.int (10 : Int32)), .val (.int (1 : Int32)), .val (.int (1 : Int32))]) at_100 rfl rfl ?_
        refine s_iload B X393 (pc' := 104) at_102 rfl rfl ?_
        refine s_ifN B X393 (pc' := 107) at_104 (by decide) rfl ?_
        refine s_iload B X393 (pc' := 109) at_107 rfl rfl ?_
        refine s_ifN B X393 (pc' := 112) at_109 (by decide) rfl ?_
        refine s_iconst B X393 (pc' := 113) (v := (1 : Int32)) at_112 rfl rfl ?_
        refine s_goto B X393 (pc' := 117) at_113 (by decide) (by decide) ?_
        exact r_nar B X393 (t := .boolean) (by simp) rfl at_117 ⟨rfl, (Fr.nil _)⟩ (by decide) (by decide)
      · refine p_static B X374 (y := mn0) (pc' := 15) (argsL := [(.int i2)]) (under := []) (W := 0) e374 (tw0 hw) (tw1 hw) (tw3 hw) (tw2 hw) (by decide) (rm_mode3 l Z a0 hw i2 hm375 w_SHARED w_WRITE w_MEMBERSHIP w_READ Z.heap F0) (lenOf pd_0 rfl) rfl rfl (by decide) (by decide) rfl rfl (by decide) (by decide) rfl at_12 rfl (fun T394 X394 e394 => ?_)
        show Go p e below _ (T394.setTop (mkF m 15 #[.val (.int i0), .val (.int i1), .val (.int i2), .val (.ref w_WRITE), .val (.ref w_MEMBERSHIP), .unset, .unset, .unset, .unset, .unset, .unset, .unset] [(.ref w_WRITE)]))
        refine s_astore B X394 (pc' := 17) (Ls' := #[.val (.int i0), .val (.int i1), .val (.int i2), .val (.ref w_WRITE), .val (.ref w_MEMBERSHIP), .val (.ref w_WRITE), .unset, .unset, .unset, .unset, .unset, .unset]) at_15 rfl rfl rfl ?_
        refine s_aloadN B X394 (pc' := 18) at_17 rfl rfl rfl ?_
        refine s_aload B X394 (pc' := 20) at_18 rfl rfl rfl ?_
        refine p_virtual B X394 (y := mn1) (pc' := 23) (argsL := [(.ref w_MEMBERSHIP)]) (under := []) (W := 0) e394 (tw11 hw) (tw12 hw) (tw14 hw) (tw13 hw) (tw15 hw) (tw5 hw) (by decide) (rm2_18 l Z a0 hw  w_SHARED w_WRITE w_MEMBERSHIP w_READ Z.heap F0 ) E_WRITE (lenOf pd_1 rfl) rfl rfl (by decide) (by decide) rfl rfl (by decide) (by decide) rfl at_20 rfl (fun T395 X395 e395 => ?_)
        show Go p e below _ (T395.setTop (mkF m 23 #[.val (.int i0), .val (.int i1), .val (.int i2), .val (.ref w_WRITE), .val (.ref w_MEMBERSHIP), .val (.ref w_WRITE), .unset, .unset, .unset, .unset, .unset, .unset] [(.ref w_WRITE)]))
        refine s_astore B X395 (pc' := 25) (Ls' := #[.val (.int i0), .val (.int i1), .val (.int i2), .val (.ref w_WRITE), .val (.ref w_MEMBERSHIP), .val (.ref w_WRITE), .val (.ref w_WRITE), .unset, .unset, .unset, .unset, .unset]) at_23 rfl rfl rfl ?_
        refine s_aload B X395 (pc' := 27) at_25 rfl rfl rfl ?_
        refine s_ifnonnullY B X395 (pc' := 32) at_27 (by decide) (by decide) ?_
        refine s_aloadN B X395 (pc' := 33) at_32 rfl rfl rfl ?_
        refine p_static B X395 (y := mn2) (pc' := 36) (argsL := [(.ref w_WRITE)]) (under := []) (W := 0) e395 (tw17 hw) (tw18 hw) (tw19 hw) (tw2 hw) (by decide) (rm3_4 l Z a0 hw  w_SHARED w_WRITE w_MEMBERSHIP w_READ Z.heap F0 ) (lenOf pd_2 rfl) rfl rfl (by decide) (by decide) rfl rfl (by decide) (by decide) rfl at_33 rfl (fun T396 X396 e396 => ?_)
        show Go p e below _ (T396.setTop (mkF m 36 #[.val (.int i0), .val (.int i1), .val (.int i2), .val (.ref w_WRITE), .val (.ref w_MEMBERSHIP), .val (.ref w_WRITE), .val (.ref w_WRITE), .unset, .unset, .unset, .unset, .unset] [(.int (15 : Int32))]))
        refine s_aload B X396 (pc' := 38) at_36 rfl rfl rfl ?_
        refine p_static B X396 (y := mn2) (pc' := 41) (argsL := [(.ref w_MEMBERSHIP)]) (under := [(.int (15 : Int32))]) (W := 1) e396 (tw17 hw) (tw18 hw) (tw19 hw) (tw2 hw) (by decide) (rm3_3 l Z a0 hw  w_SHARED w_WRITE w_MEMBERSHIP w_READ Z.heap F0 ) (lenOf pd_2 rfl) rfl rfl (by decide) (by decide) rfl rfl (by decide) (by decide) rfl at_38 rfl (fun T397 X397 e397 => ?_)
        show Go p e below _ (T397.setTop (mkF m 41 #[.val (.int i0), .val (.int i1), .val (.int i2), .val (.ref w_WRITE), .val (.ref w_MEMBERSHIP), .val (.ref w_WRITE), .val (.ref w_WRITE), .unset, .unset, .unset, .unset, .unset] [(.int (10 : Int32)), (.int (15 : Int32))]))
        refine s_ior B X397 (pc' := 42) (v := (15 : Int32)) at_41 rfl rfl ?_
        refine s_istore B X397 (pc' := 44) (Ls' := #[.val (.int i0), .val (.int i1), .val (.int i2), .val (.ref w_WRITE), .val (.ref w_MEMBERSHIP), .val (.ref w_WRITE), .val (.ref w_WRITE), .val (.int (15 : Int32)), .unset, .unset, .unset, .unset]) at_42 rfl rfl ?_
        refine s_aload B X397 (pc' := 46) at_44 rfl rfl rfl ?_
        refine p_static B X397 (y := mn2) (pc' := 49) (argsL := [(.ref w_WRITE)]) (under := []) (W := 0) e397 (tw17 hw) (tw18 hw) (tw19 hw) (tw2 hw) (by decide) (rm3_4 l Z a0 hw  w_SHARED w_WRITE w_MEMBERSHIP w_READ Z.heap F0 ) (lenOf pd_2 rfl) rfl rfl (by decide) (by decide) rfl rfl (by decide) (by decide) rfl at_46 rfl (fun T398 X398 e398 => ?_)
        show Go p e below _ (T398.setTop (mkF m 49 #[.val (.int i0), .val (.int i1), .val (.int i2), .val (.ref w_WRITE), .val (.ref w_MEMBERSHIP), .val (.ref w_WRITE), .val (.ref w_WRITE), .val (.int (15 : Int32)), .unset, .unset, .unset, .unset] [(.int (15 : Int32))]))
        refine s_istore B X398 (pc' := 51) (Ls' := #[.val (.int i0), .val (.int i1), .val (.int i2), .val (.ref w_WRITE), .val (.ref w_MEMBERSHIP), .val (.ref w_WRITE), .val (.ref w_WRITE), .val (.int (15 : Int32)), .val (.int (15 : Int32)), .unset, .unset, .unset]) at_49 rfl rfl ?_
        refine s_aload B X398 (pc' := 53) at_51 rfl rfl rfl ?_
        refine p_static B X398 (y := mn2) (pc' := 56) (argsL := [(.ref w_WRITE)]) (under := []) (W := 0) e398 (tw17 hw) (tw18 hw) (tw19 hw) (tw2 hw) (by decide) (rm3_4 l Z a0 hw  w_SHARED w_WRITE w_MEMBERSHIP w_READ Z.heap F0 ) (lenOf pd_2 rfl) rfl rfl (by decide) (by decide) rfl rfl (by decide) (by decide) rfl at_53 rfl (fun T399 X399 e399 => ?_)
        show Go p e below _ (T399.setTop (mkF m 56 #[.val (.int i0), .val (.int i1), .val (.int i2), .val (.ref w_WRITE), .val (.ref w_MEMBERSHIP), .val (.ref w_WRITE), .val (.ref w_WRITE), .val (.int (15 : Int32)), .val (.int (15 : Int32)), .unset, .unset, .unset] [(.int (15 : Int32))]))
        refine s_istore B X399 (pc' := 58) (Ls' := #[.val (.int i0), .val (.int i1), .val (.int i2), .val (.ref w_WRITE), .val (.ref w_MEMBERSHIP), .val (.ref w_WRITE), .val (.ref w_WRITE), .val (.int (15 : Int32)), .val (.int (15 : Int32)), .val (.int (15 : Int32)), .unset, .unset]) at_56 rfl rfl ?_
        refine s_iload B X399 (pc' := 60) at_58 rfl rfl ?_
        refine s_iload B X399 (pc' := 62) at_60 rfl rfl ?_
        refine s_iand B X399 (pc' := 63) (v := (15 : Int32)) at_62 rfl rfl ?_
        refine s_iload B X399 (pc' := 65) at_63 rfl rfl ?_
        refine s_icmpN B X399 (pc' := 68) at_65 (by decide) rfl ?_
        refine s_iconst B X399 (pc' := 69) (v := (1 : Int32)) at_68 rfl rfl ?_
        refine s_goto B X399 (pc' := 73) at_69 (by decide) (by decide) ?_
        refine s_istore B X399 (pc' := 75) (Ls' := #[.val (.int i0), .val (.int i1), .val (.int i2), .val (.ref w_WRITE), .val (.ref w_MEMBERSHIP), .val (.ref w_WRITE), .val (.ref w_WRITE), .val (.int (15 : Int32)), .val (.int (15 : Int32)), .val (.int (15 : Int32)), .val (.int (1 : Int32)), .unset]) at_73 rfl rfl ?_
        refine s_iload B X399 (pc' := 77) at_75 rfl rfl ?_
        refine s_iload B X399 (pc' := 79) at_77 rfl rfl ?_
        refine s_iand B X399 (pc' := 80) (v := (15 : Int32)) at_79 rfl rfl ?_
        refine s_iload B X399 (pc' := 82) at_80 rfl rfl ?_
        refine s_icmpN B X399 (pc' := 85) at_82 (by decide) rfl ?_
        refine s_iload B X399 (pc' := 87) at_85 rfl rfl ?_
        refine s_iload B X399 (pc' := 89) at_87 rfl rfl ?_
        refine s_iand B X399 (pc' := 90) (v := (15 : Int32)) at_89 rfl rfl ?_
        refine s_iload B X399 (pc' := 92) at_90 rfl rfl ?_
        refine s_icmpN B X399 (pc' := 95) at_92 (by decide) rfl ?_
        refine s_iconst B X399 (pc' := 96) (v := (1 : Int32)) at_95 rfl rfl ?_
        refine s_goto B X399 (pc' := 100) at_96 (by decide) (by decide) ?_
        refine s_istore B X399 (pc' := 102) (Ls' := #[.val (.int i0), .val (.int i1), .val (.int i2), .val (.ref w_WRITE), .val (.ref w_MEMBERSHIP), .val (.ref w_WRITE), .val (.ref w_WRITE), .val (.int (15 : Int32)), .val (.int (15 : Int32)), .val (.int (15 : Int32)), .val (.int (1 : Int32)), .val (.int (1 : Int32))]) at_100 rfl rfl ?_
        refine s_iload B X399 (pc' := 104) at_102 rfl rfl ?_
        refine s_ifN B X399 (pc' := 107) at_104 (by decide) rfl ?_
        refine s_iload B X399 (pc' := 109) at_107 rfl rfl ?_
        refine s_ifN B X399 (pc' := 112) at_109 (by decide) rfl ?_
        refine s_iconst B X399 (pc' := 113) (v := (1 : Int32)) at_112 rfl rfl ?_
        refine s_goto B X399 (pc' := 117) at_113 (by decide) (by decide) ?_
        exact r_nar B X399 (t := .boolean) (by simp) rfl at_117 ⟨rfl, (Fr.nil _)⟩ (by decide) (by decide)
    · refine p_static B X320 (y := mn0) (pc' := 9) (argsL := [(.int i1)]) (under := []) (W := 0) e320 (tw0 hw) (tw1 hw) (tw3 hw) (tw2 hw) (by decide) (rm_mode3 l Z a0 hw i1 hm321 w_SHARED w_WRITE w_MEMBERSHIP w_READ Z.heap F0) (lenOf pd_0 rfl) rfl rfl (by decide) (by decide) rfl rfl (by decide) (by decide) rfl at_6 rfl (fun T400 X400 e400 => ?_)
      show Go p e below _ (T400.setTop (mkF m 9 #[.val (.int i0), .val (.int i1), .val (.int i2), .val (.ref w_WRITE), .unset, .unset, .unset, .unset, .unset, .unset, .unset, .unset] [(.ref w_WRITE)]))
      refine s_astore B X400 (pc' := 11) (Ls' := #[.val (.int i0), .val (.int i1), .val (.int i2), .val (.ref w_WRITE), .val (.ref w_WRITE), .unset, .unset, .unset, .unset, .unset, .unset, .unset]) at_9 rfl rfl rfl ?_
      refine s_iloadN B X400 (pc' := 12) at_11 rfl rfl ?_
      rcases own_and3 i2 with hm401 | hm401 | hm401 | hm401
      · refine p_static B X400 (y := mn0) (pc' := 15) (argsL := [(.int i2)]) (under := []) (W := 0) e400 (tw0 hw) (tw1 hw) (tw3 hw) (tw2 hw) (by decide) (rm_mode0 l Z a0 hw i2 hm401 w_SHARED w_WRITE w_MEMBERSHIP w_READ Z.heap F0) (lenOf pd_0 rfl) rfl rfl (by decide) (by decide) rfl rfl (by decide) (by decide) rfl at_12 rfl (fun T402 X402 e402 => ?_)
        show Go p e below _ (T402.setTop (mkF m 15 #[.val (.int i0), .val (.int i1), .val (.int i2), .val (.ref w_WRITE), .val (.ref w_WRITE), .unset, .unset, .unset, .unset, .unset, .unset, .unset] [(.ref w_SHARED)]))
        refine s_astore B X402 (pc' := 17) (Ls' := #[.val (.int i0), .val (.int i1), .val (.int i2), .val (.ref w_WRITE), .val (.ref w_WRITE), .val (.ref w_SHARED), .unset, .unset, .unset, .unset, .unset, .unset]) at_15 rfl rfl rfl ?_
        refine s_aloadN B X402 (pc' := 18) at_17 rfl rfl rfl ?_
        refine s_aload B X402 (pc' := 20) at_18 rfl rfl rfl ?_
        refine p_virtual B X402 (y := mn1) (pc' := 23) (argsL := [(.ref w_WRITE)]) (under := []) (W := 0) e402 (tw11 hw) (tw12 hw) (tw14 hw) (tw13 hw) (tw15 hw) (tw5 hw) (by decide) (rm2_19 l Z a0 hw  w_SHARED w_WRITE w_MEMBERSHIP w_READ Z.heap F0 ) E_WRITE (lenOf pd_1 rfl) rfl rfl (by decide) (by decide) rfl rfl (by decide) (by decide) rfl at_20 rfl (fun T403 X403 e403 => ?_)
        show Go p e below _ (T403.setTop (mkF m 23 #[.val (.int i0), .val (.int i1), .val (.int i2), .val (.ref w_WRITE), .val (.ref w_WRITE), .val (.ref w_SHARED), .unset, .unset, .unset, .unset, .unset, .unset] [(.ref w_WRITE)]))
        refine s_astore B X403 (pc' := 25) (Ls' := #[.val (.int i0), .val (.int i1), .val (.int i2), .val (.ref w_WRITE), .val (.ref w_WRITE), .val (.ref w_SHARED), .val (.ref w_WRITE), .unset, .unset, .unset, .unset, .unset]) at_23 rfl rfl rfl ?_
        refine s_aload B X403 (pc' := 27) at_25 rfl rfl rfl ?_
        refine s_ifnonnullY B X403 (pc' := 32) at_27 (by decide) (by decide) ?_
        refine s_aloadN B X403 (pc' := 33) at_32 rfl rfl rfl ?_
        refine p_static B X403 (y := mn2) (pc' := 36) (argsL := [(.ref w_WRITE)]) (under := []) (W := 0) e403 (tw17 hw) (tw18 hw) (tw19 hw) (tw2 hw) (by decide) (rm3_4 l Z a0 hw  w_SHARED w_WRITE w_MEMBERSHIP w_READ Z.heap F0 ) (lenOf pd_2 rfl) rfl rfl (by decide) (by decide) rfl rfl (by decide) (by decide) rfl at_33 rfl (fun T404 X404 e404 => ?_)
        show Go p e below _ (T404.setTop (mkF m 36 #[.val (.int i0), .val (.int i1), .val (.int i2), .val (.ref w_WRITE), .val (.ref w_WRITE), .val (.ref w_SHARED), .val (.ref w_WRITE), .unset, .unset, .unset, .unset, .unset] [(.int (15 : Int32))]))
        refine s_aload B X404 (pc' := 38) at_36 rfl rfl rfl ?_
        refine p_static B X404 (y := mn2) (pc' := 41) (argsL := [(.ref w_WRITE)]) (under := [(.int (15 : Int32))]) (W := 1) e404 (tw17 hw) (tw18 hw) (tw19 hw) (tw2 hw) (by decide) (rm3_4 l Z a0 hw  w_SHARED w_WRITE w_MEMBERSHIP w_READ Z.heap F0 ) (lenOf pd_2 rfl) rfl rfl (by decide) (by decide) rfl rfl (by decide) (by decide) rfl at_38 rfl (fun T405 X405 e405 => ?_)
        show Go p e below _ (T405.setTop (mkF m 41 #[.val (.int i0), .val (.int i1), .val (.int i2), .val (.ref w_WRITE), .val (.ref w_WRITE), .val (.ref w_SHARED), .val (.ref w_WRITE), .unset, .unset, .unset, .unset, .unset] [(.int (15 : Int32)), (.int (15 : Int32))]))
        refine s_ior B X405 (pc' := 42) (v := (15 : Int32)) at_41 rfl rfl ?_
        refine s_istore B X405 (pc' := 44) (Ls' := #[.val (.int i0), .val (.int i1), .val (.int i2), .val (.ref w_WRITE), .val (.ref w_WRITE), .val (.ref w_SHARED), .val (.ref w_WRITE), .val (.int (15 : Int32)), .unset, .unset, .unset, .unset]) at_42 rfl rfl ?_
        refine s_aload B X405 (pc' := 46) at_44 rfl rfl rfl ?_
        refine p_static B X405 (y := mn2) (pc' := 49) (argsL := [(.ref w_WRITE)]) (under := []) (W := 0) e405 (tw17 hw) (tw18 hw) (tw19 hw) (tw2 hw) (by decide) (rm3_4 l Z a0 hw  w_SHARED w_WRITE w_MEMBERSHIP w_READ Z.heap F0 ) (lenOf pd_2 rfl) rfl rfl (by decide) (by decide) rfl rfl (by decide) (by decide) rfl at_46 rfl (fun T406 X406 e406 => ?_)
        show Go p e below _ (T406.setTop (mkF m 49 #[.val (.int i0), .val (.int i1), .val (.int i2), .val (.ref w_WRITE), .val (.ref w_WRITE), .val (.ref w_SHARED), .val (.ref w_WRITE), .val (.int (15 : Int32)), .unset, .unset, .unset, .unset] [(.int (15 : Int32))]))
        refine s_istore B X406 (pc' := 51) (Ls' := #[.val (.int i0), .val (.int i1), .val (.int i2), .val (.ref w_WRITE), .val (.ref w_WRITE), .val (.ref w_SHARED), .val (.ref w_WRITE), .val (.int (15 : Int32)), .val (.int (15 : Int32)), .unset, .unset, .unset]) at_49 rfl rfl ?_
        refine s_aload B X406 (pc' := 53) at_51 rfl rfl rfl ?_
        refine p_static B X406 (y := mn2) (pc' := 56) (argsL := [(.ref w_SHARED)]) (under := []) (W := 0) e406 (tw17 hw) (tw18 hw) (tw19 hw) (tw2 hw) (by decide) (rm3_1 l Z a0 hw  w_SHARED w_WRITE w_MEMBERSHIP w_READ Z.heap F0 ) (lenOf pd_2 rfl) rfl rfl (by decide) (by decide) rfl rfl (by decide) (by decide) rfl at_53 rfl (fun T407 X407 e407 => ?_)
        show Go p e below _ (T407.setTop (mkF m 56 #[.val (.int i0), .val (.int i1), .val (.int i2), .val (.ref w_WRITE), .val (.ref w_WRITE), .val (.ref w_SHARED), .val (.ref w_WRITE), .val (.int (15 : Int32)), .val (.int (15 : Int32)), .unset, .unset, .unset] [(.int (8 : Int32))]))
        refine s_istore B X407 (pc' := 58) (Ls' := #[.val (.int i0), .val (.int i1), .val (.int i2), .val (.ref w_WRITE), .val (.ref w_WRITE), .val (.ref w_SHARED), .val (.ref w_WRITE), .val (.int (15 : Int32)), .val (.int (15 : Int32)), .val (.int (8 : Int32)), .unset, .unset]) at_56 rfl rfl ?_
        refine s_iload B X407 (pc' := 60) at_58 rfl rfl ?_
        refine s_iload B X407 (pc' := 62) at_60 rfl rfl ?_
        refine s_iand B X407 (pc' := 63) (v := (15 : Int32)) at_62 rfl rfl ?_
        refine s_iload B X407 (pc' := 65) at_63 rfl rfl ?_
        refine s_icmpN B X407 (pc' := 68) at_65 (by decide) rfl ?_
        refine s_iconst B X407 (pc' := 69) (v := (1 : Int32)) at_68 rfl rfl ?_
        refine s_goto B X407 (pc' := 73) at_69 (by decide) (by decide) ?_
        refine s_istore B X407 (pc' := 75) (Ls' := #[.val (.int i0), .val (.int i1), .val (.int i2), .val (.ref w_WRITE), .val (.ref w_WRITE), .val (.ref w_SHARED), .val (.ref w_WRITE), .val (.int (15 : Int32)), .val (.int (15 : Int32)), .val (.int (8 : Int32)), .val (.int (1 : Int32)), .unset]) at_73 rfl rfl ?_
        refine s_iload B X407 (pc' := 77) at_75 rfl rfl ?_
        refine s_iload B X407 (pc' := 79) at_77 rfl rfl ?_
        refine s_iand B X407 (pc' := 80) (v := (8 : Int32)) at_79 rfl rfl ?_
        refine s_iload B X407 (pc' := 82) at_80 rfl rfl ?_
        refine s_icmpY B X407 (pc' := 95) at_82 (by decide) (by decide) (by decide) ?_
        refine s_iconst B X407 (pc' := 96) (v := (1 : Int32)) at_95 rfl rfl ?_
        refine s_goto B X407 (pc' := 100) at_96 (by decide) (by decide) ?_
        refine s_istore B X407 (pc' := 102) (Ls' := #[.val (.int i0), .val (.int i1), .val (.int i2), .val (.ref w_WRITE), .val (.ref w_WRITE), .val (.ref w_SHARED), .val (.ref w_WRITE), .val (.int (15 : Int32)), .val (.int (15 : Int32)), .val (.int (8 : Int32)), .val (.int (1 : Int32)), .val (.int (1 : Int32))]) at_100 rfl rfl ?_
        refine s_iload B X407 (pc' := 104) at_102 rfl rfl ?_
        refine s_ifN B X407 (pc' := 107) at_104 (by decide) rfl ?_
        refine s_iload B X407 (pc' := 109) at_107 rfl rfl ?_
        refine s_ifN B X407 (pc' := 112) at_109 (by decide) rfl ?_
        refine s_iconst B X407 (pc' := 113) (v := (1 : Int32)) at_112 rfl rfl ?_
        refine s_goto B X407 (pc' := 117) at_113 (by decide) (by decide) ?_
        exact r_nar B X407 (t := .boolean) (by simp) rfl at_117 ⟨rfl, (Fr.nil _)⟩ (by decide) (by decide)
      · refine p_static B X400 (y := mn0) (pc' := 15) (argsL := [(.int i2)]) (under := []) (W := 0) e400 (tw0 hw) (tw1 hw) (tw3 hw) (tw2 hw) (by decide) (rm_mode1 l Z a0 hw i2 hm401 w_SHARED w_WRITE w_MEMBERSHIP w_READ Z.heap F0) (lenOf pd_0 rfl) rfl rfl (by decide) (by decide) rfl rfl (by decide) (by decide) rfl at_12 rfl (fun T408 X408 e408 => ?_)
        show Go p e below _ (T408.setTop (mkF m 15 #[.val (.int i0), .val (.int i1), .val (.int i2), .val (.ref w_WRITE), .val (.ref w_WRITE), .unset, .unset, .unset, .unset, .unset, .unset, .unset] [(.ref w_READ)]))
        refine s_astore B X408 (pc' := 17) (Ls' := #[.val (.int i0), .val (.int i1), .val (.int i2), .val (.ref w_WRITE), .val (.ref w_WRITE), .val (.ref w_READ), .unset, .unset, .unset, .unset, .unset, .unset]) at_15 rfl rfl rfl ?_
        refine s_aloadN B X408 (pc' := 18) at_17 rfl rfl rfl ?_
        refine s_aload B X408 (pc' := 20) at_18 rfl rfl rfl ?_
        refine p_virtual B X408 (y := mn1) (pc' := 23) (argsL := [(.ref w_WRITE)]) (under := []) (W := 0) e408 (tw11 hw) (tw12 hw) (tw14 hw) (tw13 hw) (tw15 hw) (tw5 hw) (by decide) (rm2_19 l Z a0 hw  w_SHARED w_WRITE w_MEMBERSHIP w_READ Z.heap F0 ) E_WRITE (lenOf pd_1 rfl) rfl rfl (by decide) (by decide) rfl rfl (by decide) (by decide) rfl at_20 rfl (fun T409 X409 e409 => ?_)
        show Go p e below _ (T409.setTop (mkF m 23 #[.val (.int i0), .val (.int i1), .val (.int i2), .val (.ref w_WRITE), .val (.ref w_WRITE), .val (.ref w_READ), .unset, .unset, .unset, .unset, .unset, .unset] [(.ref w_WRITE)]))
        refine s_astore B X409 (pc' := 25) (Ls' := #[.val (.int i0), .val (.int i1), .val (.int i2), .val (.ref w_WRITE), .val (.ref w_WRITE), .val (.ref w_READ), .val (.ref w_WRITE), .unset, .unset, .unset, .unset, .unset]) at_23 rfl rfl rfl ?_
        refine s_aload B X409 (pc' := 27) at_25 rfl rfl rfl ?_
        refine s_ifnonnullY B X409 (pc' := 32) at_27 (by decide) (by decide) ?_
        refine s_aloadN B X409 (pc' := 33) at_32 rfl rfl rfl ?_
        refine p_static B X409 (y := mn2) (pc' := 36) (argsL := [(.ref w_WRITE)]) (under := []) (W := 0) e409 (tw17 hw) (tw18 hw) (tw19 hw) (tw2 hw) (by decide) (rm3_4 l Z a0 hw  w_SHARED w_WRITE w_MEMBERSHIP w_READ Z.heap F0 ) (lenOf pd_2 rfl) rfl rfl (by decide) (by decide) rfl rfl (by decide) (by decide) rfl at_33 rfl (fun T410 X410 e410 => ?_)
        show Go p e below _ (T410.setTop (mkF m 36 #[.val (.int i0), .val (.int i1), .val (.int i2), .val (.ref w_WRITE), .val (.ref w_WRITE), .val (.ref w_READ), .val (.ref w_WRITE), .unset, .unset, .unset, .unset, .unset] [(.int (15 : Int32))]))
        refine s_aload B X410 (pc' := 38) at_36 rfl rfl rfl ?_
        refine p_static B X410 (y := mn2) (pc' := 41) (argsL := [(.ref w_WRITE)]) (under := [(.int (15 : Int32))]) (W := 1) e410 (tw17 hw) (tw18 hw) (tw19 hw) (tw2 hw) (by decide) (rm3_4 l Z a0 hw  w_SHARED w_WRITE w_MEMBERSHIP w_READ Z.heap F0 ) (lenOf pd_2 rfl) rfl rfl (by decide) (by decide) rfl rfl (by decide) (by decide) rfl at_38 rfl (fun T411 X411 e411 => ?_)
        show Go p e below _ (T411.setTop (mkF m 41 #[.val (.int i0), .val (.int i1), .val (.int i2), .val (.ref w_WRITE), .val (.ref w_WRITE), .val (.ref w_READ), .val (.ref w_WRITE), .unset, .unset, .unset, .unset, .unset] [(.int (15 : Int32)), (.int (15 : Int32))]))
        refine s_ior B X411 (pc' := 42) (v := (15 : Int32)) at_41 rfl rfl ?_
        refine s_istore B X411 (pc' := 44) (Ls' := #[.val (.int i0), .val (.int i1), .val (.int i2), .val (.ref w_WRITE), .val (.ref w_WRITE), .val (.ref w_READ), .val (.ref w_WRITE), .val (.int (15 : Int32)), .unset, .unset, .unset, .unset]) at_42 rfl rfl ?_
        refine s_aload B X411 (pc' := 46) at_44 rfl rfl rfl ?_
        refine p_static B X411 (y := mn2) (pc' := 49) (argsL := [(.ref w_WRITE)]) (under := []) (W := 0) e411 (tw17 hw) (tw18 hw) (tw19 hw) (tw2 hw) (by decide) (rm3_4 l Z a0 hw  w_SHARED w_WRITE w_MEMBERSHIP w_READ Z.heap F0 ) (lenOf pd_2 rfl) rfl rfl (by decide) (by decide) rfl rfl (by decide) (by decide) rfl at_46 rfl (fun T412 X412 e412 => ?_)
        show Go p e below _ (T412.setTop (mkF m 49 #[.val (.int i0), .val (.int i1), .val (.int i2), .val (.ref w_WRITE), .val (.ref w_WRITE), .val (.ref w_READ), .val (.ref w_WRITE), .val (.int (15 : Int32)), .unset, .unset, .unset, .unset] [(.int (15 : Int32))]))
        refine s_istore B X412 (pc' := 51) (Ls' := #[.val (.int i0), .val (.int i1), .val (.int i2), .val (.ref w_WRITE), .val (.ref w_WRITE), .val (.ref w_READ), .val (.ref w_WRITE), .val (.int (15 : Int32)), .val (.int (15 : Int32)), .unset, .unset, .unset]) at_49 rfl rfl ?_
        refine s_aload B X412 (pc' := 53) at_51 rfl rfl rfl ?_
        refine p_static B X412 (y := mn2) (pc' := 56) (argsL := [(.ref w_READ)]) (under := []) (W := 0) e412 (tw17 hw) (tw18 hw) (tw19 hw) (tw2 hw) (by decide) (rm3_2 l Z a0 hw  w_SHARED w_WRITE w_MEMBERSHIP w_READ Z.heap F0 ) (lenOf pd_2 rfl) rfl rfl (by decide) (by decide) rfl rfl (by decide) (by decide) rfl at_53 rfl (fun T413 X413 e413 => ?_)
        show Go p e below _ (T413.setTop (mkF m 56 #[.val (.int i0), .val (.int i1), .val (.int i2), .val (.ref w_WRITE), .val (.ref w_WRITE), .val (.ref w_READ), .val (.ref w_WRITE), .val (.int (15 : Int32)), .val (.int (15 : Int32)), .unset, .unset, .unset] [(.int (12 : Int32))]))
        refine s_istore B X413 (pc' := 58) (Ls' := #[.val (.int i0), .val (.int i1), .val (.int i2), .val (.ref w_WRITE), .val (.ref w_WRITE), .val (.ref w_READ), .val (.ref w_WRITE), .val (.int (15 : Int32)), .val (.int (15 : Int32)), .val (.int (12 : Int32)), .unset, .unset]) at_56 rfl rfl ?_
        refine s_iload B X413 (pc' := 60) at_58 rfl rfl ?_
        refine s_iload B X413 (pc' := 62) at_60 rfl rfl ?_
        refine s_iand B X413 (pc' := 63) (v := (15 : Int32)) at_62 rfl rfl ?_
        refine s_iload B X413 (pc' := 65) at_63 rfl rfl ?_
        refine s_icmpN B X413 (pc' := 68) at_65 (by decide) rfl ?_
        refine s_iconst B X413 (pc' := 69) (v := (1 : Int32)) at_68 rfl rfl ?_
        refine s_goto B X413 (pc' := 73) at_69 (by decide) (by decide) ?_
        refine s_istore B X413 (pc' := 75) (Ls' := #[.val (.int i0), .val (.int i1), .val (.int i2), .val (.ref w_WRITE), .val (.ref w_WRITE), .val (.ref w_READ), .val (.ref w_WRITE), .val (.int (15 : Int32)), .val (.int (15 : Int32)), .val (.int (12 : Int32)), .val (.int (1 : Int32)), .unset]) at_73 rfl rfl ?_
        refine s_iload B X413 (pc' := 77) at_75 rfl rfl ?_
        refine s_iload B X413 (pc' := 79) at_77 rfl rfl ?_
        refine s_iand B X413 (pc' := 80) (v := (12 : Int32)) at_79 rfl rfl ?_
        refine s_iload B X413 (pc' := 82) at_80 rfl rfl ?_
        refine s_icmpY B X413 (pc' := 95) at_82 (by decide) (by decide) (by decide) ?_
        refine s_iconst B X413 (pc' := 96) (v := (1 : Int32)) at_95 rfl rfl ?_
        refine s_goto B X413 (pc' := 100) at_96 (by decide) (by decide) ?_
        refine s_istore B X413 (pc' := 102) (Ls' := #[.val (.int i0), .val (.int i1), .val (.int i2), .val (.ref w_WRITE), .val (.ref w_WRITE), .val (.ref w_READ), .val (.ref w_WRITE), .val (.int (15 : Int32)), .val (.int (15 : Int32)), .val (.int (12 : Int32)), .val (.int (1 : Int32)), .val (.int (1 : Int32))]) at_100 rfl rfl ?_
        refine s_iload B X413 (pc' := 104) at_102 rfl rfl ?_
        refine s_ifN B X413 (pc' := 107) at_104 (by decide) rfl ?_
        refine s_iload B X413 (pc' := 109) at_107 rfl rfl ?_
        refine s_ifN B X413 (pc' := 112) at_109 (by decide) rfl ?_
        refine s_iconst B X413 (pc' := 113) (v := (1 : Int32)) at_112 rfl rfl ?_
        refine s_goto B X413 (pc' := 117) at_113 (by decide) (by decide) ?_
        exact r_nar B X413 (t := .boolean) (by simp) rfl at_117 ⟨rfl, (Fr.nil _)⟩ (by decide) (by decide)
      · refine p_static B X400 (y := mn0) (pc' := 15) (argsL := [(.int i2)]) (under := []) (W := 0) e400 (tw0 hw) (tw1 hw) (tw3 hw) (tw2 hw) (by decide) (rm_mode2 l Z a0 hw i2 hm401 w_SHARED w_WRITE w_MEMBERSHIP w_READ Z.heap F0) (lenOf pd_0 rfl) rfl rfl (by decide) (by decide) rfl rfl (by decide) (by decide) rfl at_12 rfl (fun T414 X414 e414 => ?_)
        show Go p e below _ (T414.setTop (mkF m 15 #[.val (.int i0), .val (.int i1), .val (.int i2), .val (.ref w_WRITE), .val (.ref w_WRITE), .unset, .unset, .unset, .unset, .unset, .unset, .unset] [(.ref w_MEMBERSHIP)]))
        refine s_astore B X414 (pc' := 17) (Ls' := #[.val (.int i0), .val (.int i1), .val (.int i2), .val (.ref w_WRITE), .val (.ref w_WRITE), .val (.ref w_MEMBERSHIP), .unset, .unset, .unset, .unset, .unset, .unset]) at_15 rfl rfl rfl ?_
        refine s_aloadN B X414 (pc' := 18) at_17 rfl rfl rfl ?_
        refine s_aload B X414 (pc' := 20) at_18 rfl rfl rfl ?_
        refine p_virtual B X414 (y := mn1) (pc' := 23) (argsL := [(.ref w_WRITE)]) (under := []) (W := 0) e414 (tw11 hw) (tw12 hw) (tw14 hw) (tw13 hw) (tw15 hw) (tw5 hw) (by decide) (rm2_19 l Z a0 hw  w_SHARED w_WRITE w_MEMBERSHIP w_READ Z.heap F0 ) E_WRITE (lenOf pd_1 rfl) rfl rfl (by decide) (by decide) rfl rfl (by decide) (by decide) rfl at_20 rfl (fun T415 X415 e415 => ?_)
        show Go p e below _ (T415.setTop (mkF m 23 #[.val (.int i0), .val (.int i1), .val (.int i2), .val (.ref w_WRITE), .val (.ref w_WRITE), .val (.ref w_MEMBERSHIP), .unset, .unset, .unset, .unset, .unset, .unset] [(.ref w_WRITE)]))
        refine s_astore B X415 (pc' := 25) (Ls' := #[.val (.int i0), .val (.int i1), .val (.int i2), .val (.ref w_WRITE), .val (.ref w_WRITE), .val (.ref w_MEMBERSHIP), .val (.ref w_WRITE), .unset, .unset, .unset, .unset, .unset]) at_23 rfl rfl rfl ?_
        refine s_aload B X415 (pc' := 27) at_25 rfl rfl rfl ?_
        refine s_ifnonnullY B X415 (pc' := 32) at_27 (by decide) (by decide) ?_
        refine s_aloadN B X415 (pc' := 33) at_32 rfl rfl rfl ?_
        refine p_static B X415 (y := mn2) (pc' := 36) (argsL := [(.ref w_WRITE)]) (under := []) (W := 0) e415 (tw17 hw) (tw18 hw) (tw19 hw) (tw2 hw) (by decide) (rm3_4 l Z a0 hw  w_SHARED w_WRITE w_MEMBERSHIP w_READ Z.heap F0 ) (lenOf pd_2 rfl) rfl rfl (by decide) (by decide) rfl rfl (by decide) (by decide) rfl at_33 rfl (fun T416 X416 e416 => ?_)
        show Go p e below _ (T416.setTop (mkF m 36 #[.val (.int i0), .val (.int i1), .val (.int i2), .val (.ref w_WRITE), .val (.ref w_WRITE), .val (.ref w_MEMBERSHIP), .val (.ref w_WRITE), .unset, .unset, .unset, .unset, .unset] [(.int (15 : Int32))]))
        refine s_aload B X416 (pc' := 38) at_36 rfl rfl rfl ?_
        refine p_static B X416 (y := mn2) (pc' := 41) (argsL := [(.ref w_WRITE)]) (under := [(.int (15 : Int32))]) (W := 1) e416 (tw17 hw) (tw18 hw) (tw19 hw) (tw2 hw) (by decide) (rm3_4 l Z a0 hw  w_SHARED w_WRITE w_MEMBERSHIP w_READ Z.heap F0 ) (lenOf pd_2 rfl) rfl rfl (by decide) (by decide) rfl rfl (by decide) (by decide) rfl at_38 rfl (fun T417 X417 e417 => ?_)
        show Go p e below _ (T417.setTop (mkF m 41 #[.val (.int i0), .val (.int i1), .val (.int i2), .val (.ref w_WRITE), .val (.ref w_WRITE), .val (.ref w_MEMBERSHIP), .val (.ref w_WRITE), .unset, .unset, .unset, .unset, .unset] [(.int (15 : Int32)), (.int (15 : Int32))]))
        refine s_ior B X417 (pc' := 42) (v := (15 : Int32)) at_41 rfl rfl ?_
        refine s_istore B X417 (pc' := 44) (Ls' := #[.val (.int i0), .val (.int i1), .val (.int i2), .val (.ref w_WRITE), .val (.ref w_WRITE), .val (.ref w_MEMBERSHIP), .val (.ref w_WRITE), .val (.int (15 : Int32)), .unset, .unset, .unset, .unset]) at_42 rfl rfl ?_
        refine s_aload B X417 (pc' := 46) at_44 rfl rfl rfl ?_
        refine p_static B X417 (y := mn2) (pc' := 49) (argsL := [(.ref w_WRITE)]) (under := []) (W := 0) e417 (tw17 hw) (tw18 hw) (tw19 hw) (tw2 hw) (by decide) (rm3_4 l Z a0 hw  w_SHARED w_WRITE w_MEMBERSHIP w_READ Z.heap F0 ) (lenOf pd_2 rfl) rfl rfl (by decide) (by decide) rfl rfl (by decide) (by decide) rfl at_46 rfl (fun T418 X418 e418 => ?_)
        show Go p e below _ (T418.setTop (mkF m 49 #[.val (.int i0), .val (.int i1), .val (.int i2), .val (.ref w_WRITE), .val (.ref w_WRITE), .val (.ref w_MEMBERSHIP), .val (.ref w_WRITE), .val (.int (15 : Int32)), .unset, .unset, .unset, .unset] [(.int (15 : Int32))]))
        refine s_istore B X418 (pc' := 51) (Ls' := #[.val (.int i0), .val (.int i1), .val (.int i2), .val (.ref w_WRITE), .val (.ref w_WRITE), .val (.ref w_MEMBERSHIP), .val (.ref w_WRITE), .val (.int (15 : Int32)), .val (.int (15 : Int32)), .unset, .unset, .unset]) at_49 rfl rfl ?_
        refine s_aload B X418 (pc' := 53) at_51 rfl rfl rfl ?_
        refine p_static B X418 (y := mn2) (pc' := 56) (argsL := [(.ref w_MEMBERSHIP)]) (under := []) (W := 0) e418 (tw17 hw) (tw18 hw) (tw19 hw) (tw2 hw) (by decide) (rm3_3 l Z a0 hw  w_SHARED w_WRITE w_MEMBERSHIP w_READ Z.heap F0 ) (lenOf pd_2 rfl) rfl rfl (by decide) (by decide) rfl rfl (by decide) (by decide) rfl at_53 rfl (fun T419 X419 e419 => ?_)
        show Go p e below _ (T419.setTop (mkF m 56 #[.val (.int i0), .val (.int i1), .val (.int i2), .val (.ref w_WRITE), .val (.ref w_WRITE), .val (.ref w_MEMBERSHIP), .val (.ref w_WRITE), .val (.int (15 : Int32)), .val (.int (15 : Int32)), .unset, .unset, .unset] [(.int (10 : Int32))]))
        refine s_istore B X419 (pc' := 58) (Ls' := #[.val (.int i0), .val (.int i1), .val (.int i2), .val (.ref w_WRITE), .val (.ref w_WRITE), .val (.ref w_MEMBERSHIP), .val (.ref w_WRITE), .val (.int (15 : Int32)), .val (.int (15 : Int32)), .val (.int (10 : Int32)), .unset, .unset]) at_56 rfl rfl ?_
        refine s_iload B X419 (pc' := 60) at_58 rfl rfl ?_
        refine s_iload B X419 (pc' := 62) at_60 rfl rfl ?_
        refine s_iand B X419 (pc' := 63) (v := (15 : Int32)) at_62 rfl rfl ?_
        refine s_iload B X419 (pc' := 65) at_63 rfl rfl ?_
        refine s_icmpN B X419 (pc' := 68) at_65 (by decide) rfl ?_
        refine s_iconst B X419 (pc' := 69) (v := (1 : Int32)) at_68 rfl rfl ?_
        refine s_goto B X419 (pc' := 73) at_69 (by decide) (by decide) ?_
        refine s_istore B X419 (pc' := 75) (Ls' := #[.val (.int i0), .val (.int i1), .val (.int i2), .val (.ref w_WRITE), .val (.ref w_WRITE), .val (.ref w_MEMBERSHIP), .val (.ref w_WRITE), .val (.int (15 : Int32)), .val (.int (15 : Int32)), .val (.int (10 : Int32)), .val (.int (1 : Int32)), .unset]) at_73 rfl rfl ?_
        refine s_iload B X419 (pc' := 77) at_75 rfl rfl ?_
        refine s_iload B X419 (pc' := 79) at_77 rfl rfl ?_
        refine s_iand B X419 (pc' := 80) (v := (10 : Int32)) at_79 rfl rfl ?_
        refine s_iload B X419 (pc' := 82) at_80 rfl rfl ?_
        refine s_icmpY B X419 (pc' := 95) at_82 (by decide) (by decide) (by decide) ?_
        refine s_iconst B X419 (pc' := 96) (v := (1 : Int32)) at_95 rfl rfl ?_
        refine s_goto B X419 (pc' := 100) at_96 (by decide) (by decide) ?_
        refine s_istore B X419 (pc' := 102) (Ls' := #[.val (.int i0), .val (.int i1), .val (.int i2), .val (.ref w_WRITE), .val (.ref w_WRITE), .val (.ref w_MEMBERSHIP), .val (.ref w_WRITE), .val (.int (15 : Int32)), .val (.int (15 : Int32)), .val (.int (10 : Int32)), .val (.int (1 : Int32)), .val (.int (1 : Int32))]) at_100 rfl rfl ?_
        refine s_iload B X419 (pc' := 104) at_102 rfl rfl ?_
        refine s_ifN B X419 (pc' := 107) at_104 (by decide) rfl ?_
        refine s_iload B X419 (pc' := 109) at_107 rfl rfl ?_
        refine s_ifN B X419 (pc' := 112) at_109 (by decide) rfl ?_
        refine s_iconst B X419 (pc' := 113) (v := (1 : Int32)) at_112 rfl rfl ?_
        refine s_goto B X419 (pc' := 117) at_113 (by decide) (by decide) ?_
        exact r_nar B X419 (t := .boolean) (by simp) rfl at_117 ⟨rfl, (Fr.nil _)⟩ (by decide) (by decide)
      · refine p_static B X400 (y := mn0) (pc' := 15) (argsL := [(.int i2)]) (under := []) (W := 0) e400 (tw0 hw) (tw1 hw) (tw3 hw) (tw2 hw) (by decide) (rm_mode3 l Z a0 hw i2 hm401 w_SHARED w_WRITE w_MEMBERSHIP w_READ Z.heap F0) (lenOf pd_0 rfl) rfl rfl (by decide) (by decide) rfl rfl (by decide) (by decide) rfl at_12 rfl (fun T420 X420 e420 => ?_)
        show Go p e below _ (T420.setTop (mkF m 15 #[.val (.int i0), .val (.int i1), .val (.int i2), .val (.ref w_WRITE), .val (.ref w_WRITE), .unset, .unset, .unset, .unset, .unset, .unset, .unset] [(.ref w_WRITE)]))
        refine s_astore B X420 (pc' := 17) (Ls' := #[.val (.int i0), .val (.int i1), .val (.int i2), .val (.ref w_WRITE), .val (.ref w_WRITE), .val (.ref w_WRITE), .unset, .unset, .unset, .unset, .unset, .unset]) at_15 rfl rfl rfl ?_
        refine s_aloadN B X420 (pc' := 18) at_17 rfl rfl rfl ?_
        refine s_aload B X420 (pc' := 20) at_18 rfl rfl rfl ?_
        refine p_virtual B X420 (y := mn1) (pc' := 23) (argsL := [(.ref w_WRITE)]) (under := []) (W := 0) e420 (tw11 hw) (tw12 hw) (tw14 hw) (tw13 hw) (tw15 hw) (tw5 hw) (by decide) (rm2_19 l Z a0 hw  w_SHARED w_WRITE w_MEMBERSHIP w_READ Z.heap F0 ) E_WRITE (lenOf pd_1 rfl) rfl rfl (by decide) (by decide) rfl rfl (by decide) (by decide) rfl at_20 rfl (fun T421 X421 e421 => ?_)
        show Go p e below _ (T421.setTop (mkF m 23 #[.val (.int i0), .val (.int i1), .val (.int i2), .val (.ref w_WRITE), .val (.ref w_WRITE), .val (.ref w_WRITE), .unset, .unset, .unset, .unset, .unset, .unset] [(.ref w_WRITE)]))
        refine s_astore B X421 (pc' := 25) (Ls' := #[.val (.int i0), .val (.int i1), .val (.int i2), .val (.ref w_WRITE), .val (.ref w_WRITE), .val (.ref w_WRITE), .val (.ref w_WRITE), .unset, .unset, .unset, .unset, .unset]) at_23 rfl rfl rfl ?_
        refine s_aload B X421 (pc' := 27) at_25 rfl rfl rfl ?_
        refine s_ifnonnullY B X421 (pc' := 32) at_27 (by decide) (by decide) ?_
        refine s_aloadN B X421 (pc' := 33) at_32 rfl rfl rfl ?_
        refine p_static B X421 (y := mn2) (pc' := 36) (argsL := [(.ref w_WRITE)]) (under := []) (W := 0) e421 (tw17 hw) (tw18 hw) (tw19 hw) (tw2 hw) (by decide) (rm3_4 l Z a0 hw  w_SHARED w_WRITE w_MEMBERSHIP w_READ Z.heap F0 ) (lenOf pd_2 rfl) rfl rfl (by decide) (by decide) rfl rfl (by decide) (by decide) rfl at_33 rfl (fun T422 X422 e422 => ?_)
        show Go p e below _ (T422.setTop (mkF m 36 #[.val (.int i0), .val (.int i1), .val (.int i2), .val (.ref w_WRITE), .val (.ref w_WRITE), .val (.ref w_WRITE), .val (.ref w_WRITE), .unset, .unset, .unset, .unset, .unset] [(.int (15 : Int32))]))
        refine s_aload B X422 (pc' := 38) at_36 rfl rfl rfl ?_
        refine p_static B X422 (y := mn2) (pc' := 41) (argsL := [(.ref w_WRITE)]) (under := [(.int (15 : Int32))]) (W := 1) e422 (tw17 hw) (tw18 hw) (tw19 hw) (tw2 hw) (by decide) (rm3_4 l Z a0 hw  w_SHARED w_WRITE w_MEMBERSHIP w_READ Z.heap F0 ) (lenOf pd_2 rfl) rfl rfl (by decide) (by decide) rfl rfl (by decide) (by decide) rfl at_38 rfl (fun T423 X423 e423 => ?_)
        show Go p e below _ (T423.setTop (mkF m 41 #[.val (.int i0), .val (.int i1), .val (.int i2), .val (.ref w_WRITE), .val (.ref w_WRITE), .val (.ref w_WRITE), .val (.ref w_WRITE), .unset, .unset, .unset, .unset, .unset] [(.int (15 : Int32)), (.int (15 : Int32))]))
        refine s_ior B X423 (pc' := 42) (v := (15 : Int32)) at_41 rfl rfl ?_
        refine s_istore B X423 (pc' := 44) (Ls' := #[.val (.int i0), .val (.int i1), .val (.int i2), .val (.ref w_WRITE), .val (.ref w_WRITE), .val (.ref w_WRITE), .val (.ref w_WRITE), .val (.int (15 : Int32)), .unset, .unset, .unset, .unset]) at_42 rfl rfl ?_
        refine s_aload B X423 (pc' := 46) at_44 rfl rfl rfl ?_
        refine p_static B X423 (y := mn2) (pc' := 49) (argsL := [(.ref w_WRITE)]) (under := []) (W := 0) e423 (tw17 hw) (tw18 hw) (tw19 hw) (tw2 hw) (by decide) (rm3_4 l Z a0 hw  w_SHARED w_WRITE w_MEMBERSHIP w_READ Z.heap F0 ) (lenOf pd_2 rfl) rfl rfl (by decide) (by decide) rfl rfl (by decide) (by decide) rfl at_46 rfl (fun T424 X424 e424 => ?_)
        show Go p e below _ (T424.setTop (mkF m 49 #[.val (.int i0), .val (.int i1), .val (.int i2), .val (.ref w_WRITE), .val (.ref w_WRITE), .val (.ref w_WRITE), .val (.ref w_WRITE), .val (.int (15 : Int32)), .unset, .unset, .unset, .unset] [(.int (15 : Int32))]))
        refine s_istore B X424 (pc' := 51) (Ls' := #[.val (.int i0), .val (.int i1), .val (.int i2), .val (.ref w_WRITE), .val (.ref w_WRITE), .val (.ref w_WRITE), .val (.ref w_WRITE), .val (.int (15 : Int32)), .val (.int (15 : Int32)), .unset, .unset, .unset]) at_49 rfl rfl ?_
        refine s_aload B X424 (pc' := 53) at_51 rfl rfl rfl ?_
        refine p_static B X424 (y := mn2) (pc' := 56) (argsL := [(.ref w_WRITE)]) (under := []) (W := 0) e424 (tw17 hw) (tw18 hw) (tw19 hw) (tw2 hw) (by decide) (rm3_4 l Z a0 hw  w_SHARED w_WRITE w_MEMBERSHIP w_READ Z.heap F0 ) (lenOf pd_2 rfl) rfl rfl (by decide) (by decide) rfl rfl (by decide) (by decide) rfl at_53 rfl (fun T425 X425 e425 => ?_)
        show Go p e below _ (T425.setTop (mkF m 56 #[.val (.int i0), .val (.int i1), .val (.int i2), .val (.ref w_WRITE), .val (.ref w_WRITE), .val (.ref w_WRITE), .val (.ref w_WRITE), .val (.int (15 : Int32)), .val (.int (15 : Int32)), .unset, .unset, .unset] [(.int (15 : Int32))]))
        refine s_istore B X425 (pc' := 58) (Ls' := #[.val (.int i0), .val (.int i1), .val (.int i2), .val (.ref w_WRITE), .val (.ref w_WRITE), .val (.ref w_WRITE), .val (.ref w_WRITE), .val (.int (15 : Int32)), .val (.int (15 : Int32)), .val (.int (15 : Int32)), .unset, .unset]) at_56 rfl rfl ?_
        refine s_iload B X425 (pc' := 60) at_58 rfl rfl ?_
        refine s_iload B X425 (pc' := 62) at_60 rfl rfl ?_
        refine s_iand B X425 (pc' := 63) (v := (15 : Int32)) at_62 rfl rfl ?_
        refine s_iload B X425 (pc' := 65) at_63 rfl rfl ?_
        refine s_icmpN B X425 (pc' := 68) at_65 (by decide) rfl ?_
        refine s_iconst B X425 (pc' := 69) (v := (1 : Int32)) at_68 rfl rfl ?_
        refine s_goto B X425 (pc' := 73) at_69 (by decide) (by decide) ?_
        refine s_istore B X425 (pc' := 75) (Ls' := #[.val (.int i0), .val (.int i1), .val (.int i2), .val (.ref w_WRITE), .val (.ref w_WRITE), .val (.ref w_WRITE), .val (.ref w_WRITE), .val (.int (15 : Int32)), .val (.int (15 : Int32)), .val (.int (15 : Int32)), .val (.int (1 : Int32)), .unset]) at_73 rfl rfl ?_
        refine s_iload B X425 (pc' := 77) at_75 rfl rfl ?_
        refine s_iload B X425 (pc' := 79) at_77 rfl rfl ?_
        refine s_iand B X425 (pc' := 80) (v := (15 : Int32)) at_79 rfl rfl ?_
        refine s_iload B X425 (pc' := 82) at_80 rfl rfl ?_
        refine s_icmpN B X425 (pc' := 85) at_82 (by decide) rfl ?_
        refine s_iload B X425 (pc' := 87) at_85 rfl rfl ?_
        refine s_iload B X425 (pc' := 89) at_87 rfl rfl ?_
        refine s_iand B X425 (pc' := 90) (v := (15 : Int32)) at_89 rfl rfl ?_
        refine s_iload B X425 (pc' := 92) at_90 rfl rfl ?_
        refine s_icmpN B X425 (pc' := 95) at_92 (by decide) rfl ?_
        refine s_iconst B X425 (pc' := 96) (v := (1 : Int32)) at_95 rfl rfl ?_
        refine s_goto B X425 (pc' := 100) at_96 (by decide) (by decide) ?_
        refine s_istore B X425 (pc' := 102) (Ls' := #[.val (.int i0), .val (.int i1), .val (.int i2), .val (.ref w_WRITE), .val (.ref w_WRITE), .val (.ref w_WRITE), .val (.ref w_WRITE), .val (.int (15 : Int32)), .val (.int (15 : Int32)), .val (.int (15 : Int32)), .val (.int (1 : Int32)), .val (.int (1 : Int32))]) at_100 rfl rfl ?_
        refine s_iload B X425 (pc' := 104) at_102 rfl rfl ?_
        refine s_ifN B X425 (pc' := 107) at_104 (by decide) rfl ?_
        refine s_iload B X425 (pc' := 109) at_107 rfl rfl ?_
        refine s_ifN B X425 (pc' := 112) at_109 (by decide) rfl ?_
        refine s_iconst B X425 (pc' := 113) (v := (1 : Int32)) at_112 rfl rfl ?_
        refine s_goto B X425 (pc' := 117) at_113 (by decide) (by decide) ?_
        exact r_nar B X425 (t := .boolean) (by simp) rfl at_117 ⟨rfl, (Fr.nil _)⟩ (by decide) (by decide)
set_option maxRecDepth 65536 in
set_option maxHeartbeats 40000000 in
theorem comes_1 {Post : Tables → Env → Array Value → State → Outcome → State → Prop} (hpost : ∀ tb e args s v u, (limb_1_1.after args s (.returned v) u = true ∧ limb_1_2.after args s (.returned v) u = true ∧ True) → FrameEnd s (.returned v) u (Jvm.fieldLocs frame_1_writes args s ++ Jvm.arrayLocs frame_1_arrays args s ++ Jvm.staticLocs frame_1_statics s) 0 0 → Post tb e args s (.returned v) u) :
    ArmFor flags0 classFile x code maxLocals ret World_1 tables_1 room_1 Calls_1 rest_1 Pre_1 Post := by
  intro l hfl _ _ p e ha hc hk s m args below hf hA hF happ hP
  obtain ⟨hcalls, hrest, hpre⟩ := hP
  obtain ⟨-, -, -, hnamed, -, -, -, hat⟩ := (Spec.applies_iff hf).mp happ
  obtain ⟨hg, hn⟩ := and_e (Cond.before_iff.mp (show (Jvm.Cond.and given_1 narrow_1).before args s = true from hpre))
  obtain ⟨h1, hg⟩ := and_e hg
  obtain ⟨w0, w1, w2, rfl⟩ : ∃ w0 w1 w2 : Value, args = #[w0, w1, w2] := by
    have hs : args.size = 3 := by simpa [Cond.value, given_1] using h1
    obtain ⟨L⟩ := args
    match L, hs with
    | [w0, w1, w2], _ => exact ⟨w0, w1, w2, rfl⟩
  have hw := fun d (hd : d ∈ tables_1) => atoms_spec (ws := Jvm.Cond.code x code maxLocals ret :: tables_1) hat d (List.mem_cons_of_mem _ hd)
  have hfit : Fit s := fun {y c} hc i hi => by
    obtain ⟨ha, rfl⟩ := Array.getElem?_eq_some_iff.mp hc
    have q := List.all_eq_true.mp ((Array.all_eq_true_iff_forall_mem.mp hF) _ (Array.getElem_mem ha)) i (List.mem_range.mpr hi)
    simpa [Array.getElem?_eq_getElem hi] using q
  obtain ⟨hg0, hg⟩ := and_e hg
  obtain ⟨hg1, hg⟩ := and_e hg
  have hg2 := hg
  obtain ⟨i0, ei0⟩ := is_v hg0
  obtain rfl : w0 = (.int i0) := Option.some.inj ei0
  obtain ⟨i1, ei1⟩ := is_v hg1
  obtain rfl : w1 = (.int i1) := Option.some.inj ei1
  obtain ⟨i2, ei2⟩ := is_v hg2
  obtain rfl : w2 = (.int i2) := Option.some.inj ei2
  obtain ⟨hn0, hn⟩ := and_e hn
  obtain ⟨hn1, hn⟩ := and_e hn
  obtain ⟨hn2, hn⟩ := and_e hn
  obtain ⟨hn3, hn⟩ := and_e hn
  obtain ⟨hn4, hn⟩ := and_e hn
  obtain ⟨hn5, hn⟩ := and_e hn
  obtain ⟨hn6, hn⟩ := and_e hn
  have hn7 := hn
  obtain ⟨w_SHARED, v_SHARED⟩ := exa_v hn0
  have S_SHARED := Sta.start v_SHARED (Or.inr ⟨(tw5 hw), (tw6 hw)⟩)
  have E_SHARED := Exa.start v_SHARED hn0
  obtain ⟨w_WRITE, v_WRITE⟩ := exa_v hn1
  have S_WRITE := Sta.start v_WRITE (Or.inr ⟨(tw5 hw), (tw8 hw)⟩)
  have E_WRITE := Exa.start v_WRITE hn1
  obtain ⟨w_MEMBERSHIP, v_MEMBERSHIP⟩ := exa_v hn2
  have S_MEMBERSHIP := Sta.start v_MEMBERSHIP (Or.inr ⟨(tw5 hw), (tw10 hw)⟩)
  have E_MEMBERSHIP := Exa.start v_MEMBERSHIP hn2
  obtain ⟨w_READ, v_READ⟩ := exa_v hn5
  have S_READ := Sta.start v_READ (Or.inr ⟨(tw5 hw), (tw21 hw)⟩)
  have E_READ := Exa.start v_READ hn5
  have F_SHARED_ordinal := Fld.start ((fld_at v_SHARED).symm.trans (eqI_v hn3))
  have F_WRITE_ordinal := Fld.start ((fld_at v_WRITE).symm.trans (eqI_v hn4))
  have F_READ_ordinal := Fld.start ((fld_at v_READ).symm.trans (eqI_v hn6))
  have F_MEMBERSHIP_ordinal := Fld.start ((fld_at v_MEMBERSHIP).symm.trans (eqI_v hn7))
  obtain ⟨n, o, h1, h2, h3, _, L, rfl, ⟨rfl, N⟩, hq⟩ := rm_law l s _ hw i0 i1 i2 w_SHARED w_WRITE w_MEMBERSHIP w_READ ⟨S_SHARED, E_SHARED, S_WRITE, E_WRITE, S_MEMBERSHIP, E_MEMBERSHIP, S_READ, E_READ, F_SHARED_ordinal, F_WRITE_ordinal, F_READ_ordinal, F_MEMBERSHIP_ordinal⟩ p e ha hc hk s m _ below hf ((Spec.applies_iff_loose hf).mp happ).1 ⟨rfl, State.Warmed39.refl s, rfl⟩ trivial
  refine ⟨n, _, h1, h2, h3, hpost _ _ _ _ _ _ ⟨Cond.after_iff.mpr rfl, Cond.after_iff.mpr (eq_i res_at (Term.int_eval (1)) rfl), trivial⟩ ⟨hq.1, hq.2.1, (hq.2.2.sift fun y hy => Or.inr (N y hy)).mono (by decide) (by decide)⟩⟩
theorem main_1_1 : Claimed_1_1 := comes_1 fun _ _ _ _ _ _ h hF => ⟨h.1, hF⟩
theorem main_1_2 : Claimed_1_2 := comes_1 fun _ _ _ _ _ _ h hF => ⟨h.2.1, hF⟩
end Jvm.Pilot.@@N@@
namespace Jvm.Pilot.@@N@@
open Jvm Jvm.ClassFile Sem Op Lib Jvm.Free Jvm.Stand Jvm.Pilot.@@N@@.Jvm.D
/-! MADE BY PROGRAM (witnessworld.py) out of the Statement's table words and the real class files: 12 classes; the members and pool entries that the words name. The judged class is class 1, her method 3. -/
namespace start1
open Jvm.ClassFile
def u (s : String) : CpInfo := .utf8 (stringToUtf16 s)
/-- a pool by its gaps: so many unusable entries, then the entry; so many at the end -/
def gap : Nat → List CpInfo → List CpInfo
  | 0, r => r
  | n + 1, r => .unusable :: gap n r
def poolList (es : List (Nat × CpInfo)) (last : Nat) : List CpInfo := es.foldr (fun e r => gap e.1 (e.2 :: r)) (gap last [])
def pool (es : List (Nat × CpInfo)) (last : Nat) : Array CpInfo := ⟨poolList es last⟩
def fileOf (pool : Array CpInfo) (this : Nat) (attrs : Array Attribute := #[]) (ms : Array MethodInfo := #[]) (fl : Nat := 33) (sup : Nat := 0) (ifs : Array Nat := #[]) (fds : Array FieldInfo := #[]) : ClassFile where
  minorVersion := 0
  majorVersion := 65
  constantPool := pool
  accessFlags := fl
  thisClass := this
  superClass := sup
  interfaces := ifs
  fields := fds
  methods := ms
  attributes := attrs
def plain (name : String) (sup : Option ClassId) : Class where
  name := name
  kind := .ordinary
  loader := none
  accessFlags := 33
  super := sup
  interfaces := #[]
  cf := none
  fields := #[]
  methods := #[]
  instanceTypes := #[]
  staticTypes := #[]
  resolved := #[]
  callSites := []
  init := .initialized
  statics := none
  mirror := none

def pool0 : Array CpInfo := pool [(5, u "<init>"), (0, u "()V"), (1, .class_ 10), (1, u "java/lang/Object")] 113

def k0m0 : Method := { name := "<init>", desc := "()V", sig := { parameters := [], returnType := none }, accessFlags := 1, code := none }
/-- java/lang/Object -/
def k0 : Class := { plain "java/lang/Object" none with
  accessFlags := 33
  interfaces := #[]
  cf := some (fileOf pool0 8 #[] #[{ accessFlags := 1, nameIndex := 5, descriptorIndex := 6, attributes := #[] }] 33 0 #[] #[])
  fields := #[]
  methods := #[k0m0]
  instanceTypes := #[]
  staticTypes := #[]
  resolved := Array.replicate 124 none
  statics := none }

def pool1 : Array CpInfo := pool [(2, .class_ 4), (1, u "java/lang/Object"), (0, u "<init>"), (0, u "()V"), (0, .fieldref 8 9), (0, .class_ 10), (0, .nameAndType 11 12), (0, u "com/example/isolation/isolation/LockMode"), (0, u "SHARED"), (0, u "Lcom/example/isolation/isolation/LockMode;"), (0, .fieldref 8 14), (0, .nameAndType 15 12), (0, u "READ"), (0, .fieldref 8 17), (0, .nameAndType 18 12), (0, u "MEMBERSHIP"), (0, .fieldref 8 20), (0, .nameAndType 21 12), (0, u "WRITE"), (0, .methodref 23 24), (0, .class_ 25), (0, .nameAndType 26 27), (0, u "com/example/isolation/isolation/LockModeJoinPinLaw"), (0, u "mode"), (0, u "(I)Lcom/example/isolation/isolation/LockMode;"), (0, .methodref 8 29), (0, .nameAndType 30 31), (0, u "join"), (0, u "(Lcom/example/isolation/isolation/LockMode;)Lcom/example/isolation/isolation/LockMode;"), (0, .methodref 23 33), (0, .nameAndType 34 35), (0, u "conflictMask"), (0, u "(Lcom/example/isolation/isolation/LockMode;)I"), (3, u "law"), (0, u "(III)Z")] 2

def k1m0 : Method := { name := "<init>", desc := "()V", sig := { parameters := [], returnType := none }, accessFlags := 1, code := none }
def k1c1 : Code := { maxStack := 2, maxLocals := 2, code := method_2_code, exceptionTable := #[], attributes := #[] }
def k1m1 : Method := { name := "mode", desc := "(I)Lcom/example/isolation/isolation/LockMode;", sig := { parameters := [.int], returnType := some (.object "com/example/isolation/isolation/LockMode") }, accessFlags := 10, code := some k1c1 }
def k1c2 : Code := { maxStack := 2, maxLocals := 1, code := method_3_code, exceptionTable := #[], attributes := #[] }
def k1m2 : Method := { name := "conflictMask", desc := "(Lcom/example/isolation/isolation/LockMode;)I", sig := { parameters := [(.object "com/example/isolation/isolation/LockMode")], returnType := some .int }, accessFlags := 10, code := some k1c2 }
def k1c3 : Code := { maxStack := 2, maxLocals := 12, code := code, exceptionTable := #[], attributes := #[] }
def k1m3 : Method := { name := "law", desc := "(III)Z", sig := { parameters := [.int, .int, .int], returnType := some .boolean }, accessFlags := 9, code := some k1c3 }
/-- com/example/isolation/isolation/LockModeJoinPinLaw -/
def k1 : Class := { plain "com/example/isolation/isolation/LockModeJoinPinLaw" (some 0) with
  accessFlags := 49
  interfaces := #[]
  cf := some (fileOf pool1 23 #[] #[{ accessFlags := 1, nameIndex := 5, descriptorIndex := 6, attributes := #[] }, { accessFlags := 10, nameIndex := 26, descriptorIndex := 27, attributes := #[] }, { accessFlags := 10, nameIndex := 34, descriptorIndex := 35, attributes := #[] }, { accessFlags := 9, nameIndex := 39, descriptorIndex := 40, attributes := #[] }] 49 2 #[] #[])
  fields := #[]
  methods := #[k1m0, k1m1, k1m2, k1m3]
  instanceTypes := #[]
  staticTypes := #[]
  resolved := Array.replicate 43 none
  statics := none }

def pool2 : Array CpInfo := pool [(1, .class_ 2), (0, u "java/lang/constant/Constable"), (0, .class_ 4), (0, u "java/lang/Object")] 6

/-- java/lang/constant/Constable -/
def k2 : Class := { plain "java/lang/constant/Constable" (some 0) with
  accessFlags := 1537
  interfaces := #[]
  cf := some (fileOf pool2 1 #[] #[] 1537 3 #[] #[])
  fields := #[]
  methods := #[]
  instanceTypes := #[]
  staticTypes := #[]
  resolved := Array.replicate 11 none
  statics := none }

def pool3 : Array CpInfo := pool [(1, .class_ 2), (0, u "java/lang/Comparable"), (0, .class_ 4), (0, u "java/lang/Object")] 7

/-- java/lang/Comparable -/
def k3 : Class := { plain "java/lang/Comparable" (some 0) with
  accessFlags := 1537
  interfaces := #[]
  cf := some (fileOf pool3 1 #[] #[] 1537 3 #[] #[])
  fields := #[]
  methods := #[]
  instanceTypes := #[]
  staticTypes := #[]
  resolved := Array.replicate 12 none
  statics := none }

def pool4 : Array CpInfo := pool [(1, .class_ 2), (0, u "java/io/Serializable"), (0, .class_ 4), (0, u "java/lang/Object")] 2

/-- java/io/Serializable -/
def k4 : Class := { plain "java/io/Serializable" (some 0) with
  accessFlags := 1537
  interfaces := #[]
  cf := some (fileOf pool4 1 #[] #[] 1537 3 #[] #[])
  fields := #[]
  methods := #[]
  instanceTypes := #[]
  staticTypes := #[]
  resolved := Array.replicate 7 none
  statics := none }

def pool5 : Array CpInfo := pool [(2, .class_ 4), (1, u "java/lang/Enum"), (0, u "name"), (0, u "Ljava/lang/String;"), (2, u "ordinal"), (0, u "I"), (1, .class_ 14), (1, u "java/lang/Object"), (4, u "hash"), (86, .class_ 108), (1, u "java/lang/Enum$EnumDesc"), (2, .class_ 112), (0, u "java/lang/constant/Constable"), (0, .class_ 114), (0, u "java/lang/Comparable"), (0, .class_ 116), (0, u "java/io/Serializable")] 87

/-- java/lang/Enum -/
def k5 : Class := { plain "java/lang/Enum" (some 0) with
  accessFlags := 1057
  interfaces := #[2, 3, 4]
  cf := some (fileOf pool5 2 #[.nestMembers #[106]] #[] 1057 12 #[111, 113, 115] #[{ accessFlags := 18, nameIndex := 5, descriptorIndex := 6, attributes := #[] }, { accessFlags := 18, nameIndex := 9, descriptorIndex := 10, attributes := #[] }, { accessFlags := 2, nameIndex := 19, descriptorIndex := 10, attributes := #[] }])
  fields := #[{ name := "name", type := (.object "java/lang/String"), accessFlags := 18, slot := 0, constantValue := 0 }, { name := "ordinal", type := .int, accessFlags := 18, slot := 1, constantValue := 0 }, { name := "hash", type := .int, accessFlags := 2, slot := 2, constantValue := 0 }]
  methods := #[]
  instanceTypes := #[(.object "java/lang/String"), .int, .int]
  staticTypes := #[]
  resolved := Array.replicate 204 none
  statics := none }

def pool6 : Array CpInfo := pool [(1, .class_ 2), (0, u "com/example/isolation/isolation/LockMode"), (0, .fieldref 1 4), (0, .nameAndType 5 6), (0, u "SHARED"), (0, u "Lcom/example/isolation/isolation/LockMode;"), (2, u "READ"), (2, u "MEMBERSHIP"), (0, .fieldref 1 14), (0, .nameAndType 15 6), (0, u "WRITE"), (2, u "$VALUES"), (0, u "[Lcom/example/isolation/isolation/LockMode;"), (6, .class_ 28), (1, u "java/lang/Enum"), (48, u "join"), (0, u "(Lcom/example/isolation/isolation/LockMode;)Lcom/example/isolation/isolation/LockMode;")] 20

def k6c0 : Code := { maxStack := 2, maxLocals := 3, code := prog_29_method_5_code, exceptionTable := #[], attributes := #[] }
def k6m0 : Method := { name := "join", desc := "(Lcom/example/isolation/isolation/LockMode;)Lcom/example/isolation/isolation/LockMode;", sig := { parameters := [(.object "com/example/isolation/isolation/LockMode")], returnType := some (.object "com/example/isolation/isolation/LockMode") }, accessFlags := 0, code := some k6c0 }
/-- com/example/isolation/isolation/LockMode -/
def k6 : Class := { plain "com/example/isolation/isolation/LockMode" (some 5) with
  accessFlags := 16433
  interfaces := #[]
  cf := some (fileOf pool6 1 #[] #[{ accessFlags := 0, nameIndex := 77, descriptorIndex := 78, attributes := #[] }] 16433 26 #[] #[{ accessFlags := 16409, nameIndex := 5, descriptorIndex := 6, attributes := #[] }, { accessFlags := 16409, nameIndex := 9, descriptorIndex := 6, attributes := #[] }, { accessFlags := 16409, nameIndex := 12, descriptorIndex := 6, attributes := #[] }, { accessFlags := 16409, nameIndex := 15, descriptorIndex := 6, attributes := #[] }, { accessFlags := 4122, nameIndex := 18, descriptorIndex := 19, attributes := #[] }])
  fields := #[{ name := "SHARED", type := (.object "com/example/isolation/isolation/LockMode"), accessFlags := 16409, slot := 0, constantValue := 0 }, { name := "READ", type := (.object "com/example/isolation/isolation/LockMode"), accessFlags := 16409, slot := 1, constantValue := 0 }, { name := "MEMBERSHIP", type := (.object "com/example/isolation/isolation/LockMode"), accessFlags := 16409, slot := 2, constantValue := 0 }, { name := "WRITE", type := (.object "com/example/isolation/isolation/LockMode"), accessFlags := 16409, slot := 3, constantValue := 0 }, { name := "$VALUES", type := (.array (.object "com/example/isolation/isolation/LockMode")), accessFlags := 4122, slot := 4, constantValue := 0 }]
  methods := #[k6m0]
  instanceTypes := #[(.object "java/lang/String"), .int, .int]
  staticTypes := #[(.object "com/example/isolation/isolation/LockMode"), (.object "com/example/isolation/isolation/LockMode"), (.object "com/example/isolation/isolation/LockMode"), (.object "com/example/isolation/isolation/LockMode"), (.array (.object "com/example/isolation/isolation/LockMode"))]
  resolved := Array.replicate 99 none
  statics := some 0 }

def pool7 : Array CpInfo := pool [(1, u "java/lang/Cloneable"), (0, .class_ 1), (0, u "java/lang/Object"), (0, .class_ 3)] 3

/-- java/lang/Cloneable -/
def k7 : Class := { plain "java/lang/Cloneable" (some 0) with
  accessFlags := 1537
  interfaces := #[]
  cf := some (fileOf pool7 2 #[] #[] 1537 4 #[] #[])
  fields := #[]
  methods := #[]
  instanceTypes := #[]
  staticTypes := #[]
  resolved := Array.replicate 8 none
  statics := none }

/-- the primitive byte -/
def k8 : Class := { plain "byte" none with kind := .primitive 'B', accessFlags := 0x411 }
/-- [B -/
def k9 : Class := { plain "[B" (some 0) with kind := .array 8 .byte, interfaces := #[7, 4], accessFlags := 1041 }

/-- the primitive int -/
def k10 : Class := { plain "int" none with kind := .primitive 'I', accessFlags := 0x411 }
/-- [I -/
def k11 : Class := { plain "[I" (some 0) with kind := .array 10 .int, interfaces := #[7, 4], accessFlags := 1041 }

def heap : Heap := #[{ cls := 6, slots := #[.ref 1, .ref 4, .ref 3, .ref 2, .null], vm := .statics 6 },
  { cls := 6, slots := #[.null, .int 0, .int 0], vm := .none },
  { cls := 6, slots := #[.null, .int 3, .int 0], vm := .none },
  { cls := 6, slots := #[.null, .int 2, .int 0], vm := .none },
  { cls := 6, slots := #[.null, .int 1, .int 0], vm := .none }]
def classes : Array Class := #[k0, k1, k2, k3, k4, k5, k6, k7, k8, k9, k10, k11]
def interned : List (Array UInt16 × Addr) := []
def slotsUsed : Nat := 17
def theMethod : MethodId := ⟨1, 3⟩
def args0 : Array Value := #[.int 5, .int 6, .int 7]
def aboutOver (below : List Frame) : State where
  vm := { classes := classes, interned := interned.toArray }
  heap := heap
  slotsUsed := slotsUsed
  threads := #[{ frames := .invoking theMethod args0 :: below }]
def below0 : List Frame := [.native { method := ⟨0, 0⟩, args := #[] }]
def about1 : State := aboutOver below0
def p0 : Program := .bare "" "" ""
def e0 : Env := launch0.env 0 0 0
theorem w_frames : about1.frames = Frame.invoking theMethod args0 :: below0 := rfl
set_option maxRecDepth 65536 in
theorem w_args : argsFit about1.vm theMethod args0 = true := by decide +kernel
set_option maxRecDepth 65536 in
theorem w_heap : heapFits about1 = true := by decide +kernel
set_option maxRecDepth 65536 in
theorem w_runnable : about1.curStatus? = some .runnable := by decide +kernel
set_option maxRecDepth 65536 in
theorem w_alone : about1.alone = true := by decide +kernel
set_option maxRecDepth 65536 in
theorem w_named : about1.methodNamed? x = some theMethod := by decide +kernel
set_option maxRecDepth 65536 in
theorem w_hears : about1.hears theMethod below0 = true := by decide +kernel
set_option maxRecDepth 65536 in
theorem w_ripe : about1.ripe theMethod args0 below0 = true := by decide +kernel
theorem w_running : about1.status = .running := rfl
set_option maxRecDepth 65536 in
theorem w_room : about1.hasRoom e0.platform room_1 = true :=
  launch0.hasRoom_least _ room_1 (by decide +kernel) (by decide +kernel) (by decide +kernel) (by decide +kernel) (by decide +kernel) (by decide +kernel)
theorem allAtoms_all (ts : List Jvm.Cond) (a : Array Jvm.Value) (st : Jvm.State) : (allAtoms ts).before a st = ts.all (fun c => c.before a st) := by
  induction ts with
  | nil => rfl
  | cons c t ih =>
    show (Jvm.Cond.and c (allAtoms t)).before a st = _
    rw [Jvm.Cond.before_and, ih, List.all_cons]
def words1 : List Jvm.Cond := Jvm.Cond.code x code maxLocals ret :: tables_1
/-- a 'code' word, met by the world's own term for the bytes: nothing is compared byte by byte -/
theorem code_word {y : MethodName} {bytes : ByteArray} {mx : Nat} {rt : Option FieldType} {a : Array Value} {s : State} {m : MethodId} {meth : Method} {c : Code} (h1 : s.methodNamed? y = some m) (h2 : s.vm.method? m = some meth) (h3 : meth.code = some c) (h4 : c.code = bytes)
    (h5 : (c.maxLocals == mx && c.exceptionTable.isEmpty && decide (c.maxStack ≤ mostOperands) && decide (meth.sig.returnType = rt) && !meth.locks && decide (parseMethodDescriptor y.desc = some meth.sig)) = true) : (Jvm.Cond.code y bytes mx rt).before a s = true := by
  simp only [Bool.and_eq_true, beq_iff_eq, Bool.not_eq_true', decide_eq_true_eq] at h5
  obtain ⟨⟨⟨⟨⟨g1, g2⟩, g3⟩, g4⟩, g5⟩, g6⟩ := h5
  simp [Cond.before, Cond.holds, Cond.value, h1, h2, h3, h4, g1, g2, g3, g4, g5, g6]
def isCode : Jvm.Cond → Bool
  | .code _ _ _ _ => true
  | _ => false
theorem all_split {L : List Jvm.Cond} {P : Jvm.Cond → Bool} (h1 : L.all (fun c => isCode c || P c) = true) (h2 : ∀ c ∈ L.filter isCode, P c = true) : L.all P = true := by
  refine List.all_eq_true.mpr fun c hc => ?_
  have h := List.all_eq_true.mp h1 c hc
  rcases Bool.eq_false_or_eq_true (isCode c) with hi | hi
  · exact h2 c (List.mem_filter.mpr ⟨hc, hi⟩)
  · simpa [hi] using h
set_option maxRecDepth 65536 in
theorem w_c0 : (Jvm.Cond.code x code maxLocals ret).before args0 about1 = true := code_word (m := ⟨1, 3⟩) (meth := k1m3) (c := k1c3) (by decide +kernel) rfl rfl rfl (by decide +kernel)
set_option maxRecDepth 65536 in
theorem w_c1 : (Jvm.Cond.code ({ cls := "com/example/isolation/isolation/LockModeJoinPinLaw", name := "mode", desc := "(I)Lcom/example/isolation/isolation/LockMode;" } : Jvm.MethodName) method_2_code (2 : Nat) (Option.some (Jvm.ClassFile.FieldType.object "com/example/isolation/isolation/LockMode"))).before args0 about1 = true := code_word (m := ⟨1, 1⟩) (meth := k1m1) (c := k1c1) (by decide +kernel) rfl rfl rfl (by decide +kernel)
set_option maxRecDepth 65536 in
theorem w_c2 : (Jvm.Cond.code ({ cls := "com/example/isolation/isolation/LockMode", name := "join", desc := "(Lcom/example/isolation/isolation/LockMode;)Lcom/example/isolation/isolation/LockMode;" } : Jvm.MethodName) prog_29_method_5_code (3 : Nat) (Option.some (Jvm.ClassFile.FieldType.object "com/example/isolation/isolation/LockMode"))).before args0 about1 = true := code_word (m := ⟨6, 0⟩) (meth := k6m0) (c := k6c0) (by decide +kernel) rfl rfl rfl (by decide +kernel)
set_option maxRecDepth 65536 in
theorem w_c3 : (Jvm.Cond.code ({ cls := "com/example/isolation/isolation/LockModeJoinPinLaw", name := "conflictMask", desc := "(Lcom/example/isolation/isolation/LockMode;)I" } : Jvm.MethodName) method_3_code (1 : Nat) (Option.some Jvm.ClassFile.FieldType.int)).before args0 about1 = true := code_word (m := ⟨1, 2⟩) (meth := k1m2) (c := k1c2) (by decide +kernel) rfl rfl rfl (by decide +kernel)
def codes1 : List Jvm.Cond := [Jvm.Cond.code x code maxLocals ret, Jvm.Cond.code ({ cls := "com/example/isolation/isolation/LockModeJoinPinLaw", name := "mode", desc := "(I)Lcom/example/isolation/isolation/LockMode;" } : Jvm.MethodName) method_2_code (2 : Nat) (Option.some (Jvm.ClassFile.FieldType.object "com/example/isolation/isolation/LockMode")), Jvm.Cond.code ({ cls := "com/example/isolation/isolation/LockMode", name := "join", desc := "(Lcom/example/isolation/isolation/LockMode;)Lcom/example/isolation/isolation/LockMode;" } : Jvm.MethodName) prog_29_method_5_code (3 : Nat) (Option.some (Jvm.ClassFile.FieldType.object "com/example/isolation/isolation/LockMode")), Jvm.Cond.code ({ cls := "com/example/isolation/isolation/LockModeJoinPinLaw", name := "conflictMask", desc := "(Lcom/example/isolation/isolation/LockMode;)I" } : Jvm.MethodName) method_3_code (1 : Nat) (Option.some Jvm.ClassFile.FieldType.int)]
set_option maxRecDepth 65536 in
theorem codes_eq : words1.filter isCode = codes1 := rfl
theorem w_codes : ∀ c ∈ words1.filter isCode, c.before args0 about1 = true := by
  rw [codes_eq]
  intro c hc
  simp only [codes1, List.mem_cons, List.not_mem_nil, or_false] at hc
  rcases hc with rfl | rfl | rfl | rfl
  · exact w_c0
  · exact w_c1
  · exact w_c2
  · exact w_c3
set_option maxRecDepth 65536 in
theorem w_t1 : words1.all (fun c => isCode c || c.before args0 about1) = true := by decide +kernel
theorem w_tables : (allAtoms (Jvm.Cond.code x code maxLocals ret :: tables_1)).before args0 about1 = true := by
  rw [allAtoms_all]
  show words1.all (fun c => c.before args0 about1) = true
  refine all_split ?_ w_codes
  rw [w_t1]
set_option maxRecDepth 65536 in
theorem w_case : (Jvm.Cond.and given_1 narrow_1).before args0 about1 = true := by decide +kernel
theorem w_applies : (headSpec (Jvm.Cond.code x code maxLocals ret :: tables_1) room_1).applies x e0.platform about1 = true :=
  (Spec.applies_iff w_frames).mpr ⟨w_running, w_runnable, w_alone, w_named, w_hears, w_ripe, w_room, w_tables⟩
theorem atStart : AtStart classFile x code maxLocals ret World_1 tables_1 room_1 Calls_1 rest_1 Pre_1 launch0 p0 e0 about1 theMethod args0 below0 :=
  ⟨lists_1, trivial, launch0.admits_env _ _ _, launch0.least_env, fairChoices_fair.cas, fairChoices_fair.clock, w_frames, w_args, w_heap, w_applies, trivial, trivial, w_case⟩
end start1
theorem witness_1 : WitnessClaimed_1 := ⟨start1.p0, start1.e0, start1.about1, start1.theMethod, start1.args0, start1.below0, start1.atStart⟩
end Jvm.Pilot.@@N@@
