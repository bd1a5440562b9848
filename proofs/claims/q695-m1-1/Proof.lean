import JvmDerived
import JvmDerived.Pilot.@@N@@Statement
import JvmDerived.Pilot.@@N@@Code
set_option linter.unusedVariables false
set_option linter.unusedSimpArgs false

namespace Jvm.OwnKit
open Sem ClassFile Op Lib Jvm.Stand Jvm.Free Jvm.LawKit Jvm.RoadKit
section Kit
variable {p : Program} {l : Launch} {e : Env} {R : Room} {s : State} {m : MethodId} {args : Array Value} {below : List Frame} {meth : Method} {c : Code} {T : State} {locs : List Loc} {cells slots : Nat} {Z : State} {a0 : Array Value} {h : Heap} {own nm : String} {bytes : ByteArray} {maxL : Nat} {ret : Option FieldType} {P : Outcome → State → Prop} {pc pc' : Nat} {Ls Ls' : Array Slot} {rest : List Value}
/-- from here the run ends, and P holds of its end -/
def Go (p : Program) (e : Env) (below : List Frame) (P : Outcome → State → Prop) (T0 : State) : Prop := ∃ t o, Steps p.tables e below T0 t ∧ t.status = .running ∧ Ended t below o ∧ P o t
theorem Go.on {T1 T2 : State} (st : ∀ t, Steps p.tables e below T2 t → Steps p.tables e below T1 t) (k : Go p e below P T2) : Go p e below P T1 := by
  obtain ⟨t, o, h1, h2⟩ := k; exact ⟨t, o, st t h1, h2⟩
/-- what a walk knows of the method that it walks -/
def Ctx (p : Program) (s : State) (m : MethodId) (meth : Method) (c : Code) (Z : State) (own nm : String) (bytes : ByteArray) (maxL : Nat) (ret : Option FieldType) : Prop :=
  p.tables.exec = Jvm.exec ∧ c.code = bytes ∧ c.maxLocals = maxL ∧ s.vm.findClass own = some m.cls ∧ meth.name = nm ∧ meth.sig.returnType = ret ∧ meth.locks = false ∧ Z.Warmed39 s.vm
/-- what a body's end says -/
def Ends (s : State) (Q : Option Value → Heap → List Loc → Prop) (k n : Nat) (o : Outcome) (t : State) : Prop := ∃ v L, o = .returned v ∧ Q v t.heap L ∧ FrameEnd s o t L k n
/-- a contract: called with the arguments 'as' at the heap h0 it returns as Q says -/
abbrev OMeets (l : Launch) (Z : State) (y : MethodName) (bytes : ByteArray) (maxL : Nat) (ret : Option FieldType) (ws : List Jvm.Cond) (rm : Room) (as : Array Value) (h0 : Heap) (Q : Option Value → Heap → List Loc → Prop) : Prop :=
  MetFree l y (head1 (Jvm.Cond.code y bytes maxL ret :: ws) rm) (fun a U => a = as ∧ Z.Warmed39 U.vm ∧ U.heap = h0) (fun _ _ _ _ _ => True) (fun _ U o U' => ∃ v L, o = .returned v ∧ Q v U'.heap L ∧ FrameEnd U o U' L rm.cells rm.slots)
/-- it returns r, writes nothing and makes nothing -/
def PureQ (r : Option Value) (h0 : Heap) (v : Option Value) (h : Heap) (L : List Loc) : Prop := v = r ∧ L = [] ∧ h = h0
theorem OMeets.of {y : MethodName} {ws : List Jvm.Cond} {rm : Room} {as : Array Value} {h0 : Heap} {Q : Option Value → Heap → List Loc → Prop} (hpn : plainName y.cls = true) (ls : Array Slot) (hent : ∀ m, entryFrame m as maxL = mkF m 0 ls [])
    (body : ∀ p e s m below meth c s₁, Ctx p s m meth c Z y.cls y.name bytes maxL ret → Stand p l e rm s m as below meth c s₁ [] 0 0 → s₁.heap = h0 → Go p e below (Ends s Q rm.cells rm.slots) (s₁.setTop (mkF m 0 ls []))) : OMeets l Z y bytes maxL ret ws rm as h0 Q := by
  refine MetFree.of_bodySF (plainFor_of_name hpn) hisR ?_
  intro p e s m args below meth c s₁ Bd hml0 hP hK
  obtain ⟨rfl, hZ, hh⟩ := hP
  have e0 : s₁.heap = h0 := by rw [← hh, Bd.state]; rfl
  have X0 := Stand.of_body Bd
  have B : Ctx p s m meth c Z y.cls y.name bytes maxL ret := ⟨Bd.exec, Bd.bytes, hml0, findClass_of_methodNamed Bd.named, (name_of_methodNamed Bd.named Bd.method).1, Bd.returns, Bd.notSynchronized, hZ⟩
  obtain ⟨t, o, h1, h2, h3, h4⟩ := body p e s m below meth c s₁ B X0 e0
  exact ⟨t, o, castTop (hent m) h1, h2, h3, h4⟩
/-! the single steps -/

theorem s_iloadN (B : Ctx p s m meth c Z own nm bytes maxL ret) (X : Stand p l e R s m args below meth c T locs cells slots) {k0 : Fin 4} {v : Int32} (hd : decode bytes pc = .ok (.iload_n k0, 1)) (hl : Ls[k0.val]? = some (.val (.int v))) (hp : pc + 1 = pc') (k : Go p e below P (T.setTop (mkF m pc' Ls (.int v :: rest)))) : Go p e below P (T.setTop (mkF m pc Ls (rest))) := by
  subst hp; exact Go.on (fun t => XS.iloadN X.here B.1 rfl (hb B.2.1 hd) hl) k
theorem s_iload (B : Ctx p s m meth c Z own nm bytes maxL ret) (X : Stand p l e R s m args below meth c T locs cells slots) {k0 : Nat} {v : Int32} (hd : decode bytes pc = .ok (.iload k0, 2)) (hl : Ls[k0]? = some (.val (.int v))) (hp : pc + 2 = pc') (k : Go p e below P (T.setTop (mkF m pc' Ls (.int v :: rest)))) : Go p e below P (T.setTop (mkF m pc Ls (rest))) := by
  subst hp; exact Go.on (fun t => XS.iload X.here B.1 rfl (hb B.2.1 hd) hl) k
theorem s_istoreN (B : Ctx p s m meth c Z own nm bytes maxL ret) (X : Stand p l e R s m args below meth c T locs cells slots) {k0 : Fin 4} {v : Int32} (hd : decode bytes pc = .ok (.istore_n k0, 1)) (hl : storeLocals Ls k0.val (.int v) = some Ls') (hp : pc + 1 = pc') (k : Go p e below P (T.setTop (mkF m pc' Ls' (rest)))) : Go p e below P (T.setTop (mkF m pc Ls (.int v :: rest))) := by
  subst hp; exact Go.on (fun t => XS.istoreN X.here B.1 rfl (hb B.2.1 hd) rfl hl) k
theorem s_istore (B : Ctx p s m meth c Z own nm bytes maxL ret) (X : Stand p l e R s m args below meth c T locs cells slots) {k0 : Nat} {v : Int32} (hd : decode bytes pc = .ok (.istore k0, 2)) (hl : storeLocals Ls k0 (.int v) = some Ls') (hp : pc + 2 = pc') (k : Go p e below P (T.setTop (mkF m pc' Ls' (rest)))) : Go p e below P (T.setTop (mkF m pc Ls (.int v :: rest))) := by
  subst hp; exact Go.on (fun t => XS.istore X.here B.1 rfl (hb B.2.1 hd) rfl hl) k
theorem s_lloadN (B : Ctx p s m meth c Z own nm bytes maxL ret) (X : Stand p l e R s m args below meth c T locs cells slots) {k0 : Fin 4} {v : Int64} (hd : decode bytes pc = .ok (.lload_n k0, 1)) (hl : Ls[k0.val]? = some (.val (.long v))) (hp : pc + 1 = pc') (k : Go p e below P (T.setTop (mkF m pc' Ls (.long v :: rest)))) : Go p e below P (T.setTop (mkF m pc Ls (rest))) := by
  subst hp; exact Go.on (fun t => XS.lloadN X.here B.1 rfl (hb B.2.1 hd) hl) k
theorem s_lload (B : Ctx p s m meth c Z own nm bytes maxL ret) (X : Stand p l e R s m args below meth c T locs cells slots) {k0 : Nat} {v : Int64} (hd : decode bytes pc = .ok (.lload k0, 2)) (hl : Ls[k0]? = some (.val (.long v))) (hp : pc + 2 = pc') (k : Go p e below P (T.setTop (mkF m pc' Ls (.long v :: rest)))) : Go p e below P (T.setTop (mkF m pc Ls (rest))) := by
  subst hp; exact Go.on (fun t => XS.lload X.here B.1 rfl (hb B.2.1 hd) hl) k
theorem s_lstoreN (B : Ctx p s m meth c Z own nm bytes maxL ret) (X : Stand p l e R s m args below meth c T locs cells slots) {k0 : Fin 4} {v : Int64} (hd : decode bytes pc = .ok (.lstore_n k0, 1)) (hl : storeLocals Ls k0.val (.long v) = some Ls') (hp : pc + 1 = pc') (k : Go p e below P (T.setTop (mkF m pc' Ls' (rest)))) : Go p e below P (T.setTop (mkF m pc Ls (.long v :: rest))) := by
  subst hp; exact Go.on (fun t => XS.lstoreN X.here B.1 rfl (hb B.2.1 hd) rfl hl) k
theorem s_lstore (B : Ctx p s m meth c Z own nm bytes maxL ret) (X : Stand p l e R s m args below meth c T locs cells slots) {k0 : Nat} {v : Int64} (hd : decode bytes pc = .ok (.lstore k0, 2)) (hl : storeLocals Ls k0 (.long v) = some Ls') (hp : pc + 2 = pc') (k : Go p e below P (T.setTop (mkF m pc' Ls' (rest)))) : Go p e below P (T.setTop (mkF m pc Ls (.long v :: rest))) := by
  subst hp; exact Go.on (fun t => XS.lstore X.here B.1 rfl (hb B.2.1 hd) rfl hl) k
theorem s_aloadN (B : Ctx p s m meth c Z own nm bytes maxL ret) (X : Stand p l e R s m args below meth c T locs cells slots) {k0 : Fin 4} {v : Value} (hd : decode bytes pc = .ok (.aload_n k0, 1)) (hl : Ls[k0.val]? = some (.val v)) (hv : v.isRef = true) (hp : pc + 1 = pc') (k : Go p e below P (T.setTop (mkF m pc' Ls (v :: rest)))) : Go p e below P (T.setTop (mkF m pc Ls (rest))) := by
  subst hp; exact Go.on (fun t => XS.aloadN X.here B.1 rfl (hb B.2.1 hd) hl hv) k
theorem s_aload (B : Ctx p s m meth c Z own nm bytes maxL ret) (X : Stand p l e R s m args below meth c T locs cells slots) {k0 : Nat} {v : Value} (hd : decode bytes pc = .ok (.aload k0, 2)) (hl : Ls[k0]? = some (.val v)) (hv : v.isRef = true) (hp : pc + 2 = pc') (k : Go p e below P (T.setTop (mkF m pc' Ls (v :: rest)))) : Go p e below P (T.setTop (mkF m pc Ls (rest))) := by
  subst hp; exact Go.on (fun t => XS.aload X.here B.1 rfl (hb B.2.1 hd) hl hv) k
theorem s_astoreN (B : Ctx p s m meth c Z own nm bytes maxL ret) (X : Stand p l e R s m args below meth c T locs cells slots) {k0 : Fin 4} {v : Value} (hd : decode bytes pc = .ok (.astore_n k0, 1)) (hv : v.isRef = true) (hl : storeLocals Ls k0.val v = some Ls') (hp : pc + 1 = pc') (k : Go p e below P (T.setTop (mkF m pc' Ls' (rest)))) : Go p e below P (T.setTop (mkF m pc Ls (v :: rest))) := by
  subst hp; exact Go.on (fun t => XS.astoreN X.here B.1 rfl (hb B.2.1 hd) rfl hv hl) k
theorem s_astore (B : Ctx p s m meth c Z own nm bytes maxL ret) (X : Stand p l e R s m args below meth c T locs cells slots) {k0 : Nat} {v : Value} (hd : decode bytes pc = .ok (.astore k0, 2)) (hv : v.isRef = true) (hl : storeLocals Ls k0 v = some Ls') (hp : pc + 2 = pc') (k : Go p e below P (T.setTop (mkF m pc' Ls' (rest)))) : Go p e below P (T.setTop (mkF m pc Ls (v :: rest))) := by
  subst hp; exact Go.on (fun t => XS.astore X.here B.1 rfl (hb B.2.1 hd) rfl hv hl) k
theorem s_iconst (B : Ctx p s m meth c Z own nm bytes maxL ret) (X : Stand p l e R s m args below meth c T locs cells slots) {i : Int} {v : Int32} (hd : decode bytes pc = .ok (.iconst i, 1)) (hv : Int32.ofInt i = v) (hp : pc + 1 = pc') (k : Go p e below P (T.setTop (mkF m pc' Ls (.int v :: rest)))) : Go p e below P (T.setTop (mkF m pc Ls (rest))) := by
  subst hp; subst hv; exact Go.on (fun t => XS.iconst X.here B.1 rfl (hb B.2.1 hd)) k
theorem s_bipush (B : Ctx p s m meth c Z own nm bytes maxL ret) (X : Stand p l e R s m args below meth c T locs cells slots) {i : Int} {v : Int32} (hd : decode bytes pc = .ok (.bipush i, 2)) (hv : (Int8.ofInt i).toInt32 = v) (hp : pc + 2 = pc') (k : Go p e below P (T.setTop (mkF m pc' Ls (.int v :: rest)))) : Go p e below P (T.setTop (mkF m pc Ls (rest))) := by
  subst hp; subst hv; exact Go.on (fun t => XS.bipush X.here B.1 rfl (hb B.2.1 hd)) k
theorem s_sipush (B : Ctx p s m meth c Z own nm bytes maxL ret) (X : Stand p l e R s m args below meth c T locs cells slots) {i : Int} {v : Int32} (hd : decode bytes pc = .ok (.sipush i, 3)) (hv : (Int16.ofInt i).toInt32 = v) (hp : pc + 3 = pc') (k : Go p e below P (T.setTop (mkF m pc' Ls (.int v :: rest)))) : Go p e below P (T.setTop (mkF m pc Ls (rest))) := by
  subst hp; subst hv; exact Go.on (fun t => XS.sipush X.here B.1 rfl (hb B.2.1 hd)) k
theorem s_lconst (B : Ctx p s m meth c Z own nm bytes maxL ret) (X : Stand p l e R s m args below meth c T locs cells slots) {i : Fin 2} {v : Int64} (hd : decode bytes pc = .ok (.lconst i, 1)) (hv : Int64.ofNat i = v) (hp : pc + 1 = pc') (k : Go p e below P (T.setTop (mkF m pc' Ls (.long v :: rest)))) : Go p e below P (T.setTop (mkF m pc Ls (rest))) := by
  subst hp; subst hv; exact Go.on (fun t => XS.lconst X.here B.1 rfl (hb B.2.1 hd)) k
theorem s_aconst_null (B : Ctx p s m meth c Z own nm bytes maxL ret) (X : Stand p l e R s m args below meth c T locs cells slots)  (hd : decode bytes pc = .ok (.aconst_null, 1))  (hp : pc + 1 = pc') (k : Go p e below P (T.setTop (mkF m pc' Ls (.null :: rest)))) : Go p e below P (T.setTop (mkF m pc Ls (rest))) := by
  subst hp; exact Go.on (fun t => XS.aconstNull X.here B.1 rfl (hb B.2.1 hd)) k
theorem s_iadd (B : Ctx p s m meth c Z own nm bytes maxL ret) (X : Stand p l e R s m args below meth c T locs cells slots) {x : Int32} {y : Int32} {v : Int32} (hd : decode bytes pc = .ok (.iadd, 1)) (hv : x + y = v)  (hp : pc + 1 = pc') (k : Go p e below P (T.setTop (mkF m pc' Ls (.int v :: rest)))) : Go p e below P (T.setTop (mkF m pc Ls (.int y :: .int x :: rest))) := by
  subst hp; subst hv; exact Go.on (fun t => XS.iadd X.here B.1 rfl (hb B.2.1 hd) rfl ) k
theorem s_isub (B : Ctx p s m meth c Z own nm bytes maxL ret) (X : Stand p l e R s m args below meth c T locs cells slots) {x : Int32} {y : Int32} {v : Int32} (hd : decode bytes pc = .ok (.isub, 1)) (hv : x - y = v)  (hp : pc + 1 = pc') (k : Go p e below P (T.setTop (mkF m pc' Ls (.int v :: rest)))) : Go p e below P (T.setTop (mkF m pc Ls (.int y :: .int x :: rest))) := by
  subst hp; subst hv; exact Go.on (fun t => XS.isub X.here B.1 rfl (hb B.2.1 hd) rfl ) k
theorem s_imul (B : Ctx p s m meth c Z own nm bytes maxL ret) (X : Stand p l e R s m args below meth c T locs cells slots) {x : Int32} {y : Int32} {v : Int32} (hd : decode bytes pc = .ok (.imul, 1)) (hv : x * y = v)  (hp : pc + 1 = pc') (k : Go p e below P (T.setTop (mkF m pc' Ls (.int v :: rest)))) : Go p e below P (T.setTop (mkF m pc Ls (.int y :: .int x :: rest))) := by
  subst hp; subst hv; exact Go.on (fun t => XS.imul X.here B.1 rfl (hb B.2.1 hd) rfl ) k
theorem s_iand (B : Ctx p s m meth c Z own nm bytes maxL ret) (X : Stand p l e R s m args below meth c T locs cells slots) {x : Int32} {y : Int32} {v : Int32} (hd : decode bytes pc = .ok (.iand, 1)) (hv : x &&& y = v)  (hp : pc + 1 = pc') (k : Go p e below P (T.setTop (mkF m pc' Ls (.int v :: rest)))) : Go p e below P (T.setTop (mkF m pc Ls (.int y :: .int x :: rest))) := by
  subst hp; subst hv; exact Go.on (fun t => XS.iand X.here B.1 rfl (hb B.2.1 hd) rfl ) k
theorem s_ior (B : Ctx p s m meth c Z own nm bytes maxL ret) (X : Stand p l e R s m args below meth c T locs cells slots) {x : Int32} {y : Int32} {v : Int32} (hd : decode bytes pc = .ok (.ior, 1)) (hv : x ||| y = v)  (hp : pc + 1 = pc') (k : Go p e below P (T.setTop (mkF m pc' Ls (.int v :: rest)))) : Go p e below P (T.setTop (mkF m pc Ls (.int y :: .int x :: rest))) := by
  subst hp; subst hv; exact Go.on (fun t => XS.ior X.here B.1 rfl (hb B.2.1 hd) rfl ) k
theorem s_ixor (B : Ctx p s m meth c Z own nm bytes maxL ret) (X : Stand p l e R s m args below meth c T locs cells slots) {x : Int32} {y : Int32} {v : Int32} (hd : decode bytes pc = .ok (.ixor, 1)) (hv : x ^^^ y = v)  (hp : pc + 1 = pc') (k : Go p e below P (T.setTop (mkF m pc' Ls (.int v :: rest)))) : Go p e below P (T.setTop (mkF m pc Ls (.int y :: .int x :: rest))) := by
  subst hp; subst hv; exact Go.on (fun t => XS.ixor X.here B.1 rfl (hb B.2.1 hd) rfl ) k
theorem s_ladd (B : Ctx p s m meth c Z own nm bytes maxL ret) (X : Stand p l e R s m args below meth c T locs cells slots) {x : Int64} {y : Int64} {v : Int64} (hd : decode bytes pc = .ok (.ladd, 1)) (hv : x + y = v)  (hp : pc + 1 = pc') (k : Go p e below P (T.setTop (mkF m pc' Ls (.long v :: rest)))) : Go p e below P (T.setTop (mkF m pc Ls (.long y :: .long x :: rest))) := by
  subst hp; subst hv; exact Go.on (fun t => XS.ladd X.here B.1 rfl (hb B.2.1 hd) rfl ) k
theorem s_lsub (B : Ctx p s m meth c Z own nm bytes maxL ret) (X : Stand p l e R s m args below meth c T locs cells slots) {x : Int64} {y : Int64} {v : Int64} (hd : decode bytes pc = .ok (.lsub, 1)) (hv : x - y = v)  (hp : pc + 1 = pc') (k : Go p e below P (T.setTop (mkF m pc' Ls (.long v :: rest)))) : Go p e below P (T.setTop (mkF m pc Ls (.long y :: .long x :: rest))) := by
  subst hp; subst hv; exact Go.on (fun t => XS.lsub X.here B.1 rfl (hb B.2.1 hd) rfl ) k
theorem s_lmul (B : Ctx p s m meth c Z own nm bytes maxL ret) (X : Stand p l e R s m args below meth c T locs cells slots) {x : Int64} {y : Int64} {v : Int64} (hd : decode bytes pc = .ok (.lmul, 1)) (hv : x * y = v)  (hp : pc + 1 = pc') (k : Go p e below P (T.setTop (mkF m pc' Ls (.long v :: rest)))) : Go p e below P (T.setTop (mkF m pc Ls (.long y :: .long x :: rest))) := by
  subst hp; subst hv; exact Go.on (fun t => XS.lmul X.here B.1 rfl (hb B.2.1 hd) rfl ) k
theorem s_land (B : Ctx p s m meth c Z own nm bytes maxL ret) (X : Stand p l e R s m args below meth c T locs cells slots) {x : Int64} {y : Int64} {v : Int64} (hd : decode bytes pc = .ok (.land, 1)) (hv : x &&& y = v)  (hp : pc + 1 = pc') (k : Go p e below P (T.setTop (mkF m pc' Ls (.long v :: rest)))) : Go p e below P (T.setTop (mkF m pc Ls (.long y :: .long x :: rest))) := by
  subst hp; subst hv; exact Go.on (fun t => XS.land X.here B.1 rfl (hb B.2.1 hd) rfl ) k
theorem s_lor (B : Ctx p s m meth c Z own nm bytes maxL ret) (X : Stand p l e R s m args below meth c T locs cells slots) {x : Int64} {y : Int64} {v : Int64} (hd : decode bytes pc = .ok (.lor, 1)) (hv : x ||| y = v)  (hp : pc + 1 = pc') (k : Go p e below P (T.setTop (mkF m pc' Ls (.long v :: rest)))) : Go p e below P (T.setTop (mkF m pc Ls (.long y :: .long x :: rest))) := by
  subst hp; subst hv; exact Go.on (fun t => XS.lor X.here B.1 rfl (hb B.2.1 hd) rfl ) k
theorem s_lxor (B : Ctx p s m meth c Z own nm bytes maxL ret) (X : Stand p l e R s m args below meth c T locs cells slots) {x : Int64} {y : Int64} {v : Int64} (hd : decode bytes pc = .ok (.lxor, 1)) (hv : x ^^^ y = v)  (hp : pc + 1 = pc') (k : Go p e below P (T.setTop (mkF m pc' Ls (.long v :: rest)))) : Go p e below P (T.setTop (mkF m pc Ls (.long y :: .long x :: rest))) := by
  subst hp; subst hv; exact Go.on (fun t => XS.lxor X.here B.1 rfl (hb B.2.1 hd) rfl ) k
theorem s_idiv (B : Ctx p s m meth c Z own nm bytes maxL ret) (X : Stand p l e R s m args below meth c T locs cells slots) {x : Int32} {y : Int32} {v : Int32} (hd : decode bytes pc = .ok (.idiv, 1)) (hv : x / y = v) (hy : y ≠ 0) (hp : pc + 1 = pc') (k : Go p e below P (T.setTop (mkF m pc' Ls (.int v :: rest)))) : Go p e below P (T.setTop (mkF m pc Ls (.int y :: .int x :: rest))) := by
  subst hp; subst hv; exact Go.on (fun t => XS.idiv X.here B.1 rfl (hb B.2.1 hd) rfl hy) k
theorem s_ldiv (B : Ctx p s m meth c Z own nm bytes maxL ret) (X : Stand p l e R s m args below meth c T locs cells slots) {x : Int64} {y : Int64} {v : Int64} (hd : decode bytes pc = .ok (.ldiv, 1)) (hv : x / y = v) (hy : y ≠ 0) (hp : pc + 1 = pc') (k : Go p e below P (T.setTop (mkF m pc' Ls (.long v :: rest)))) : Go p e below P (T.setTop (mkF m pc Ls (.long y :: .long x :: rest))) := by
  subst hp; subst hv; exact Go.on (fun t => XS.ldiv X.here B.1 rfl (hb B.2.1 hd) rfl hy) k
theorem s_irem (B : Ctx p s m meth c Z own nm bytes maxL ret) (X : Stand p l e R s m args below meth c T locs cells slots) {x y v : Int32} (hd : decode bytes pc = .ok (.irem, 1)) (hv : x % y = v) (hy : y ≠ 0) (hp : pc + 1 = pc') (k : Go p e below P (T.setTop (mkF m pc' Ls (.int v :: rest)))) : Go p e below P (T.setTop (mkF m pc Ls (.int y :: .int x :: rest))) := by
  subst hp; subst hv; exact Go.on (fun t => iremM X B.1 rfl (hb B.2.1 hd) rfl hy) k
theorem s_ishl (B : Ctx p s m meth c Z own nm bytes maxL ret) (X : Stand p l e R s m args below meth c T locs cells slots) {x : Int32} {y : Int32} {v : Int32} (hd : decode bytes pc = .ok (.ishl, 1)) (hv : x <<< (y &&& 31) = v)  (hp : pc + 1 = pc') (k : Go p e below P (T.setTop (mkF m pc' Ls (.int v :: rest)))) : Go p e below P (T.setTop (mkF m pc Ls (.int y :: .int x :: rest))) := by
  subst hp; subst hv; exact Go.on (fun t => XS.ishl X.here B.1 rfl (hb B.2.1 hd) rfl ) k
theorem s_ishr (B : Ctx p s m meth c Z own nm bytes maxL ret) (X : Stand p l e R s m args below meth c T locs cells slots) {x : Int32} {y : Int32} {v : Int32} (hd : decode bytes pc = .ok (.ishr, 1)) (hv : x >>> (y &&& 31) = v)  (hp : pc + 1 = pc') (k : Go p e below P (T.setTop (mkF m pc' Ls (.int v :: rest)))) : Go p e below P (T.setTop (mkF m pc Ls (.int y :: .int x :: rest))) := by
  subst hp; subst hv; exact Go.on (fun t => XS.ishr X.here B.1 rfl (hb B.2.1 hd) rfl ) k
theorem s_iushr (B : Ctx p s m meth c Z own nm bytes maxL ret) (X : Stand p l e R s m args below meth c T locs cells slots) {x : Int32} {y : Int32} {v : Int32} (hd : decode bytes pc = .ok (.iushr, 1)) (hv : (x.toUInt32 >>> (y &&& 31).toUInt32).toInt32 = v)  (hp : pc + 1 = pc') (k : Go p e below P (T.setTop (mkF m pc' Ls (.int v :: rest)))) : Go p e below P (T.setTop (mkF m pc Ls (.int y :: .int x :: rest))) := by
  subst hp; subst hv; exact Go.on (fun t => XS.iushr X.here B.1 rfl (hb B.2.1 hd) rfl ) k
theorem s_lshl (B : Ctx p s m meth c Z own nm bytes maxL ret) (X : Stand p l e R s m args below meth c T locs cells slots) {x : Int64} {y : Int32} {v : Int64} (hd : decode bytes pc = .ok (.lshl, 1)) (hv : x <<< (y &&& 0x3f).toInt64 = v)  (hp : pc + 1 = pc') (k : Go p e below P (T.setTop (mkF m pc' Ls (.long v :: rest)))) : Go p e below P (T.setTop (mkF m pc Ls (.int y :: .long x :: rest))) := by
  subst hp; subst hv; exact Go.on (fun t => XS.lshl X.here B.1 rfl (hb B.2.1 hd) rfl ) k
theorem s_lshr (B : Ctx p s m meth c Z own nm bytes maxL ret) (X : Stand p l e R s m args below meth c T locs cells slots) {x : Int64} {y : Int32} {v : Int64} (hd : decode bytes pc = .ok (.lshr, 1)) (hv : x >>> (y &&& 0x3f).toInt64 = v)  (hp : pc + 1 = pc') (k : Go p e below P (T.setTop (mkF m pc' Ls (.long v :: rest)))) : Go p e below P (T.setTop (mkF m pc Ls (.int y :: .long x :: rest))) := by
  subst hp; subst hv; exact Go.on (fun t => XS.lshr X.here B.1 rfl (hb B.2.1 hd) rfl ) k
theorem s_lushr (B : Ctx p s m meth c Z own nm bytes maxL ret) (X : Stand p l e R s m args below meth c T locs cells slots) {x : Int64} {y : Int32} {v : Int64} (hd : decode bytes pc = .ok (.lushr, 1)) (hv : (x.toUInt64 >>> (y &&& 0x3f).toInt64.toUInt64).toInt64 = v)  (hp : pc + 1 = pc') (k : Go p e below P (T.setTop (mkF m pc' Ls (.long v :: rest)))) : Go p e below P (T.setTop (mkF m pc Ls (.int y :: .long x :: rest))) := by
  subst hp; subst hv; exact Go.on (fun t => XS.lushr X.here B.1 rfl (hb B.2.1 hd) rfl ) k
theorem s_i2b (B : Ctx p s m meth c Z own nm bytes maxL ret) (X : Stand p l e R s m args below meth c T locs cells slots) {x : Int32} {v : Int32} (hd : decode bytes pc = .ok (.i2b, 1)) (hv : x.toInt8.toInt32 = v) (hp : pc + 1 = pc') (k : Go p e below P (T.setTop (mkF m pc' Ls (.int v :: rest)))) : Go p e below P (T.setTop (mkF m pc Ls (.int x :: rest))) := by
  subst hp; subst hv; exact Go.on (fun t => XS.i2b X.here B.1 rfl (hb B.2.1 hd) rfl) k
theorem s_i2c (B : Ctx p s m meth c Z own nm bytes maxL ret) (X : Stand p l e R s m args below meth c T locs cells slots) {x : Int32} {v : Int32} (hd : decode bytes pc = .ok (.i2c, 1)) (hv : x.toUInt32.toUInt16.toUInt32.toInt32 = v) (hp : pc + 1 = pc') (k : Go p e below P (T.setTop (mkF m pc' Ls (.int v :: rest)))) : Go p e below P (T.setTop (mkF m pc Ls (.int x :: rest))) := by
  subst hp; subst hv; exact Go.on (fun t => XS.i2c X.here B.1 rfl (hb B.2.1 hd) rfl) k
theorem s_i2s (B : Ctx p s m meth c Z own nm bytes maxL ret) (X : Stand p l e R s m args below meth c T locs cells slots) {x : Int32} {v : Int32} (hd : decode bytes pc = .ok (.i2s, 1)) (hv : x.toInt16.toInt32 = v) (hp : pc + 1 = pc') (k : Go p e below P (T.setTop (mkF m pc' Ls (.int v :: rest)))) : Go p e below P (T.setTop (mkF m pc Ls (.int x :: rest))) := by
  subst hp; subst hv; exact Go.on (fun t => XS.i2s X.here B.1 rfl (hb B.2.1 hd) rfl) k
theorem s_i2l (B : Ctx p s m meth c Z own nm bytes maxL ret) (X : Stand p l e R s m args below meth c T locs cells slots) {x : Int32} {v : Int64} (hd : decode bytes pc = .ok (.i2l, 1)) (hv : x.toInt64 = v) (hp : pc + 1 = pc') (k : Go p e below P (T.setTop (mkF m pc' Ls (.long v :: rest)))) : Go p e below P (T.setTop (mkF m pc Ls (.int x :: rest))) := by
  subst hp; subst hv; exact Go.on (fun t => XS.i2l X.here B.1 rfl (hb B.2.1 hd) rfl) k
theorem s_l2i (B : Ctx p s m meth c Z own nm bytes maxL ret) (X : Stand p l e R s m args below meth c T locs cells slots) {x : Int64} {v : Int32} (hd : decode bytes pc = .ok (.l2i, 1)) (hv : x.toInt32 = v) (hp : pc + 1 = pc') (k : Go p e below P (T.setTop (mkF m pc' Ls (.int v :: rest)))) : Go p e below P (T.setTop (mkF m pc Ls (.long x :: rest))) := by
  subst hp; subst hv; exact Go.on (fun t => XS.l2i X.here B.1 rfl (hb B.2.1 hd) rfl) k
theorem s_ineg (B : Ctx p s m meth c Z own nm bytes maxL ret) (X : Stand p l e R s m args below meth c T locs cells slots) {x : Int32} {v : Int32} (hd : decode bytes pc = .ok (.ineg, 1)) (hv : -x = v) (hp : pc + 1 = pc') (k : Go p e below P (T.setTop (mkF m pc' Ls (.int v :: rest)))) : Go p e below P (T.setTop (mkF m pc Ls (.int x :: rest))) := by
  subst hp; subst hv; exact Go.on (fun t => XS.ineg X.here B.1 rfl (hb B.2.1 hd) rfl) k
theorem s_lneg (B : Ctx p s m meth c Z own nm bytes maxL ret) (X : Stand p l e R s m args below meth c T locs cells slots) {x : Int64} {v : Int64} (hd : decode bytes pc = .ok (.lneg, 1)) (hv : -x = v) (hp : pc + 1 = pc') (k : Go p e below P (T.setTop (mkF m pc' Ls (.long v :: rest)))) : Go p e below P (T.setTop (mkF m pc Ls (.long x :: rest))) := by
  subst hp; subst hv; exact Go.on (fun t => XS.lneg X.here B.1 rfl (hb B.2.1 hd) rfl) k
theorem s_lcmp (B : Ctx p s m meth c Z own nm bytes maxL ret) (X : Stand p l e R s m args below meth c T locs cells slots) {x y : Int64} (hd : decode bytes pc = .ok (.lcmp, 1))  (hp : pc + 1 = pc') (k : Go p e below P (T.setTop (mkF m pc' Ls (.int (lcmpW x y) :: rest)))) : Go p e below P (T.setTop (mkF m pc Ls (.long y :: .long x :: rest))) := by
  subst hp; exact Go.on (fun t => XS.lcmp X.here B.1 rfl (hb B.2.1 hd) rfl) k
theorem s_dup (B : Ctx p s m meth c Z own nm bytes maxL ret) (X : Stand p l e R s m args below meth c T locs cells slots) {v : Value} (hd : decode bytes pc = .ok (.dup, 1)) (hc : v.category = 1) (hp : pc + 1 = pc') (k : Go p e below P (T.setTop (mkF m pc' Ls (v :: v :: rest)))) : Go p e below P (T.setTop (mkF m pc Ls (v :: rest))) := by
  subst hp; exact Go.on (fun t => XS.dup X.here B.1 rfl (hb B.2.1 hd) rfl hc) k
theorem s_pop (B : Ctx p s m meth c Z own nm bytes maxL ret) (X : Stand p l e R s m args below meth c T locs cells slots) {v : Value} (hd : decode bytes pc = .ok (.pop, 1)) (hc : v.category = 1) (hp : pc + 1 = pc') (k : Go p e below P (T.setTop (mkF m pc' Ls (rest)))) : Go p e below P (T.setTop (mkF m pc Ls (v :: rest))) := by
  subst hp; exact Go.on (fun t => XS.pop X.here B.1 rfl (hb B.2.1 hd) rfl hc) k
theorem s_swap (B : Ctx p s m meth c Z own nm bytes maxL ret) (X : Stand p l e R s m args below meth c T locs cells slots) {v w : Value} (hd : decode bytes pc = .ok (.swap, 1)) (hc : v.category = 1) (hc2 : w.category = 1) (hp : pc + 1 = pc') (k : Go p e below P (T.setTop (mkF m pc' Ls (w :: v :: rest)))) : Go p e below P (T.setTop (mkF m pc Ls (v :: w :: rest))) := by
  subst hp; exact Go.on (fun t => XS.swap X.here B.1 rfl (hb B.2.1 hd) rfl hc hc2) k
theorem s_dup_x1 (B : Ctx p s m meth c Z own nm bytes maxL ret) (X : Stand p l e R s m args below meth c T locs cells slots) {v w : Value} (hd : decode bytes pc = .ok (.dup_x1, 1)) (hc : v.category = 1) (hc2 : w.category = 1) (hp : pc + 1 = pc') (k : Go p e below P (T.setTop (mkF m pc' Ls (v :: w :: v :: rest)))) : Go p e below P (T.setTop (mkF m pc Ls (v :: w :: rest))) := by
  subst hp; exact Go.on (fun t => XS.dupX1 X.here B.1 rfl (hb B.2.1 hd) rfl hc hc2) k
theorem s_dup2 (B : Ctx p s m meth c Z own nm bytes maxL ret) (X : Stand p l e R s m args below meth c T locs cells slots) {v w : Value} (hd : decode bytes pc = .ok (.dup2, 1)) (hc : v.category = 1) (hc2 : w.category = 1) (hp : pc + 1 = pc') (k : Go p e below P (T.setTop (mkF m pc' Ls (v :: w :: v :: w :: rest)))) : Go p e below P (T.setTop (mkF m pc Ls (v :: w :: rest))) := by
  subst hp; exact Go.on (fun t => XT.dup2 X.here B.1 rfl (hb B.2.1 hd) rfl hc hc2) k
theorem s_iinc (B : Ctx p s m meth c Z own nm bytes maxL ret) (X : Stand p l e R s m args below meth c T locs cells slots) {k0 : Nat} {i : Int} {x v : Int32} (hd : decode bytes pc = .ok (.iinc k0 i, 3)) (hl : Ls[k0]? = some (.val (.int x))) (hv : x + Int32.ofInt i = v) (hl' : storeLocals Ls k0 (.int v) = some Ls') (hp : pc + 3 = pc') (k : Go p e below P (T.setTop (mkF m pc' Ls' (rest)))) : Go p e below P (T.setTop (mkF m pc Ls (rest))) := by
  subst hp; subst hv; exact Go.on (fun t => XS.iinc X.here B.1 rfl (hb B.2.1 hd) hl hl') k
theorem s_goto (B : Ctx p s m meth c Z own nm bytes maxL ret) (X : Stand p l e R s m args below meth c T locs cells slots)  {o : Int} (hd : decode bytes pc = .ok (.goto o, 3))  (ho : 0 ≤ (pc : Int) + o) (hp : ((pc : Int) + o).toNat = pc') (k : Go p e below P (T.setTop (mkF m pc' Ls (rest)))) : Go p e below P (T.setTop (mkF m pc Ls (rest))) := Go.on (fun t => XS.goto X.here B.1 rfl rfl (hb B.2.1 hd) ho hp) k
theorem s_ifY (B : Ctx p s m meth c Z own nm bytes maxL ret) (X : Stand p l e R s m args below meth c T locs cells slots) {cd : ClassFile.Cond} {x : Int32} {o : Int} (hd : decode bytes pc = .ok (.ifCond cd o, 3)) (hc : ifCond.holds cd x = true) (ho : 0 ≤ (pc : Int) + o) (hp : ((pc : Int) + o).toNat = pc') (k : Go p e below P (T.setTop (mkF m pc' Ls (rest)))) : Go p e below P (T.setTop (mkF m pc Ls (.int x :: rest))) := Go.on (fun t => XS.ifYes X.here B.1 rfl rfl (hb B.2.1 hd) rfl hc ho hp) k
theorem s_ifN (B : Ctx p s m meth c Z own nm bytes maxL ret) (X : Stand p l e R s m args below meth c T locs cells slots) {cd : ClassFile.Cond} {x : Int32} {o : Int} (hd : decode bytes pc = .ok (.ifCond cd o, 3)) (hc : ifCond.holds cd x = false) (hp : pc + 3 = pc') (k : Go p e below P (T.setTop (mkF m pc' Ls (rest)))) : Go p e below P (T.setTop (mkF m pc Ls (.int x :: rest))) := by
  subst hp; exact Go.on (fun t => XS.ifNo X.here B.1 rfl (hb B.2.1 hd) rfl hc) k
theorem s_icmpY (B : Ctx p s m meth c Z own nm bytes maxL ret) (X : Stand p l e R s m args below meth c T locs cells slots) {cd : ClassFile.Cond} {x y : Int32} {o : Int} (hd : decode bytes pc = .ok (.if_icmp cd o, 3)) (hc : if_icmp.holds cd x y = true) (ho : 0 ≤ (pc : Int) + o) (hp : ((pc : Int) + o).toNat = pc') (k : Go p e below P (T.setTop (mkF m pc' Ls (rest)))) : Go p e below P (T.setTop (mkF m pc Ls (.int y :: .int x :: rest))) := Go.on (fun t => XS.icmpYes X.here B.1 rfl rfl (hb B.2.1 hd) rfl hc ho hp) k
theorem s_icmpN (B : Ctx p s m meth c Z own nm bytes maxL ret) (X : Stand p l e R s m args below meth c T locs cells slots) {cd : ClassFile.Cond} {x y : Int32} {o : Int} (hd : decode bytes pc = .ok (.if_icmp cd o, 3)) (hc : if_icmp.holds cd x y = false) (hp : pc + 3 = pc') (k : Go p e below P (T.setTop (mkF m pc' Ls (rest)))) : Go p e below P (T.setTop (mkF m pc Ls (.int y :: .int x :: rest))) := by
  subst hp; exact Go.on (fun t => XS.icmpNo X.here B.1 rfl (hb B.2.1 hd) rfl hc) k
theorem s_ifnullY (B : Ctx p s m meth c Z own nm bytes maxL ret) (X : Stand p l e R s m args below meth c T locs cells slots)  {o : Int} (hd : decode bytes pc = .ok (.ifnull o, 3))  (ho : 0 ≤ (pc : Int) + o) (hp : ((pc : Int) + o).toNat = pc') (k : Go p e below P (T.setTop (mkF m pc' Ls (rest)))) : Go p e below P (T.setTop (mkF m pc Ls (.null :: rest))) := Go.on (fun t => XS.ifnullYes X.here B.1 rfl rfl (hb B.2.1 hd) rfl ho hp) k
theorem s_ifnullN (B : Ctx p s m meth c Z own nm bytes maxL ret) (X : Stand p l e R s m args below meth c T locs cells slots) {b : Addr} {o : Int} (hd : decode bytes pc = .ok (.ifnull o, 3))  (hp : pc + 3 = pc') (k : Go p e below P (T.setTop (mkF m pc' Ls (rest)))) : Go p e below P (T.setTop (mkF m pc Ls (.ref b :: rest))) := by
  subst hp; exact Go.on (fun t => XS.ifnullNo X.here B.1 rfl (hb B.2.1 hd) rfl) k
theorem s_ifnonnullY (B : Ctx p s m meth c Z own nm bytes maxL ret) (X : Stand p l e R s m args below meth c T locs cells slots) {b : Addr} {o : Int} (hd : decode bytes pc = .ok (.ifnonnull o, 3))  (ho : 0 ≤ (pc : Int) + o) (hp : ((pc : Int) + o).toNat = pc') (k : Go p e below P (T.setTop (mkF m pc' Ls (rest)))) : Go p e below P (T.setTop (mkF m pc Ls (.ref b :: rest))) := Go.on (fun t => XS.ifnonnullYes X.here B.1 rfl rfl (hb B.2.1 hd) rfl ho hp) k
theorem s_ifnonnullN (B : Ctx p s m meth c Z own nm bytes maxL ret) (X : Stand p l e R s m args below meth c T locs cells slots)  {o : Int} (hd : decode bytes pc = .ok (.ifnonnull o, 3))  (hp : pc + 3 = pc') (k : Go p e below P (T.setTop (mkF m pc' Ls (rest)))) : Go p e below P (T.setTop (mkF m pc Ls (.null :: rest))) := by
  subst hp; exact Go.on (fun t => XS.ifnonnullNo X.here B.1 rfl (hb B.2.1 hd) rfl) k
theorem b_icmp_eq (B : Ctx p s m meth c Z own nm bytes maxL ret) (X : Stand p l e R s m args below meth c T locs cells slots) {x y : Int32} {o : Int} {py pn : Nat} (hd : decode bytes pc = .ok (.if_icmp .eq o, 3)) (ho : 0 ≤ (pc : Int) + o) (hy : ((pc : Int) + o).toNat = py) (hn : pc + 3 = pn) (k1 : x = y → Go p e below P (T.setTop (mkF m py Ls (rest)))) (k2 : ¬ x = y → Go p e below P (T.setTop (mkF m pn Ls (rest)))) : Go p e below P (T.setTop (mkF m pc Ls (.int y :: .int x :: rest))) := by
  by_cases q : x = y
  · exact s_icmpY B X hd (teq q).1 ho hy (k1 q)
  · exact s_icmpN B X hd (feq q).1 hn (k2 q)
theorem b_if_eq (B : Ctx p s m meth c Z own nm bytes maxL ret) (X : Stand p l e R s m args below meth c T locs cells slots) {x : Int32} {o : Int} {py pn : Nat} (hd : decode bytes pc = .ok (.ifCond .eq o, 3)) (ho : 0 ≤ (pc : Int) + o) (hy : ((pc : Int) + o).toNat = py) (hn : pc + 3 = pn) (k1 : x = 0 → Go p e below P (T.setTop (mkF m py Ls (rest)))) (k2 : ¬ x = 0 → Go p e below P (T.setTop (mkF m pn Ls (rest)))) : Go p e below P (T.setTop (mkF m pc Ls (.int x :: rest))) := by
  by_cases q : x = 0
  · exact s_ifY B X hd ((if0 _ _).trans (teq q).1) ho hy (k1 q)
  · exact s_ifN B X hd ((if0 _ _).trans (feq q).1) hn (k2 q)
theorem b_icmp_ne (B : Ctx p s m meth c Z own nm bytes maxL ret) (X : Stand p l e R s m args below meth c T locs cells slots) {x y : Int32} {o : Int} {py pn : Nat} (hd : decode bytes pc = .ok (.if_icmp .ne o, 3)) (ho : 0 ≤ (pc : Int) + o) (hy : ((pc : Int) + o).toNat = py) (hn : pc + 3 = pn) (k1 : ¬ x = y → Go p e below P (T.setTop (mkF m py Ls (rest)))) (k2 : x = y → Go p e below P (T.setTop (mkF m pn Ls (rest)))) : Go p e below P (T.setTop (mkF m pc Ls (.int y :: .int x :: rest))) := by
  by_cases q : x = y
  · exact s_icmpN B X hd (teq q).2 hn (k2 q)
  · exact s_icmpY B X hd (feq q).2 ho hy (k1 q)
theorem b_if_ne (B : Ctx p s m meth c Z own nm bytes maxL ret) (X : Stand p l e R s m args below meth c T locs cells slots) {x : Int32} {o : Int} {py pn : Nat} (hd : decode bytes pc = .ok (.ifCond .ne o, 3)) (ho : 0 ≤ (pc : Int) + o) (hy : ((pc : Int) + o).toNat = py) (hn : pc + 3 = pn) (k1 : ¬ x = 0 → Go p e below P (T.setTop (mkF m py Ls (rest)))) (k2 : x = 0 → Go p e below P (T.setTop (mkF m pn Ls (rest)))) : Go p e below P (T.setTop (mkF m pc Ls (.int x :: rest))) := by
  by_cases q : x = 0
  · exact s_ifN B X hd ((if0 _ _).trans (teq q).2) hn (k2 q)
  · exact s_ifY B X hd ((if0 _ _).trans (feq q).2) ho hy (k1 q)
theorem b_icmp_lt (B : Ctx p s m meth c Z own nm bytes maxL ret) (X : Stand p l e R s m args below meth c T locs cells slots) {x y : Int32} {o : Int} {py pn : Nat} (hd : decode bytes pc = .ok (.if_icmp .lt o, 3)) (ho : 0 ≤ (pc : Int) + o) (hy : ((pc : Int) + o).toNat = py) (hn : pc + 3 = pn) (k1 : x < y → Go p e below P (T.setTop (mkF m py Ls (rest)))) (k2 : ¬ x < y → Go p e below P (T.setTop (mkF m pn Ls (rest)))) : Go p e below P (T.setTop (mkF m pc Ls (.int y :: .int x :: rest))) := by
  by_cases q : x < y
  · exact s_icmpY B X hd (tlt q).1 ho hy (k1 q)
  · exact s_icmpN B X hd (flt q).1 hn (k2 q)
theorem b_if_lt (B : Ctx p s m meth c Z own nm bytes maxL ret) (X : Stand p l e R s m args below meth c T locs cells slots) {x : Int32} {o : Int} {py pn : Nat} (hd : decode bytes pc = .ok (.ifCond .lt o, 3)) (ho : 0 ≤ (pc : Int) + o) (hy : ((pc : Int) + o).toNat = py) (hn : pc + 3 = pn) (k1 : x < 0 → Go p e below P (T.setTop (mkF m py Ls (rest)))) (k2 : ¬ x < 0 → Go p e below P (T.setTop (mkF m pn Ls (rest)))) : Go p e below P (T.setTop (mkF m pc Ls (.int x :: rest))) := by
  by_cases q : x < 0
  · exact s_ifY B X hd ((if0 _ _).trans (tlt q).1) ho hy (k1 q)
  · exact s_ifN B X hd ((if0 _ _).trans (flt q).1) hn (k2 q)
theorem b_icmp_ge (B : Ctx p s m meth c Z own nm bytes maxL ret) (X : Stand p l e R s m args below meth c T locs cells slots) {x y : Int32} {o : Int} {py pn : Nat} (hd : decode bytes pc = .ok (.if_icmp .ge o, 3)) (ho : 0 ≤ (pc : Int) + o) (hy : ((pc : Int) + o).toNat = py) (hn : pc + 3 = pn) (k1 : ¬ x < y → Go p e below P (T.setTop (mkF m py Ls (rest)))) (k2 : x < y → Go p e below P (T.setTop (mkF m pn Ls (rest)))) : Go p e below P (T.setTop (mkF m pc Ls (.int y :: .int x :: rest))) := by
  by_cases q : x < y
  · exact s_icmpN B X hd (tlt q).2.1 hn (k2 q)
  · exact s_icmpY B X hd (flt q).2.1 ho hy (k1 q)
theorem b_if_ge (B : Ctx p s m meth c Z own nm bytes maxL ret) (X : Stand p l e R s m args below meth c T locs cells slots) {x : Int32} {o : Int} {py pn : Nat} (hd : decode bytes pc = .ok (.ifCond .ge o, 3)) (ho : 0 ≤ (pc : Int) + o) (hy : ((pc : Int) + o).toNat = py) (hn : pc + 3 = pn) (k1 : ¬ x < 0 → Go p e below P (T.setTop (mkF m py Ls (rest)))) (k2 : x < 0 → Go p e below P (T.setTop (mkF m pn Ls (rest)))) : Go p e below P (T.setTop (mkF m pc Ls (.int x :: rest))) := by
  by_cases q : x < 0
  · exact s_ifN B X hd ((if0 _ _).trans (tlt q).2.1) hn (k2 q)
  · exact s_ifY B X hd ((if0 _ _).trans (flt q).2.1) ho hy (k1 q)
theorem b_icmp_gt (B : Ctx p s m meth c Z own nm bytes maxL ret) (X : Stand p l e R s m args below meth c T locs cells slots) {x y : Int32} {o : Int} {py pn : Nat} (hd : decode bytes pc = .ok (.if_icmp .gt o, 3)) (ho : 0 ≤ (pc : Int) + o) (hy : ((pc : Int) + o).toNat = py) (hn : pc + 3 = pn) (k1 : y < x → Go p e below P (T.setTop (mkF m py Ls (rest)))) (k2 : ¬ y < x → Go p e below P (T.setTop (mkF m pn Ls (rest)))) : Go p e below P (T.setTop (mkF m pc Ls (.int y :: .int x :: rest))) := by
  by_cases q : y < x
  · exact s_icmpY B X hd (tlt q).2.2.1 ho hy (k1 q)
  · exact s_icmpN B X hd (flt q).2.2.1 hn (k2 q)
theorem b_if_gt (B : Ctx p s m meth c Z own nm bytes maxL ret) (X : Stand p l e R s m args below meth c T locs cells slots) {x : Int32} {o : Int} {py pn : Nat} (hd : decode bytes pc = .ok (.ifCond .gt o, 3)) (ho : 0 ≤ (pc : Int) + o) (hy : ((pc : Int) + o).toNat = py) (hn : pc + 3 = pn) (k1 : 0 < x → Go p e below P (T.setTop (mkF m py Ls (rest)))) (k2 : ¬ 0 < x → Go p e below P (T.setTop (mkF m pn Ls (rest)))) : Go p e below P (T.setTop (mkF m pc Ls (.int x :: rest))) := by
  by_cases q : 0 < x
  · exact s_ifY B X hd ((if0 _ _).trans (tlt q).2.2.1) ho hy (k1 q)
  · exact s_ifN B X hd ((if0 _ _).trans (flt q).2.2.1) hn (k2 q)
theorem b_icmp_le (B : Ctx p s m meth c Z own nm bytes maxL ret) (X : Stand p l e R s m args below meth c T locs cells slots) {x y : Int32} {o : Int} {py pn : Nat} (hd : decode bytes pc = .ok (.if_icmp .le o, 3)) (ho : 0 ≤ (pc : Int) + o) (hy : ((pc : Int) + o).toNat = py) (hn : pc + 3 = pn) (k1 : ¬ y < x → Go p e below P (T.setTop (mkF m py Ls (rest)))) (k2 : y < x → Go p e below P (T.setTop (mkF m pn Ls (rest)))) : Go p e below P (T.setTop (mkF m pc Ls (.int y :: .int x :: rest))) := by
  by_cases q : y < x
  · exact s_icmpN B X hd (tlt q).2.2.2 hn (k2 q)
  · exact s_icmpY B X hd (flt q).2.2.2 ho hy (k1 q)
theorem b_if_le (B : Ctx p s m meth c Z own nm bytes maxL ret) (X : Stand p l e R s m args below meth c T locs cells slots) {x : Int32} {o : Int} {py pn : Nat} (hd : decode bytes pc = .ok (.ifCond .le o, 3)) (ho : 0 ≤ (pc : Int) + o) (hy : ((pc : Int) + o).toNat = py) (hn : pc + 3 = pn) (k1 : ¬ 0 < x → Go p e below P (T.setTop (mkF m py Ls (rest)))) (k2 : 0 < x → Go p e below P (T.setTop (mkF m pn Ls (rest)))) : Go p e below P (T.setTop (mkF m pc Ls (.int x :: rest))) := by
  by_cases q : 0 < x
  · exact s_ifN B X hd ((if0 _ _).trans (tlt q).2.2.2) hn (k2 q)
  · exact s_ifY B X hd ((if0 _ _).trans (flt q).2.2.2) ho hy (k1 q)
theorem b_lcmp_eq (B : Ctx p s m meth c Z own nm bytes maxL ret) (X : Stand p l e R s m args below meth c T locs cells slots) {x y : Int64} {pc0 : Nat} {o : Int} {py pn : Nat} (hd0 : decode bytes pc0 = .ok (.lcmp, 1)) (hp0 : pc0 + 1 = pc) (hd : decode bytes pc = .ok (.ifCond .eq o, 3)) (ho : 0 ≤ (pc : Int) + o) (hy : ((pc : Int) + o).toNat = py) (hn : pc + 3 = pn) (k1 : x = y → Go p e below P (T.setTop (mkF m py Ls (rest)))) (k2 : ¬ x = y → Go p e below P (T.setTop (mkF m pn Ls (rest)))) : Go p e below P (T.setTop (mkF m pc0 Ls (.long y :: .long x :: rest))) := by
  by_cases q : x = y
  · exact s_lcmp B X hd0 hp0 (s_ifY B X hd ((if0 _ _).trans (teq ((lw_eq x y).mpr q)).1) ho hy (k1 q))
  · exact s_lcmp B X hd0 hp0 (s_ifN B X hd ((if0 _ _).trans (feq (fun z => q ((lw_eq x y).mp z))).1) hn (k2 q))
theorem b_lcmp_ne (B : Ctx p s m meth c Z own nm bytes maxL ret) (X : Stand p l e R s m args below meth c T locs cells slots) {x y : Int64} {pc0 : Nat} {o : Int} {py pn : Nat} (hd0 : decode bytes pc0 = .ok (.lcmp, 1)) (hp0 : pc0 + 1 = pc) (hd : decode bytes pc = .ok (.ifCond .ne o, 3)) (ho : 0 ≤ (pc : Int) + o) (hy : ((pc : Int) + o).toNat = py) (hn : pc + 3 = pn) (k1 : ¬ x = y → Go p e below P (T.setTop (mkF m py Ls (rest)))) (k2 : x = y → Go p e below P (T.setTop (mkF m pn Ls (rest)))) : Go p e below P (T.setTop (mkF m pc0 Ls (.long y :: .long x :: rest))) := by
  by_cases q : x = y
  · exact s_lcmp B X hd0 hp0 (s_ifN B X hd ((if0 _ _).trans (teq ((lw_eq x y).mpr q)).2) hn (k2 q))
  · exact s_lcmp B X hd0 hp0 (s_ifY B X hd ((if0 _ _).trans (feq (fun z => q ((lw_eq x y).mp z))).2) ho hy (k1 q))
theorem b_lcmp_lt (B : Ctx p s m meth c Z own nm bytes maxL ret) (X : Stand p l e R s m args below meth c T locs cells slots) {x y : Int64} {pc0 : Nat} {o : Int} {py pn : Nat} (hd0 : decode bytes pc0 = .ok (.lcmp, 1)) (hp0 : pc0 + 1 = pc) (hd : decode bytes pc = .ok (.ifCond .lt o, 3)) (ho : 0 ≤ (pc : Int) + o) (hy : ((pc : Int) + o).toNat = py) (hn : pc + 3 = pn) (k1 : x < y → Go p e below P (T.setTop (mkF m py Ls (rest)))) (k2 : ¬ x < y → Go p e below P (T.setTop (mkF m pn Ls (rest)))) : Go p e below P (T.setTop (mkF m pc0 Ls (.long y :: .long x :: rest))) := by
  by_cases q : x < y
  · exact s_lcmp B X hd0 hp0 (s_ifY B X hd ((if0 _ _).trans (tlt ((lw_lt x y).mpr q)).1) ho hy (k1 q))
  · exact s_lcmp B X hd0 hp0 (s_ifN B X hd ((if0 _ _).trans (flt (fun z => q ((lw_lt x y).mp z))).1) hn (k2 q))
theorem b_lcmp_ge (B : Ctx p s m meth c Z own nm bytes maxL ret) (X : Stand p l e R s m args below meth c T locs cells slots) {x y : Int64} {pc0 : Nat} {o : Int} {py pn : Nat} (hd0 : decode bytes pc0 = .ok (.lcmp, 1)) (hp0 : pc0 + 1 = pc) (hd : decode bytes pc = .ok (.ifCond .ge o, 3)) (ho : 0 ≤ (pc : Int) + o) (hy : ((pc : Int) + o).toNat = py) (hn : pc + 3 = pn) (k1 : ¬ x < y → Go p e below P (T.setTop (mkF m py Ls (rest)))) (k2 : x < y → Go p e below P (T.setTop (mkF m pn Ls (rest)))) : Go p e below P (T.setTop (mkF m pc0 Ls (.long y :: .long x :: rest))) := by
  by_cases q : x < y
  · exact s_lcmp B X hd0 hp0 (s_ifN B X hd ((if0 _ _).trans (tlt ((lw_lt x y).mpr q)).2.1) hn (k2 q))
  · exact s_lcmp B X hd0 hp0 (s_ifY B X hd ((if0 _ _).trans (flt (fun z => q ((lw_lt x y).mp z))).2.1) ho hy (k1 q))
theorem b_lcmp_gt (B : Ctx p s m meth c Z own nm bytes maxL ret) (X : Stand p l e R s m args below meth c T locs cells slots) {x y : Int64} {pc0 : Nat} {o : Int} {py pn : Nat} (hd0 : decode bytes pc0 = .ok (.lcmp, 1)) (hp0 : pc0 + 1 = pc) (hd : decode bytes pc = .ok (.ifCond .gt o, 3)) (ho : 0 ≤ (pc : Int) + o) (hy : ((pc : Int) + o).toNat = py) (hn : pc + 3 = pn) (k1 : y < x → Go p e below P (T.setTop (mkF m py Ls (rest)))) (k2 : ¬ y < x → Go p e below P (T.setTop (mkF m pn Ls (rest)))) : Go p e below P (T.setTop (mkF m pc0 Ls (.long y :: .long x :: rest))) := by
  by_cases q : y < x
  · exact s_lcmp B X hd0 hp0 (s_ifY B X hd ((if0 _ _).trans (tlt ((lw_gt x y).mpr q)).2.2.1) ho hy (k1 q))
  · exact s_lcmp B X hd0 hp0 (s_ifN B X hd ((if0 _ _).trans (flt (fun z => q ((lw_gt x y).mp z))).2.2.1) hn (k2 q))
theorem b_lcmp_le (B : Ctx p s m meth c Z own nm bytes maxL ret) (X : Stand p l e R s m args below meth c T locs cells slots) {x y : Int64} {pc0 : Nat} {o : Int} {py pn : Nat} (hd0 : decode bytes pc0 = .ok (.lcmp, 1)) (hp0 : pc0 + 1 = pc) (hd : decode bytes pc = .ok (.ifCond .le o, 3)) (ho : 0 ≤ (pc : Int) + o) (hy : ((pc : Int) + o).toNat = py) (hn : pc + 3 = pn) (k1 : ¬ y < x → Go p e below P (T.setTop (mkF m py Ls (rest)))) (k2 : y < x → Go p e below P (T.setTop (mkF m pn Ls (rest)))) : Go p e below P (T.setTop (mkF m pc0 Ls (.long y :: .long x :: rest))) := by
  by_cases q : y < x
  · exact s_lcmp B X hd0 hp0 (s_ifN B X hd ((if0 _ _).trans (tlt ((lw_gt x y).mpr q)).2.2.2) hn (k2 q))
  · exact s_lcmp B X hd0 hp0 (s_ifY B X hd ((if0 _ _).trans (flt (fun z => q ((lw_gt x y).mp z))).2.2.2) ho hy (k1 q))
theorem b_acmp_eq (B : Ctx p s m meth c Z own nm bytes maxL ret) (X : Stand p l e R s m args below meth c T locs cells slots) {a b : Addr} {o : Int} {py pn : Nat} (hd : decode bytes pc = .ok (.if_acmp .eq o, 3)) (ho : 0 ≤ (pc : Int) + o) (hy : ((pc : Int) + o).toNat = py) (hn : pc + 3 = pn) (k1 : a = b → Go p e below P (T.setTop (mkF m py Ls (rest)))) (k2 : ¬ a = b → Go p e below P (T.setTop (mkF m pn Ls (rest)))) : Go p e below P (T.setTop (mkF m pc Ls (.ref b :: .ref a :: rest))) := by
  by_cases q : a = b
  · exact Go.on (fun t => Jvm.RoadKit.acmp X B.1 rfl rfl rfl (same := true) rfl (hb B.2.1 hd) rfl (decide_eq_true (congrArg Value.ref q)) ho (by simp [acV, hy])) (k1 q)
  · exact Go.on (fun t => Jvm.RoadKit.acmp X B.1 rfl rfl rfl (same := false) rfl (hb B.2.1 hd) rfl (decide_eq_false fun z => q (Value.ref.inj z)) ho (by simp [acV, hn])) (k2 q)
theorem b_acmp_ne (B : Ctx p s m meth c Z own nm bytes maxL ret) (X : Stand p l e R s m args below meth c T locs cells slots) {a b : Addr} {o : Int} {py pn : Nat} (hd : decode bytes pc = .ok (.if_acmp .ne o, 3)) (ho : 0 ≤ (pc : Int) + o) (hy : ((pc : Int) + o).toNat = py) (hn : pc + 3 = pn) (k1 : ¬ a = b → Go p e below P (T.setTop (mkF m py Ls (rest)))) (k2 : a = b → Go p e below P (T.setTop (mkF m pn Ls (rest)))) : Go p e below P (T.setTop (mkF m pc Ls (.ref b :: .ref a :: rest))) := by
  by_cases q : a = b
  · exact Go.on (fun t => Jvm.RoadKit.acmp X B.1 rfl rfl rfl (same := true) rfl (hb B.2.1 hd) rfl (decide_eq_true (congrArg Value.ref q)) ho (by simp [acV, hn])) (k2 q)
  · exact Go.on (fun t => Jvm.RoadKit.acmp X B.1 rfl rfl rfl (same := false) rfl (hb B.2.1 hd) rfl (decide_eq_false fun z => q (Value.ref.inj z)) ho (by simp [acV, hy])) (k1 q)
theorem b_ifnull (B : Ctx p s m meth c Z own nm bytes maxL ret) (X : Stand p l e R s m args below meth c T locs cells slots) {v : Value} {o : Int} {py pn : Nat} (hv : v.isRef = true) (hd : decode bytes pc = .ok (.ifnull o, 3)) (ho : 0 ≤ (pc : Int) + o) (hy : ((pc : Int) + o).toNat = py) (hn : pc + 3 = pn) (k1 : v = .null → Go p e below P (T.setTop (mkF m py Ls (rest)))) (k2 : ¬ v = .null → Go p e below P (T.setTop (mkF m pn Ls (rest)))) : Go p e below P (T.setTop (mkF m pc Ls (v :: rest))) := by
  rcases ref_cases hv with rfl | ⟨a, rfl⟩
  · exact s_ifnullY B X hd ho hy (k1 rfl)
  · exact s_ifnullN B X hd hn (k2 nofun)
theorem b_ifnonnull (B : Ctx p s m meth c Z own nm bytes maxL ret) (X : Stand p l e R s m args below meth c T locs cells slots) {v : Value} {o : Int} {py pn : Nat} (hv : v.isRef = true) (hd : decode bytes pc = .ok (.ifnonnull o, 3)) (ho : 0 ≤ (pc : Int) + o) (hy : ((pc : Int) + o).toNat = py) (hn : pc + 3 = pn) (k1 : ¬ v = .null → Go p e below P (T.setTop (mkF m py Ls (rest)))) (k2 : v = .null → Go p e below P (T.setTop (mkF m pn Ls (rest)))) : Go p e below P (T.setTop (mkF m pc Ls (v :: rest))) := by
  rcases ref_cases hv with rfl | ⟨a, rfl⟩
  · exact s_ifnonnullN B X hd hn (k2 rfl)
  · exact s_ifnonnullY B X hd ho hy (k1 nofun)
theorem s_ldc (B : Ctx p s m meth c Z own nm bytes maxL ret) (X : Stand p l e R s m args below meth c T locs cells slots) {i : Nat} {v : Int32} (w : (Jvm.Cond.constant own i v).before a0 Z = true) (hd : decode bytes pc = .ok (.ldc i, 2)) (hp : pc + 2 = pc') (k : Go p e below P (T.setTop (mkF m pc' Ls (.int v :: rest)))) : Go p e below P (T.setTop (mkF m pc Ls (rest))) := by
  subst hp; exact Go.on (fun t => X.ldcI B.1 B.2.2.2.1 (mv B.2.2.2.2.2.2.2 w) rfl (hb B.2.1 hd)) k
theorem s_ldc2 (B : Ctx p s m meth c Z own nm bytes maxL ret) (X : Stand p l e R s m args below meth c T locs cells slots) {i : Nat} {v : Int64} (w : (Jvm.Cond.constantLong own i v).before a0 Z = true) (hd : decode bytes pc = .ok (.ldc2_w i, 3)) (hp : pc + 3 = pc') (k : Go p e below P (T.setTop (mkF m pc' Ls (.long v :: rest)))) : Go p e below P (T.setTop (mkF m pc Ls (rest))) := by
  subst hp; exact Go.on (fun t => X.ldc2J B.1 B.2.2.2.1 (mv B.2.2.2.2.2.2.2 w) rfl (hb B.2.1 hd)) k
theorem s_getS (B : Ctx p s m meth c Z own nm bytes maxL ret) (X : Stand p l e R s m args below meth c T locs cells slots) {i : Nat} {R0 O n d : String} {v : Value} (eT : T.heap = h) (w : (Jvm.Cond.fieldLink own i R0 n d).before a0 Z = true) (via : Via Z R0 O n d) (F : Sta Z h O n d v) (hd : decode bytes pc = .ok (.getstatic i, 3)) (hp : pc + 3 = pc') (k : ∀ T', Stand p l e R s m args below meth c T' locs cells slots → T'.heap = h → Go p e below P (T'.setTop (mkF m pc' Ls (v :: rest)))) : Go p e below P (T.setTop (mkF m pc Ls (rest))) := by
  subst hp
  obtain ⟨T', X', e', st⟩ := getS X B.1 B.2.2.2.2.2.2.2 (host := "") B.2.2.2.1 w via eT F (g := mkF m pc Ls rest) rfl (hb B.2.1 hd)
  exact Go.on st (k T' X' e')
theorem s_getF (B : Ctx p s m meth c Z own nm bytes maxL ret) (X : Stand p l e R s m args below meth c T locs cells slots) {i : Nat} {R0 O n d host : String} {a : Addr} {v : Value} (eT : T.heap = h) (w : (Jvm.Cond.fieldLink own i R0 n d).before a0 Z = true ∨ (Jvm.Cond.fieldLinkNest own i R0 n d host).before a0 Z = true) (via : Via Z R0 O n d) (F : Fld Z h a O n d v) (hd : decode bytes pc = .ok (.getfield i, 3)) (hp : pc + 3 = pc') (k : ∀ T', Stand p l e R s m args below meth c T' locs cells slots → T'.heap = h → Go p e below P (T'.setTop (mkF m pc' Ls (v :: rest)))) : Go p e below P (T.setTop (mkF m pc Ls (.ref a :: rest))) := by
  subst hp
  obtain ⟨T', X', e', st⟩ := getF X B.1 B.2.2.2.2.2.2.2 B.2.2.2.1 w via eT F (g := mkF m pc Ls (.ref a :: rest)) rfl rfl (hb B.2.1 hd)
  exact Go.on st (k T' X' e')
theorem r_nar (B : Ctx p s m meth c Z own nm bytes maxL ret) (X : Stand p l e R s m args below meth c T locs cells slots) {Q : Option Value → Heap → List Loc → Prop} {kc kn : Nat} {z : Int32} {t : FieldType} (ht : t = .boolean ∨ t = .byte ∨ t = .char ∨ t = .short) (hr : ret = some t) (hd : decode bytes pc = .ok (.ireturn, 1)) (hq : Q (some (.int (nar t z))) T.heap locs) (hc : cells ≤ kc) (hs : slots ≤ kn) : Go p e below (Ends s Q kc kn) (T.setTop (mkF m pc Ls (.int z :: rest))) := by
  obtain ⟨fs, hl, hrun, hended, hW, hsame⟩ := X.leave (v := (some (.int (nar t z)))) (fun h => by rw [B.2.2.2.2.2.1, hr] at h; first | rfl | cases h) B.2.2.2.2.2.2.1
  exact ⟨_, _, retN X B.1 (by rw [B.2.2.2.2.2.1, hr]) ht (hb B.2.1 hd) hl, hrun, hended, _, _, rfl, hq, ⟨_, rfl⟩, hW, hsame.mono hc hs⟩
theorem r_int (B : Ctx p s m meth c Z own nm bytes maxL ret) (X : Stand p l e R s m args below meth c T locs cells slots) {Q : Option Value → Heap → List Loc → Prop} {kc kn : Nat} {z : Int32} (hr : ret = some .int) (hd : decode bytes pc = .ok (.ireturn, 1)) (hq : Q (some (.int z)) T.heap locs) (hc : cells ≤ kc) (hs : slots ≤ kn) : Go p e below (Ends s Q kc kn) (T.setTop (mkF m pc Ls (.int z :: rest))) := by
  obtain ⟨fs, hl, hrun, hended, hW, hsame⟩ := X.leave (v := (some (.int z))) (fun h => by rw [B.2.2.2.2.2.1, hr] at h; first | rfl | cases h) B.2.2.2.2.2.2.1
  exact ⟨_, _, retOut X B.1 (t := .int) (by rw [B.2.2.2.2.2.1, hr]) rfl (Or.inl ⟨rfl, Or.inl rfl, _, rfl⟩) (hb B.2.1 hd) hl, hrun, hended, _, _, rfl, hq, ⟨_, rfl⟩, hW, hsame.mono hc hs⟩
theorem r_long (B : Ctx p s m meth c Z own nm bytes maxL ret) (X : Stand p l e R s m args below meth c T locs cells slots) {Q : Option Value → Heap → List Loc → Prop} {kc kn : Nat} {z : Int64} (hr : ret = some .long) (hd : decode bytes pc = .ok (.lreturn, 1)) (hq : Q (some (.long z)) T.heap locs) (hc : cells ≤ kc) (hs : slots ≤ kn) : Go p e below (Ends s Q kc kn) (T.setTop (mkF m pc Ls (.long z :: rest))) := by
  obtain ⟨fs, hl, hrun, hended, hW, hsame⟩ := X.leave (v := (some (.long z))) (fun h => by rw [B.2.2.2.2.2.1, hr] at h; first | rfl | cases h) B.2.2.2.2.2.2.1
  exact ⟨_, _, retOut X B.1 (t := .long) (by rw [B.2.2.2.2.2.1, hr]) rfl (Or.inr (Or.inl ⟨rfl, rfl, _, rfl⟩)) (hb B.2.1 hd) hl, hrun, hended, _, _, rfl, hq, ⟨_, rfl⟩, hW, hsame.mono hc hs⟩
theorem r_ref (B : Ctx p s m meth c Z own nm bytes maxL ret) (X : Stand p l e R s m args below meth c T locs cells slots) {Q : Option Value → Heap → List Loc → Prop} {kc kn : Nat} {v : Value} {t : FieldType} (ht : t.isReference = true) (hn : narrow t v = v) (hv : v.isRef = true) (hr : ret = some t) (hd : decode bytes pc = .ok (.areturn, 1)) (hq : Q (some v) T.heap locs) (hc : cells ≤ kc) (hs : slots ≤ kn) : Go p e below (Ends s Q kc kn) (T.setTop (mkF m pc Ls (v :: rest))) := by
  obtain ⟨fs, hl, hrun, hended, hW, hsame⟩ := X.leave (v := (some v)) (fun h => by rw [B.2.2.2.2.2.1, hr] at h; first | rfl | cases h) B.2.2.2.2.2.2.1
  exact ⟨_, _, retOut X B.1 (t := t) (by rw [B.2.2.2.2.2.1, hr]) hn (Or.inr (Or.inr (Or.inr (Or.inr ⟨rfl, ht, hv⟩)))) (hb B.2.1 hd) hl, hrun, hended, _, _, rfl, hq, ⟨_, rfl⟩, hW, hsame.mono hc hs⟩
theorem r_void (B : Ctx p s m meth c Z own nm bytes maxL ret) (X : Stand p l e R s m args below meth c T locs cells slots) {Q : Option Value → Heap → List Loc → Prop} {kc kn : Nat} (hr : ret = none) (hd : decode bytes pc = .ok (.return_, 1)) (hq : Q none T.heap locs) (hc : cells ≤ kc) (hs : slots ≤ kn) : Go p e below (Ends s Q kc kn) (T.setTop (mkF m pc Ls [])) := by
  obtain ⟨fs, hl, hrun, hended, hW, hsame⟩ := X.leave (v := none) (fun _ => rfl) B.2.2.2.2.2.2.1
  exact ⟨_, _, X.returnOut B.1 (by rw [B.2.2.2.2.2.1, hr]) (hb B.2.1 hd) hl, hrun, hended, _, _, rfl, hq, ⟨_, rfl⟩, hW, hsame.mono hc hs⟩
theorem c_virtual (B : Ctx p s m meth c Z own nm bytes maxL ret) (X : Stand p l e R s m args below meth c T locs cells slots) {y : MethodName} {bs : ByteArray} {mx : Nat} {rt : Option FieldType} {rm : Room} {i W : Nat} {argsL under : List Value} {Q : Option Value → Heap → List Loc → Prop} {st : List Value} {C : String} {b : Addr} (eT : T.heap = h) (w1 : (Jvm.Cond.methodLink own i y).before a0 Z = true) (w2 : (Jvm.Cond.declares y).before a0 Z = true) (w3 : (Jvm.Cond.selects C y y).before a0 Z = true) (w4 : (Jvm.Cond.instanceMethod y).before a0 Z = true) (wc : (Jvm.Cond.code y bs mx rt).before a0 Z = true) (wz : (Jvm.Cond.initialized y.cls).before a0 Z = true) (hy : y.cls ≠ "java/lang/invoke/MethodHandle" ∧ y.cls ≠ "java/lang/invoke/VarHandle") (hM : OMeets l Z y bs mx rt [] rm (.ref b :: argsL).toArray h Q) (E : Exa Z h b C) (hlen : ∀ sig, parseMethodDescriptor y.desc = some sig → argsL.length = sig.parameters.length) (hst : st = argsL.reverse ++ .ref b :: under) (hW : (under.map fun v => v.category).sum = W) (hf : rm.frames + 1 ≤ R.frames) (hlo : W + (mx + 11) + rm.locals ≤ R.locals) (hce : cells + rm.cells ≤ R.cells) (hsl : slots + rm.slots ≤ R.slots) (hsz : Ls.size = maxL) (hd : decode bytes pc = .ok (.invokevirtual i, 3)) (hp : pc + 3 = pc') (k : ∀ v T' L, Stand p l e R s m args below meth c T' (locs ++ L) (cells + rm.cells) (slots + rm.slots) → Q v T'.heap L → Go p e below P (T'.setTop (mkF m pc' Ls (v.toList ++ under)))) : Go p e below P (T.setTop (mkF m pc Ls st)) := by
  subst hp hst
  obtain ⟨cq, kq, qa, qb, qc⟩ := isOf B.2.2.2.2.2.2.2 eT E
  obtain ⟨v, _, ⟨T', L', k', n'⟩, -, X', ⟨Lc, hQ, l', y', z'⟩, st'⟩ := X.virtualBack B.1 (y := y) B.2.2.2.1 (mvT B.2.2.2.2.2.2.2 w1) (mvT B.2.2.2.2.2.2.2 w2) (notFace_of_selects (args := #[]) (mvT B.2.2.2.2.2.2.2 w3)) (mvT B.2.2.2.2.2.2.2 w3) (mvT B.2.2.2.2.2.2.2 w4) hy (z := y) (backOf (W := W) hM B.2.2.2.2.2.2.2 wc wz hf hlo) qa qc (g := mkF m pc Ls (argsL.reverse ++ .ref b :: under)) rfl (by rw [B.2.2.1]; exact hsz) (Steps.refl _) (argsL := argsL) (rest := under) hlen rfl (by show 2 * 0 + _ ≤ _; rw [Nat.mul_zero, Nat.zero_add]; exact Nat.le_of_eq hW) (hb B.2.1 hd) (fun _ _ => ⟨rfl, eT, hce, hsl⟩)
  dsimp only [Pt.U, Pt.locs, Pt.cells, Pt.slots] at X' l' y' z' st' hQ
  subst l' y' z'
  exact Go.on (fun t q => st'.trans q) (k v T' Lc X' hQ)
theorem c_static (B : Ctx p s m meth c Z own nm bytes maxL ret) (X : Stand p l e R s m args below meth c T locs cells slots) {y : MethodName} {bs : ByteArray} {mx : Nat} {rt : Option FieldType} {rm : Room} {i W : Nat} {argsL under : List Value} {Q : Option Value → Heap → List Loc → Prop} {st : List Value} (eT : T.heap = h) (w1 : (Jvm.Cond.methodLink own i y).before a0 Z = true) (w2 : (Jvm.Cond.static y).before a0 Z = true) (wc : (Jvm.Cond.code y bs mx rt).before a0 Z = true) (wz : (Jvm.Cond.initialized y.cls).before a0 Z = true) (hy : y.cls ≠ "java/lang/invoke/MethodHandle" ∧ y.cls ≠ "java/lang/invoke/VarHandle") (hM : OMeets l Z y bs mx rt [] rm argsL.toArray h Q) (hlen : ∀ sig, parseMethodDescriptor y.desc = some sig → argsL.length = sig.parameters.length) (hst : st = argsL.reverse ++ under) (hW : (under.map fun v => v.category).sum = W) (hf : rm.frames + 1 ≤ R.frames) (hlo : W + (mx + 11) + rm.locals ≤ R.locals) (hce : cells + rm.cells ≤ R.cells) (hsl : slots + rm.slots ≤ R.slots) (hsz : Ls.size = maxL) (hd : decode bytes pc = .ok (.invokestatic i, 3)) (hp : pc + 3 = pc') (k : ∀ v T' L, Stand p l e R s m args below meth c T' (locs ++ L) (cells + rm.cells) (slots + rm.slots) → Q v T'.heap L → Go p e below P (T'.setTop (mkF m pc' Ls (v.toList ++ under)))) : Go p e below P (T.setTop (mkF m pc Ls st)) := by
  subst hp hst
  obtain ⟨v, _, ⟨T', L', k', n'⟩, -, X', ⟨Lc, hQ, l', y', z'⟩, st'⟩ := Jvm.LawKit.callS X B.1 (y := y) B.2.2.2.1 (mvT B.2.2.2.2.2.2.2 w1) (mvT B.2.2.2.2.2.2.2 w2) (mvT B.2.2.2.2.2.2.2 wz) (mvT B.2.2.2.2.2.2.2 wc) hy (backOf (W := W) hM B.2.2.2.2.2.2.2 wc wz hf hlo) (g := mkF m pc Ls (argsL.reverse ++ under)) rfl (by rw [B.2.2.1]; exact hsz) (argsL := argsL) (rest := under) hlen rfl (by show 2 * 0 + _ ≤ _; rw [Nat.mul_zero, Nat.zero_add]; exact Nat.le_of_eq hW) (hb B.2.1 hd) (fun _ _ => ⟨rfl, eT, hce, hsl⟩)
  dsimp only [Pt.U, Pt.locs, Pt.cells, Pt.slots] at X' l' y' z' st' hQ
  subst l' y' z'
  exact Go.on st' (k v T' Lc X' hQ)
theorem c_init (B : Ctx p s m meth c Z own nm bytes maxL ret) (X : Stand p l e R s m args below meth c T locs cells slots) {y : MethodName} {bs : ByteArray} {mx : Nat} {rm : Room} {i W : Nat} {argsL under : List Value} {Q : Option Value → Heap → List Loc → Prop} {st : List Value} {b : Addr} (eT : T.heap = h) (hy1 : y.name = "<init>") (w1 : (Jvm.Cond.methodLink own i y).before a0 Z = true) (w2 : (Jvm.Cond.instanceMethod y).before a0 Z = true) (wc : (Jvm.Cond.code y bs mx none).before a0 Z = true) (wz : (Jvm.Cond.initialized y.cls).before a0 Z = true) (hy : y.cls ≠ "java/lang/invoke/MethodHandle" ∧ y.cls ≠ "java/lang/invoke/VarHandle") (hM : OMeets l Z y bs mx none [] rm (.ref b :: argsL).toArray h Q) (hlen : ∀ sig, parseMethodDescriptor y.desc = some sig → argsL.length = sig.parameters.length) (hst : st = argsL.reverse ++ .ref b :: under) (hW : (under.map fun v => v.category).sum = W) (hf : rm.frames + 1 ≤ R.frames) (hlo : W + (mx + 11) + rm.locals ≤ R.locals) (hce : cells + rm.cells ≤ R.cells) (hsl : slots + rm.slots ≤ R.slots) (hsz : Ls.size = maxL) (hd : decode bytes pc = .ok (.invokespecial i, 3)) (hp : pc + 3 = pc') (k : ∀ v T' L, Stand p l e R s m args below meth c T' (locs ++ L) (cells + rm.cells) (slots + rm.slots) → Q v T'.heap L → Go p e below P (T'.setTop (mkF m pc' Ls (v.toList ++ under)))) : Go p e below P (T.setTop (mkF m pc Ls st)) := by
  subst hp hst
  obtain ⟨v, _, ⟨T', L', k', n'⟩, -, X', ⟨Lc, hQ, l', y', z'⟩, st'⟩ := X.specialBack B.1 (y := y) hy1 B.2.2.2.1 (mvT B.2.2.2.2.2.2.2 w1) (mvT B.2.2.2.2.2.2.2 w2) (mvT B.2.2.2.2.2.2.2 wc) hy (backOf (W := W) hM B.2.2.2.2.2.2.2 wc wz hf hlo) (g := mkF m pc Ls (argsL.reverse ++ .ref b :: under)) rfl (by rw [B.2.2.1]; exact hsz) (Steps.refl _) (a := b) (argsL := argsL) (rest := under) hlen rfl (by show 2 * 0 + _ ≤ _; rw [Nat.mul_zero, Nat.zero_add]; exact Nat.le_of_eq hW) (hb B.2.1 hd) (fun _ _ => ⟨rfl, eT, hce, hsl⟩)
  dsimp only [Pt.U, Pt.locs, Pt.cells, Pt.slots] at X' l' y' z' st' hQ
  subst l' y' z'
  exact Go.on (fun t q => st'.trans q) (k v T' Lc X' hQ)
theorem p_virtual (B : Ctx p s m meth c Z own nm bytes maxL ret) (X : Stand p l e R s m args below meth c T locs cells slots) {y : MethodName} {bs : ByteArray} {mx : Nat} {rt : Option FieldType} {rm : Room} {i W : Nat} {argsL under : List Value} {st : List Value} {C : String} {b : Addr} {r : Option Value} (eT : T.heap = h) (w1 : (Jvm.Cond.methodLink own i y).before a0 Z = true) (w2 : (Jvm.Cond.declares y).before a0 Z = true) (w3 : (Jvm.Cond.selects C y y).before a0 Z = true) (w4 : (Jvm.Cond.instanceMethod y).before a0 Z = true) (wc : (Jvm.Cond.code y bs mx rt).before a0 Z = true) (wz : (Jvm.Cond.initialized y.cls).before a0 Z = true) (hy : y.cls ≠ "java/lang/invoke/MethodHandle" ∧ y.cls ≠ "java/lang/invoke/VarHandle") (hM : OMeets l Z y bs mx rt [] rm (.ref b :: argsL).toArray h (PureQ r h)) (E : Exa Z h b C) (hlen : ∀ sig, parseMethodDescriptor y.desc = some sig → argsL.length = sig.parameters.length) (hst : st = argsL.reverse ++ .ref b :: under) (hW : (under.map fun v => v.category).sum = W) (hf : rm.frames + 1 ≤ R.frames) (hlo : W + (mx + 11) + rm.locals ≤ R.locals) (hce : rm.cells = 0) (hsl : rm.slots = 0) (hc0 : cells ≤ R.cells) (hs0 : slots ≤ R.slots) (hsz : Ls.size = maxL) (hd : decode bytes pc = .ok (.invokevirtual i, 3)) (hp : pc + 3 = pc') (k : ∀ T', Stand p l e R s m args below meth c T' locs cells slots → T'.heap = h → Go p e below P (T'.setTop (mkF m pc' Ls (r.toList ++ under)))) : Go p e below P (T.setTop (mkF m pc Ls st)) := by
  refine c_virtual B X eT w1 w2 w3 w4 wc wz hy hM E hlen hst hW hf hlo (by omega) (by omega) hsz hd hp ?_
  intro v T' L X' hQ
  obtain ⟨rfl, rfl, e'⟩ := hQ
  rw [hce, hsl, List.append_nil] at X'
  exact k T' X' e'
theorem p_static (B : Ctx p s m meth c Z own nm bytes maxL ret) (X : Stand p l e R s m args below meth c T locs cells slots) {y : MethodName} {bs : ByteArray} {mx : Nat} {rt : Option FieldType} {rm : Room} {i W : Nat} {argsL under : List Value} {st : List Value}  {r : Option Value} (eT : T.heap = h) (w1 : (Jvm.Cond.methodLink own i y).before a0 Z = true) (w2 : (Jvm.Cond.static y).before a0 Z = true) (wc : (Jvm.Cond.code y bs mx rt).before a0 Z = true) (wz : (Jvm.Cond.initialized y.cls).before a0 Z = true) (hy : y.cls ≠ "java/lang/invoke/MethodHandle" ∧ y.cls ≠ "java/lang/invoke/VarHandle") (hM : OMeets l Z y bs mx rt [] rm argsL.toArray h (PureQ r h))  (hlen : ∀ sig, parseMethodDescriptor y.desc = some sig → argsL.length = sig.parameters.length) (hst : st = argsL.reverse ++ under) (hW : (under.map fun v => v.category).sum = W) (hf : rm.frames + 1 ≤ R.frames) (hlo : W + (mx + 11) + rm.locals ≤ R.locals) (hce : rm.cells = 0) (hsl : rm.slots = 0) (hc0 : cells ≤ R.cells) (hs0 : slots ≤ R.slots) (hsz : Ls.size = maxL) (hd : decode bytes pc = .ok (.invokestatic i, 3)) (hp : pc + 3 = pc') (k : ∀ T', Stand p l e R s m args below meth c T' locs cells slots → T'.heap = h → Go p e below P (T'.setTop (mkF m pc' Ls (r.toList ++ under)))) : Go p e below P (T.setTop (mkF m pc Ls st)) := by
  refine c_static B X eT w1 w2 wc wz hy hM hlen hst hW hf hlo (by omega) (by omega) hsz hd hp ?_
  intro v T' L X' hQ
  obtain ⟨rfl, rfl, e'⟩ := hQ
  rw [hce, hsl, List.append_nil] at X'
  exact k T' X' e'
theorem p_init (B : Ctx p s m meth c Z own nm bytes maxL ret) (X : Stand p l e R s m args below meth c T locs cells slots) {y : MethodName} {bs : ByteArray} {mx : Nat} {rm : Room} {i W : Nat} {argsL under : List Value} {st : List Value} {b : Addr} (eT : T.heap = h) (hy1 : y.name = "<init>") (w1 : (Jvm.Cond.methodLink own i y).before a0 Z = true) (w2 : (Jvm.Cond.instanceMethod y).before a0 Z = true) (wc : (Jvm.Cond.code y bs mx none).before a0 Z = true) (wz : (Jvm.Cond.initialized y.cls).before a0 Z = true) (hy : y.cls ≠ "java/lang/invoke/MethodHandle" ∧ y.cls ≠ "java/lang/invoke/VarHandle") (hM : OMeets l Z y bs mx none [] rm (.ref b :: argsL).toArray h (PureQ none h)) (hlen : ∀ sig, parseMethodDescriptor y.desc = some sig → argsL.length = sig.parameters.length) (hst : st = argsL.reverse ++ .ref b :: under) (hW : (under.map fun v => v.category).sum = W) (hf : rm.frames + 1 ≤ R.frames) (hlo : W + (mx + 11) + rm.locals ≤ R.locals) (hce : rm.cells = 0) (hsl : rm.slots = 0) (hc0 : cells ≤ R.cells) (hs0 : slots ≤ R.slots) (hsz : Ls.size = maxL) (hd : decode bytes pc = .ok (.invokespecial i, 3)) (hp : pc + 3 = pc') (k : ∀ T', Stand p l e R s m args below meth c T' locs cells slots → T'.heap = h → Go p e below P (T'.setTop (mkF m pc' Ls under))) : Go p e below P (T.setTop (mkF m pc Ls st)) := by
  refine c_init B X eT hy1 w1 w2 wc wz hy hM hlen hst hW hf hlo (by omega) (by omega) hsz hd hp ?_
  intro v T' L X' hQ
  obtain ⟨rfl, rfl, e'⟩ := hQ
  rw [hce, hsl, List.append_nil] at X'
  exact k T' X' e'
theorem c_virtualUp (B : Ctx p s m meth c Z own nm bytes maxL ret) (X : Stand p l e R s m args below meth c T locs cells slots) {y z : MethodName} {bs : ByteArray} {mx : Nat} {rt : Option FieldType} {rm : Room} {i W : Nat} {argsL under : List Value} {Q : Option Value → Heap → List Loc → Prop} {st : List Value} {C owner : String} {b : Addr} (eT : T.heap = h) (w1 : (Jvm.Cond.methodLink own i y).before a0 Z = true) (ws : (Jvm.Cond.sameMethod y.cls owner y.name y.desc).before a0 Z = true) (w2 : (Jvm.Cond.declares ⟨owner, y.name, y.desc⟩).before a0 Z = true) (w3 : (Jvm.Cond.selects C y z).before a0 Z = true) (w4 : (Jvm.Cond.instanceMethod z).before a0 Z = true) (wc : (Jvm.Cond.code z bs mx rt).before a0 Z = true) (wz : (Jvm.Cond.initialized z.cls).before a0 Z = true) (hy : owner ≠ "java/lang/invoke/MethodHandle" ∧ owner ≠ "java/lang/invoke/VarHandle") (hM : OMeets l Z z bs mx rt [] rm (.ref b :: argsL).toArray h Q) (E : Exa Z h b C) (hlen : ∀ sig, parseMethodDescriptor y.desc = some sig → argsL.length = sig.parameters.length) (hst : st = argsL.reverse ++ .ref b :: under) (hW : (under.map fun v => v.category).sum = W) (hf : rm.frames + 1 ≤ R.frames) (hlo : W + (mx + 11) + rm.locals ≤ R.locals) (hce : cells + rm.cells ≤ R.cells) (hsl : slots + rm.slots ≤ R.slots) (hsz : Ls.size = maxL) (hd : decode bytes pc = .ok (.invokevirtual i, 3)) (hp : pc + 3 = pc') (k : ∀ v T' L, Stand p l e R s m args below meth c T' (locs ++ L) (cells + rm.cells) (slots + rm.slots) → Q v T'.heap L → Go p e below P (T'.setTop (mkF m pc' Ls (v.toList ++ under)))) : Go p e below P (T.setTop (mkF m pc Ls st)) := by
  subst hp hst
  obtain ⟨cq, kq, qa, qb, qc⟩ := isOf B.2.2.2.2.2.2.2 eT E
  obtain ⟨v, _, ⟨T', L', k', n'⟩, -, X', ⟨Lc, hQ, l', y', z'⟩, st'⟩ := X.virtualBackUp B.1 (x := y) (y := z) B.2.2.2.1 (mvT B.2.2.2.2.2.2.2 w1) (mvT B.2.2.2.2.2.2.2 ws) (mvT B.2.2.2.2.2.2.2 w2) hy (mvT B.2.2.2.2.2.2.2 w3) (mvT B.2.2.2.2.2.2.2 w4) (backOf (W := W) hM B.2.2.2.2.2.2.2 wc wz hf hlo) qa qc (g := mkF m pc Ls (argsL.reverse ++ .ref b :: under)) rfl (by rw [B.2.2.1]; exact hsz) (Steps.refl _) (argsL := argsL) (rest := under) hlen rfl (by show 2 * 0 + _ ≤ _; rw [Nat.mul_zero, Nat.zero_add]; exact Nat.le_of_eq hW) (hb B.2.1 hd) (fun _ _ => ⟨rfl, eT, hce, hsl⟩)
  dsimp only [Pt.U, Pt.locs, Pt.cells, Pt.slots] at X' l' y' z' st' hQ
  subst l' y' z'
  exact Go.on (fun t q => st'.trans q) (k v T' Lc X' hQ)
theorem p_virtualUp (B : Ctx p s m meth c Z own nm bytes maxL ret) (X : Stand p l e R s m args below meth c T locs cells slots) {y z : MethodName} {bs : ByteArray} {mx : Nat} {rt : Option FieldType} {rm : Room} {i W : Nat} {argsL under : List Value} {st : List Value} {C owner : String} {b : Addr} {r : Option Value} (eT : T.heap = h) (w1 : (Jvm.Cond.methodLink own i y).before a0 Z = true) (ws : (Jvm.Cond.sameMethod y.cls owner y.name y.desc).before a0 Z = true) (w2 : (Jvm.Cond.declares ⟨owner, y.name, y.desc⟩).before a0 Z = true) (w3 : (Jvm.Cond.selects C y z).before a0 Z = true) (w4 : (Jvm.Cond.instanceMethod z).before a0 Z = true) (wc : (Jvm.Cond.code z bs mx rt).before a0 Z = true) (wz : (Jvm.Cond.initialized z.cls).before a0 Z = true) (hy : owner ≠ "java/lang/invoke/MethodHandle" ∧ owner ≠ "java/lang/invoke/VarHandle") (hM : OMeets l Z z bs mx rt [] rm (.ref b :: argsL).toArray h (PureQ r h)) (E : Exa Z h b C) (hlen : ∀ sig, parseMethodDescriptor y.desc = some sig → argsL.length = sig.parameters.length) (hst : st = argsL.reverse ++ .ref b :: under) (hW : (under.map fun v => v.category).sum = W) (hf : rm.frames + 1 ≤ R.frames) (hlo : W + (mx + 11) + rm.locals ≤ R.locals) (hce : rm.cells = 0) (hsl : rm.slots = 0) (hc0 : cells ≤ R.cells) (hs0 : slots ≤ R.slots) (hsz : Ls.size = maxL) (hd : decode bytes pc = .ok (.invokevirtual i, 3)) (hp : pc + 3 = pc') (k : ∀ T', Stand p l e R s m args below meth c T' locs cells slots → T'.heap = h → Go p e below P (T'.setTop (mkF m pc' Ls (r.toList ++ under)))) : Go p e below P (T.setTop (mkF m pc Ls st)) := by
  refine c_virtualUp B X eT w1 ws w2 w3 w4 wc wz hy hM E hlen hst hW hf hlo (by omega) (by omega) hsz hd hp ?_
  intro v T' L X' hQ
  obtain ⟨rfl, rfl, e'⟩ := hQ
  rw [hce, hsl, List.append_nil] at X'
  exact k T' X' e'
end Kit
end Jvm.OwnKit

namespace Jvm.OwnKit
open Sem ClassFile Op Lib Jvm.Stand Jvm.Free Jvm.LawKit Jvm.RoadKit
section Heap
variable {p : Program} {l : Launch} {e : Env} {R : Room} {s : State} {m : MethodId} {args : Array Value} {below : List Frame} {meth : Method} {c : Code} {T : State} {locs : List Loc} {cells slots : Nat} {Z : State} {a0 : Array Value} {h h' : Heap} {own nm : String} {bytes : ByteArray} {maxL : Nat} {ret : Option FieldType} {P : Outcome → State → Prop} {pc pc' : Nat} {Ls Ls' : Array Slot} {rest : List Value} {a b : Addr} {k : ClassId} {ty : FieldType} {n i : Nat} {f g : Nat → Value} {v w : Value} {sl : Nat} {ws : List Addr}
/-- an array at a: n places, place i holds f i -/
def Ary (Z : State) (h : Heap) (a : Addr) (k : ClassId) (ty : FieldType) (n : Nat) (f : Nat → Value) : Prop := ∃ c : Cell, Arr Z h a c ty ∧ c.cls = k ∧ c.slots.size = n ∧ n < 2 ^ 31 ∧ ∀ i, i < n → c.slots[i]? = some (f i)
def upd (f : Nat → Value) (j : Nat) (v : Value) : Nat → Value := fun i => if i = j then v else f i
def lst (L : List Value) (d : Value) : Nat → Value := fun i => L.getD i d
theorem Ary.lt (F : Ary Z h a k ty n f) : a < h.size := by obtain ⟨c, A, -⟩ := F; exact A.lt
theorem Ary.ext (E : Ext h h') (F : Ary Z h a k ty n f) : Ary Z h' a k ty n f := by obtain ⟨c, A, r⟩ := F; exact ⟨c, A.ext E, r⟩
theorem Ary.other (W : Wr h h' b sl v) (F : Ary Z h a k ty n f) (q : a ≠ b) : Ary Z h' a k ty n f := by obtain ⟨c, A, r⟩ := F; exact ⟨c, A.other W q, r⟩
theorem Ary.keep (F : Ary Z h a k ty n f) (K : Keep h h' ws) (q : a ∉ ws) : Ary Z h' a k ty n f := by obtain ⟨c, A, r⟩ := F; exact ⟨c, ⟨K.2.1 a c A.1 q, A.2⟩, r⟩
theorem Ary.congr (F : Ary Z h a k ty n f) (q : ∀ i, i < n → f i = g i) : Ary Z h a k ty n g := by obtain ⟨c, A, r1, r2, r3, r4⟩ := F; exact ⟨c, A, r1, r2, r3, fun i hi => by rw [r4 i hi, q i hi]⟩
theorem upd_lst {L : List Value} {d v : Value} {j : Nat} (hj : j < L.length) {L' : List Value} (e : L.set j v = L') : upd (lst L d) j v = lst L' d := by
  subst e; funext i
  simp only [upd, lst, List.getD_eq_getElem?_getD, List.getElem?_set]
  by_cases q : i = j
  · subst q; simp [hj]
  · simp [q, Ne.symm q]
theorem Ary.same {j : Nat} (W : Wr h h' a j v) (F : Ary Z h a k ty n f) : Ary Z h' a k ty n (upd f j v) := by
  obtain ⟨c, A, r1, r2, r3, r4⟩ := F
  obtain ⟨cell, w1, w2, w3, -⟩ := id W
  cases w1.symm.trans A.1
  refine ⟨_, A.same W, r1, by rw [sz_set]; exact r2, r3, fun i hi => ?_⟩
  by_cases q : i = j
  · subst q; simp [Cell.setSlot, upd, w3]
  · simp only [Cell.setSlot, upd, if_neg q]; rw [Array.getElem?_setIfInBounds_ne (Ne.symm q)]; exact r4 i hi
theorem Ary.of_new {x : Int32} {N : Nat} (A : Arr Z h a (newA k ty x) ty) (hx : ¬ x < 0) (hN : x.toNatClampNeg = N) : Ary Z h a k ty N (fun _ => defaultValue ty) := by
  subst hN
  refine ⟨_, A, rfl, sz_new _ _ _, (back32 hx).2, fun i hi => ?_⟩
  simp [newA, hi]
theorem Ary.of_rep (F : Ary Z h a k ty n (fun _ => v)) {L : List Value} (q : ∀ i, i < n → L.getD i v = v) : Ary Z h a k ty n (lst L v) := F.congr fun i hi => (q i hi).symm

theorem Ary.sto {C : String} {y : Addr} (F : Ary Z h a k ty n f) (O : Ovr Z k C) (I : Ins Z h y C true) : Sto Z h a (.ref y) := by obtain ⟨c, A, r, -⟩ := F; exact Sto.of A (r ▸ O) I
theorem Ary.full {L : List Value} {j : Nat} {L' : List Value} (F : Ary Z h a k ty n (upd (lst L w) j v)) (hj : j < L.length) (e : L.set j v = L') : Ary Z h a k ty n (lst L' w) := by rw [← upd_lst (d := w) hj e]; exact F
theorem Ary.stoA {C : String} {y : Addr} {t0 : FieldType} (F : Ary Z h a k ty n f) (O : OvrA Z k t0 C) (I : Ins Z h y C true) : Sto Z h a (.ref y) := by obtain ⟨c, A, r, -⟩ := F; exact Sto.ofVA A r O I
theorem old_le {n0 : Nat} (O : Old Z n0 h) : n0 ≤ h.size := O.1 ▸ O.2.1
theorem s_new (B : Ctx p s m meth c Z own nm bytes maxL ret) (X : Stand p l e R s m args below meth c T locs cells slots) {C : String} {i0 n0 : Nat} (eT : T.heap = h) (w : (Jvm.Cond.classLink own i0 C).before a0 Z = true) (wi : (Jvm.Cond.instantiable C n0).before a0 Z = true) (wz : (Jvm.Cond.initialized C).before a0 Z = true) (hc : cells + 1 ≤ R.cells) (hl : slots + n0 ≤ R.slots) (hd : decode bytes pc = .ok (.new i0, 3)) (hp : pc + 3 = pc') (k : ∀ T' h' a, a = h.size → Stand p l e R s m args below meth c T' locs (cells + 1) (slots + n0) → T'.heap = h' → Ext h h' → Exa Z h' a C → (∀ {O nm d : String} {ty : FieldType}, Laid Z a0 C O nm d → parseFieldDescriptor d = some ty → Fld Z h' a O nm d (defaultValue ty)) → Go p e below P (T'.setTop (mkF m pc' Ls (.ref a :: rest)))) : Go p e below P (T.setTop (mkF m pc Ls (rest))) := by
  subst hp
  obtain ⟨T', h', X', e', E, A, D, -, st⟩ := newO X B.1 B.2.2.2.2.2.2.2 B.2.2.2.1 w wi wz eT (g := mkF m pc Ls rest) rfl (hb B.2.1 hd) hc hl
  exact Go.on st (k T' h' _ rfl X' e' E A D)
theorem s_initO (B : Ctx p s m meth c Z own nm bytes maxL ret) (X : Stand p l e R s m args below meth c T locs cells slots) {i0 W : Nat} {a : Addr} (eT : T.heap = h) (w1 : (Jvm.Cond.methodLink own i0 Lib.objectInit).before a0 Z = true) (w2 : (Jvm.Cond.instanceMethod Lib.objectInit).before a0 Z = true) (w3 : (Jvm.Cond.code Lib.objectInit ⟨#[0xb1]⟩ 1 none).before a0 Z = true) (hW : (rest.map fun v => v.category).sum = W) (hf : 1 ≤ R.frames) (hl : W + 12 ≤ R.locals) (hsz : Ls.size = maxL) (hd : decode bytes pc = .ok (.invokespecial i0, 3)) (hp : pc + 3 = pc') (k : ∀ T', Stand p l e R s m args below meth c T' locs cells slots → T'.heap = h → Go p e below P (T'.setTop (mkF m pc' Ls (rest)))) : Go p e below P (T.setTop (mkF m pc Ls (.ref a :: rest))) := by
  subst hp
  obtain ⟨T', X', e', st⟩ := initO X B.1 B.2.2.2.2.2.2.2 B.2.2.2.1 w1 w2 w3 eT (g := mkF m pc Ls (.ref a :: rest)) rfl (by rw [B.2.2.1]; exact hsz) rfl (hb B.2.1 hd) hf (W := W) (by show 2 * 0 + _ ≤ _; rw [Nat.mul_zero, Nat.zero_add]; exact Nat.le_of_eq hW) hl
  exact Go.on st (k T' X' e')
theorem s_putF (B : Ctx p s m meth c Z own nm bytes maxL ret) (X : Stand p l e R s m args below meth c T locs cells slots) {i0 kk : Nat} {R0 O n d host C : String} {ty : FieldType} {a : Addr} {v old : Value} (eT : T.heap = h) (w : (Jvm.Cond.fieldLink own i0 R0 n d).before a0 Z = true ∨ (Jvm.Cond.fieldLinkNest own i0 R0 n d host).before a0 Z = true) (via : Via Z R0 O n d) (F : Fld Z h a O n d old) (E : Exa Z h a C) (L : (Jvm.Cond.lays C O n d).before a0 Z = true ∨ ((Jvm.Cond.laysFinal C O n d).before a0 Z = true ∧ own = O ∧ nm = "<init>")) (wi : (Jvm.Cond.instantiable C kk).before a0 Z = true) (hty : parseFieldDescriptor d = some ty) (hn : narrow ty v = v) (hf : fits ty v = true) (hd : decode bytes pc = .ok (.putfield i0, 3)) (hp : pc + 3 = pc') (k : ∀ T' h', Stand p l e R s m args below meth c T' (locs ++ [⟨a, Jvm.RoadKit.slotOf Z O n d⟩]) cells slots → T'.heap = h' → Wr h h' a (Jvm.RoadKit.slotOf Z O n d) v → Go p e below P (T'.setTop (mkF m pc' Ls (rest)))) : Go p e below P (T.setTop (mkF m pc Ls (v :: .ref a :: rest))) := by
  subst hp
  obtain ⟨T', h', X', e', W, st⟩ := putF X B.1 B.2.2.2.2.2.2.2 B.2.2.2.1 w via eT F E (L.imp id fun q => ⟨q.1, q.2.1, by rw [B.2.2.2.2.1]; exact q.2.2⟩) wi hty hn hf (g := mkF m pc Ls (v :: .ref a :: rest)) rfl rfl (hb B.2.1 hd)
  exact Go.on st (k T' h' X' e' W)
theorem s_putFN (B : Ctx p s m meth c Z own nm bytes maxL ret) (X : Stand p l e R s m args below meth c T locs cells slots) {i0 kk : Nat} {R0 O n d C : String} {ty : FieldType} {a : Addr} {v v' old : Value} (eT : T.heap = h) (w : (Jvm.Cond.fieldLink own i0 R0 n d).before a0 Z = true) (via : Via Z R0 O n d) (F : Fld Z h a O n d old) (E : Exa Z h a C) (L : (Jvm.Cond.lays C O n d).before a0 Z = true ∨ ((Jvm.Cond.laysFinal C O n d).before a0 Z = true ∧ own = O ∧ nm = "<init>")) (wi : (Jvm.Cond.instantiable C kk).before a0 Z = true) (hty : parseFieldDescriptor d = some ty) (hn : narrow ty v = v') (hf : fits ty v' = true) (hd : decode bytes pc = .ok (.putfield i0, 3)) (hp : pc + 3 = pc') (k : ∀ T' h', Stand p l e R s m args below meth c T' (locs ++ [⟨a, Jvm.RoadKit.slotOf Z O n d⟩]) cells slots → T'.heap = h' → Wr h h' a (Jvm.RoadKit.slotOf Z O n d) v' → Go p e below P (T'.setTop (mkF m pc' Ls (rest)))) : Go p e below P (T.setTop (mkF m pc Ls (v :: .ref a :: rest))) := by
  subst hp
  obtain ⟨T', h', X', e', W, st⟩ := putFN X B.1 B.2.2.2.2.2.2.2 B.2.2.2.1 w via eT F E (L.imp id fun q => ⟨q.1, q.2.1, by rw [B.2.2.2.2.1]; exact q.2.2⟩) wi hty hn hf (g := mkF m pc Ls (v :: .ref a :: rest)) rfl rfl (hb B.2.1 hd)
  exact Go.on st (k T' h' X' e' W)
theorem s_newP (B : Ctx p s m meth c Z own nm bytes maxL ret) (X : Stand p l e R s m args below meth c T locs cells slots) {aty : ArrayType} {x : Int32} {N : Nat} (eT : T.heap = h) (w : (Jvm.Cond.arrayClass (newarray.typeOf aty)).before a0 Z = true) (hn : ¬ x < 0) (hN : x.toNatClampNeg = N) {cap : Nat} (hcap : N ≤ cap) (hb8 : cap * 8 ≤ 536870912) (hc : cells + 1 ≤ R.cells) (hl : slots + cap ≤ R.slots) (hd : decode bytes pc = .ok (.newarray aty, 2)) (hp : pc + 2 = pc') (k : ∀ T' h' a kA, a = h.size → Stand p l e R s m args below meth c T' locs (cells + 1) (slots + cap) → T'.heap = h' → Ext h h' → Ary Z h' a kA (newarray.typeOf aty) N (fun _ => defaultValue (newarray.typeOf aty)) → Go p e below P (T'.setTop (mkF m pc' Ls (.ref a :: rest)))) : Go p e below P (T.setTop (mkF m pc Ls (.int x :: rest))) := by
  subst hp
  obtain ⟨T', h', cA, X', e', E, A, st⟩ := newP X B.1 B.2.2.2.2.2.2.2 w eT (g := mkF m pc Ls (.int x :: rest)) rfl (hb B.2.1 hd) rfl hn (cap := cap) (hN ▸ hcap) hb8 hc hl
  exact Go.on st (k T' h' _ cA rfl X' e' E (Ary.of_new A hn hN))
theorem s_newR (B : Ctx p s m meth c Z own nm bytes maxL ret) (X : Stand p l e R s m args below meth c T locs cells slots) {i0 : Nat} {C : String} {x : Int32} {N : Nat} (eT : T.heap = h) (w1 : (Jvm.Cond.classLink own i0 C).before a0 Z = true) (w2 : (Jvm.Cond.arrayOver (.object C)).before a0 Z = true) (hn : ¬ x < 0) (hN : x.toNatClampNeg = N) {cap : Nat} (hcap : N ≤ cap) (hb8 : cap * 8 ≤ 536870912) (hc : cells + 1 ≤ R.cells) (hl : slots + cap ≤ R.slots) (hd : decode bytes pc = .ok (.anewarray i0, 3)) (hp : pc + 3 = pc') (k : ∀ T' h' a kA, a = h.size → Stand p l e R s m args below meth c T' locs (cells + 1) (slots + cap) → T'.heap = h' → Ext h h' → Ary Z h' a kA (.object C) N (fun _ => .null) → Ovr Z kA C → Go p e below P (T'.setTop (mkF m pc' Ls (.ref a :: rest)))) : Go p e below P (T.setTop (mkF m pc Ls (.int x :: rest))) := by
  subst hp
  obtain ⟨T', h', cA, X', e', E, A, O, st⟩ := newR X B.1 B.2.2.2.2.2.2.2 B.2.2.2.1 w1 w2 eT (g := mkF m pc Ls (.int x :: rest)) rfl (hb B.2.1 hd) rfl hn (cap := cap) (hN ▸ hcap) hb8 hc hl
  exact Go.on st (k T' h' _ cA rfl X' e' E (Ary.of_new A hn hN) O)
theorem s_newRA (B : Ctx p s m meth c Z own nm bytes maxL ret) (X : Stand p l e R s m args below meth c T locs cells slots) {i0 : Nat} {C : String} {ty : FieldType} {x : Int32} {N : Nat} (eT : T.heap = h) (hC : (FieldType.array ty).toString = C) (w1 : (Jvm.Cond.classLink own i0 C).before a0 Z = true) (w2 : (Jvm.Cond.arrayOver (.array ty)).before a0 Z = true) (hn : ¬ x < 0) (hN : x.toNatClampNeg = N) {cap : Nat} (hcap : N ≤ cap) (hb8 : cap * 8 ≤ 536870912) (hc : cells + 1 ≤ R.cells) (hl : slots + cap ≤ R.slots) (hd : decode bytes pc = .ok (.anewarray i0, 3)) (hp : pc + 3 = pc') (k : ∀ T' h' a kA, a = h.size → Stand p l e R s m args below meth c T' locs (cells + 1) (slots + cap) → T'.heap = h' → Ext h h' → Ary Z h' a kA (.array ty) N (fun _ => .null) → OvrA Z kA ty C → Go p e below P (T'.setTop (mkF m pc' Ls (.ref a :: rest)))) : Go p e below P (T.setTop (mkF m pc Ls (.int x :: rest))) := by
  subst hp
  obtain ⟨T', h', cA, X', e', E, A, -, O, st⟩ := newRA X B.1 B.2.2.2.2.2.2.2 B.2.2.2.1 hC w1 w2 eT (g := mkF m pc Ls (.int x :: rest)) rfl (hb B.2.1 hd) rfl hn (cap := cap) (hN ▸ hcap) hb8 hc hl rfl
  exact Go.on st (k T' h' _ cA rfl X' e' E (Ary.of_new A hn hN) O)
theorem s_stI (B : Ctx p s m meth c Z own nm bytes maxL ret) (X : Stand p l e R s m args below meth c T locs cells slots) {a : Addr} {x : Int32} {j : Int32} {jn N : Nat} {f : Nat → Value} {kA : ClassId} (eT : T.heap = h) (A : Ary Z h a kA .int N f) (hj : ¬ j < 0) (hjn : j.toNatClampNeg = jn) (hlt : jn < N) (hd : decode bytes pc = .ok (.iastore, 1)) (hp : pc + 1 = pc') (k : ∀ T' h', Stand p l e R s m args below meth c T' (locs ++ [⟨a, jn⟩]) cells slots → T'.heap = h' → Wr h h' a jn (.int x) → Ary Z h' a kA .int N (upd f jn (.int x)) → Go p e below P (T'.setTop (mkF m pc' Ls (rest)))) : Go p e below P (T.setTop (mkF m pc Ls (.int x :: .int j :: .ref a :: rest))) := by
  subst hp
  subst hjn
  obtain ⟨cl, A1, q1, q2, q3, q4⟩ := id A
  obtain ⟨T', h', X', e', W, st⟩ := stI X B.1 B.2.2.2.2.2.2.2 eT A1 (j := j) (by rw [q2]; intro z; rcases z with z | z; exact hj z; omega) (g := mkF m pc Ls (.int x :: .int j :: .ref a :: rest)) rfl rfl (hb B.2.1 hd)
  exact Go.on st (k T' h' X' e' W (A.same W))
theorem s_stJ (B : Ctx p s m meth c Z own nm bytes maxL ret) (X : Stand p l e R s m args below meth c T locs cells slots) {a : Addr} {x : Int64} {j : Int32} {jn N : Nat} {f : Nat → Value} {kA : ClassId} (eT : T.heap = h) (A : Ary Z h a kA .long N f) (hj : ¬ j < 0) (hjn : j.toNatClampNeg = jn) (hlt : jn < N) (hd : decode bytes pc = .ok (.lastore, 1)) (hp : pc + 1 = pc') (k : ∀ T' h', Stand p l e R s m args below meth c T' (locs ++ [⟨a, jn⟩]) cells slots → T'.heap = h' → Wr h h' a jn (.long x) → Ary Z h' a kA .long N (upd f jn (.long x)) → Go p e below P (T'.setTop (mkF m pc' Ls (rest)))) : Go p e below P (T.setTop (mkF m pc Ls (.long x :: .int j :: .ref a :: rest))) := by
  subst hp
  subst hjn
  obtain ⟨cl, A1, q1, q2, q3, q4⟩ := id A
  obtain ⟨T', h', X', e', W, st⟩ := stJ X B.1 B.2.2.2.2.2.2.2 eT A1 (j := j) (by rw [q2]; intro z; rcases z with z | z; exact hj z; omega) (g := mkF m pc Ls (.long x :: .int j :: .ref a :: rest)) rfl rfl (hb B.2.1 hd)
  exact Go.on st (k T' h' X' e' W (A.same W))
theorem s_stB (B : Ctx p s m meth c Z own nm bytes maxL ret) (X : Stand p l e R s m args below meth c T locs cells slots) {a : Addr} {x : Int32} {j : Int32} {jn N : Nat} {f : Nat → Value} {kA : ClassId} (eT : T.heap = h) (A : Ary Z h a kA .byte N f) (hj : ¬ j < 0) (hjn : j.toNatClampNeg = jn) (hlt : jn < N) (hd : decode bytes pc = .ok (.bastore, 1)) (hp : pc + 1 = pc') (k : ∀ T' h', Stand p l e R s m args below meth c T' (locs ++ [⟨a, jn⟩]) cells slots → T'.heap = h' → Wr h h' a jn (.int (nar .byte x)) → Ary Z h' a kA .byte N (upd f jn (.int (nar .byte x))) → Go p e below P (T'.setTop (mkF m pc' Ls (rest)))) : Go p e below P (T.setTop (mkF m pc Ls (.int x :: .int j :: .ref a :: rest))) := by
  subst hp
  subst hjn
  obtain ⟨cl, A1, q1, q2, q3, q4⟩ := id A
  obtain ⟨T', h', X', e', W, st⟩ := stB X B.1 B.2.2.2.2.2.2.2 eT A1 (j := j) (by rw [q2]; intro z; rcases z with z | z; exact hj z; omega) (g := mkF m pc Ls (.int x :: .int j :: .ref a :: rest)) rfl rfl (hb B.2.1 hd)
  exact Go.on st (k T' h' X' e' W (A.same W))
theorem s_stZ (B : Ctx p s m meth c Z own nm bytes maxL ret) (X : Stand p l e R s m args below meth c T locs cells slots) {a : Addr} {x : Int32} {j : Int32} {jn N : Nat} {f : Nat → Value} {kA : ClassId} (eT : T.heap = h) (A : Ary Z h a kA .boolean N f) (hj : ¬ j < 0) (hjn : j.toNatClampNeg = jn) (hlt : jn < N) (hd : decode bytes pc = .ok (.bastore, 1)) (hp : pc + 1 = pc') (k : ∀ T' h', Stand p l e R s m args below meth c T' (locs ++ [⟨a, jn⟩]) cells slots → T'.heap = h' → Wr h h' a jn (.int (nar .boolean x)) → Ary Z h' a kA .boolean N (upd f jn (.int (nar .boolean x))) → Go p e below P (T'.setTop (mkF m pc' Ls (rest)))) : Go p e below P (T.setTop (mkF m pc Ls (.int x :: .int j :: .ref a :: rest))) := by
  subst hp
  subst hjn
  obtain ⟨cl, A1, q1, q2, q3, q4⟩ := id A
  obtain ⟨T', h', X', e', W, st⟩ := stZ X B.1 B.2.2.2.2.2.2.2 eT A1 (j := j) (by rw [q2]; intro z; rcases z with z | z; exact hj z; omega) (g := mkF m pc Ls (.int x :: .int j :: .ref a :: rest)) rfl rfl (hb B.2.1 hd)
  exact Go.on st (k T' h' X' e' W (A.same W))
theorem s_stC (B : Ctx p s m meth c Z own nm bytes maxL ret) (X : Stand p l e R s m args below meth c T locs cells slots) {a : Addr} {x : Int32} {j : Int32} {jn N : Nat} {f : Nat → Value} {kA : ClassId} (eT : T.heap = h) (A : Ary Z h a kA .char N f) (hj : ¬ j < 0) (hjn : j.toNatClampNeg = jn) (hlt : jn < N) (hd : decode bytes pc = .ok (.castore, 1)) (hp : pc + 1 = pc') (k : ∀ T' h', Stand p l e R s m args below meth c T' (locs ++ [⟨a, jn⟩]) cells slots → T'.heap = h' → Wr h h' a jn (.int (nar .char x)) → Ary Z h' a kA .char N (upd f jn (.int (nar .char x))) → Go p e below P (T'.setTop (mkF m pc' Ls (rest)))) : Go p e below P (T.setTop (mkF m pc Ls (.int x :: .int j :: .ref a :: rest))) := by
  subst hp
  subst hjn
  obtain ⟨cl, A1, q1, q2, q3, q4⟩ := id A
  obtain ⟨T', h', X', e', W, st⟩ := stC X B.1 B.2.2.2.2.2.2.2 eT A1 (j := j) (by rw [q2]; intro z; rcases z with z | z; exact hj z; omega) (g := mkF m pc Ls (.int x :: .int j :: .ref a :: rest)) rfl rfl (hb B.2.1 hd)
  exact Go.on st (k T' h' X' e' W (A.same W))
theorem s_stR (B : Ctx p s m meth c Z own nm bytes maxL ret) (X : Stand p l e R s m args below meth c T locs cells slots) {a : Addr} {v : Value} {ty : FieldType} {j : Int32} {jn N : Nat} {f : Nat → Value} {kA : ClassId} (eT : T.heap = h) (A : Ary Z h a kA ty N f) (hty : ty.isReference = true) (S : Sto Z h a v) (hj : ¬ j < 0) (hjn : j.toNatClampNeg = jn) (hlt : jn < N) (hd : decode bytes pc = .ok (.aastore, 1)) (hp : pc + 1 = pc') (k : ∀ T' h', Stand p l e R s m args below meth c T' (locs ++ [⟨a, jn⟩]) cells slots → T'.heap = h' → Wr h h' a jn v → Ary Z h' a kA ty N (upd f jn v) → Go p e below P (T'.setTop (mkF m pc' Ls (rest)))) : Go p e below P (T.setTop (mkF m pc Ls (v :: .int j :: .ref a :: rest))) := by
  subst hp
  subst hjn
  obtain ⟨cl, A1, q1, q2, q3, q4⟩ := id A
  obtain ⟨T', h', X', e', W, st⟩ := stR X B.1 B.2.2.2.2.2.2.2 eT A1 (j := j) (by rw [q2]; intro z; rcases z with z | z; exact hj z; omega) hty S (g := mkF m pc Ls (v :: .int j :: .ref a :: rest)) rfl rfl (hb B.2.1 hd)
  exact Go.on st (k T' h' X' e' W (A.same W))
theorem s_ldI (B : Ctx p s m meth c Z own nm bytes maxL ret) (X : Stand p l e R s m args below meth c T locs cells slots) {a : Addr} {v : Value} {j : Int32} {jn N : Nat} {f : Nat → Value} {kA : ClassId} (eT : T.heap = h) (A : Ary Z h a kA .int N f) (hj : ¬ j < 0) (hjn : j.toNatClampNeg = jn) (hlt : jn < N) (hv : f jn = v) (hd : decode bytes pc = .ok (.iaload, 1)) (hp : pc + 1 = pc') (k : Go p e below P (T.setTop (mkF m pc' Ls (v :: rest)))) : Go p e below P (T.setTop (mkF m pc Ls (.int j :: .ref a :: rest))) := by
  subst hp hjn hv
  obtain ⟨cl, A1, q1, q2, q3, q4⟩ := A
  exact Go.on (X.iaload B.1 (j := j) (by rw [eT]; exact A1.1) (State.isArrayOf_alike B.2.2.2.2.2.2.2.alike A1.2.1) A1.2.2 (by rw [q2]; intro z; rcases z with z | z; exact hj z; omega) (q4 _ hlt) (g := mkF m pc Ls (.int j :: .ref a :: rest)) rfl rfl (hb B.2.1 hd)) k
theorem s_ldJ (B : Ctx p s m meth c Z own nm bytes maxL ret) (X : Stand p l e R s m args below meth c T locs cells slots) {a : Addr} {v : Value} {j : Int32} {jn N : Nat} {f : Nat → Value} {kA : ClassId} (eT : T.heap = h) (A : Ary Z h a kA .long N f) (hj : ¬ j < 0) (hjn : j.toNatClampNeg = jn) (hlt : jn < N) (hv : f jn = v) (hd : decode bytes pc = .ok (.laload, 1)) (hp : pc + 1 = pc') (k : Go p e below P (T.setTop (mkF m pc' Ls (v :: rest)))) : Go p e below P (T.setTop (mkF m pc Ls (.int j :: .ref a :: rest))) := by
  subst hp hjn hv
  obtain ⟨cl, A1, q1, q2, q3, q4⟩ := A
  exact Go.on (X.laload B.1 (j := j) (by rw [eT]; exact A1.1) (State.isArrayOf_alike B.2.2.2.2.2.2.2.alike A1.2.1) A1.2.2 (by rw [q2]; intro z; rcases z with z | z; exact hj z; omega) (q4 _ hlt) (g := mkF m pc Ls (.int j :: .ref a :: rest)) rfl rfl (hb B.2.1 hd)) k
theorem s_ldB (B : Ctx p s m meth c Z own nm bytes maxL ret) (X : Stand p l e R s m args below meth c T locs cells slots) {a : Addr} {v : Value} {j : Int32} {jn N : Nat} {f : Nat → Value} {kA : ClassId} (eT : T.heap = h) (A : Ary Z h a kA .byte N f) (hj : ¬ j < 0) (hjn : j.toNatClampNeg = jn) (hlt : jn < N) (hv : f jn = v) (hd : decode bytes pc = .ok (.baload, 1)) (hp : pc + 1 = pc') (k : Go p e below P (T.setTop (mkF m pc' Ls (v :: rest)))) : Go p e below P (T.setTop (mkF m pc Ls (.int j :: .ref a :: rest))) := by
  subst hp hjn hv
  obtain ⟨cl, A1, q1, q2, q3, q4⟩ := A
  exact Go.on (X.baloadBytes B.1 (j := j) (by rw [eT]; exact A1.1) (State.isArrayOf_alike B.2.2.2.2.2.2.2.alike A1.2.1) A1.2.2 (by rw [q2]; intro z; rcases z with z | z; exact hj z; omega) (q4 _ hlt) (g := mkF m pc Ls (.int j :: .ref a :: rest)) rfl rfl (hb B.2.1 hd)) k
theorem s_ldZ (B : Ctx p s m meth c Z own nm bytes maxL ret) (X : Stand p l e R s m args below meth c T locs cells slots) {a : Addr} {v : Value} {j : Int32} {jn N : Nat} {f : Nat → Value} {kA : ClassId} (eT : T.heap = h) (A : Ary Z h a kA .boolean N f) (hj : ¬ j < 0) (hjn : j.toNatClampNeg = jn) (hlt : jn < N) (hv : f jn = v) (hd : decode bytes pc = .ok (.baload, 1)) (hp : pc + 1 = pc') (k : Go p e below P (T.setTop (mkF m pc' Ls (v :: rest)))) : Go p e below P (T.setTop (mkF m pc Ls (.int j :: .ref a :: rest))) := by
  subst hp hjn hv
  obtain ⟨cl, A1, q1, q2, q3, q4⟩ := A
  exact Go.on (X.baloadBooleans B.1 (j := j) (by rw [eT]; exact A1.1) (State.isArrayOf_alike B.2.2.2.2.2.2.2.alike A1.2.1) A1.2.2 (by rw [q2]; intro z; rcases z with z | z; exact hj z; omega) (q4 _ hlt) (g := mkF m pc Ls (.int j :: .ref a :: rest)) rfl rfl (hb B.2.1 hd)) k
theorem s_ldC (B : Ctx p s m meth c Z own nm bytes maxL ret) (X : Stand p l e R s m args below meth c T locs cells slots) {a : Addr} {v : Value} {j : Int32} {jn N : Nat} {f : Nat → Value} {kA : ClassId} (eT : T.heap = h) (A : Ary Z h a kA .char N f) (hj : ¬ j < 0) (hjn : j.toNatClampNeg = jn) (hlt : jn < N) (hv : f jn = v) (hd : decode bytes pc = .ok (.caload, 1)) (hp : pc + 1 = pc') (k : Go p e below P (T.setTop (mkF m pc' Ls (v :: rest)))) : Go p e below P (T.setTop (mkF m pc Ls (.int j :: .ref a :: rest))) := by
  subst hp hjn hv
  obtain ⟨cl, A1, q1, q2, q3, q4⟩ := A
  exact Go.on (X.caload B.1 (j := j) (by rw [eT]; exact A1.1) (State.isArrayOf_alike B.2.2.2.2.2.2.2.alike A1.2.1) A1.2.2 (by rw [q2]; intro z; rcases z with z | z; exact hj z; omega) (q4 _ hlt) (g := mkF m pc Ls (.int j :: .ref a :: rest)) rfl rfl (hb B.2.1 hd)) k
theorem s_ldR (B : Ctx p s m meth c Z own nm bytes maxL ret) (X : Stand p l e R s m args below meth c T locs cells slots) {a : Addr} {v : Value} {ty : FieldType} {j : Int32} {jn N : Nat} {f : Nat → Value} {kA : ClassId} (eT : T.heap = h) (A : Ary Z h a kA ty N f) (hty : ty.isReference = true) (hj : ¬ j < 0) (hjn : j.toNatClampNeg = jn) (hlt : jn < N) (hv : f jn = v) (hd : decode bytes pc = .ok (.aaload, 1)) (hp : pc + 1 = pc') (k : Go p e below P (T.setTop (mkF m pc' Ls (v :: rest)))) : Go p e below P (T.setTop (mkF m pc Ls (.int j :: .ref a :: rest))) := by
  subst hp hjn hv
  obtain ⟨cl, A1, q1, q2, q3, q4⟩ := A
  exact Go.on (X.aaload B.1 (j := j) (by rw [eT]; exact A1.1) (State.isArrayOf_alike B.2.2.2.2.2.2.2.alike A1.2.1) hty A1.2.2 (by rw [q2]; intro z; rcases z with z | z; exact hj z; omega) (q4 _ hlt) (g := mkF m pc Ls (.int j :: .ref a :: rest)) rfl rfl (hb B.2.1 hd)) k
theorem s_len (B : Ctx p s m meth c Z own nm bytes maxL ret) (X : Stand p l e R s m args below meth c T locs cells slots) {a : Addr} {v : Int32} {ty : FieldType} {N : Nat} {f : Nat → Value} {kA : ClassId} (eT : T.heap = h) (A : Ary Z h a kA ty N f) (hv : N.toInt32 = v) (hd : decode bytes pc = .ok (.arraylength, 1)) (hp : pc + 1 = pc') (k : Go p e below P (T.setTop (mkF m pc' Ls (.int v :: rest)))) : Go p e below P (T.setTop (mkF m pc Ls (.ref a :: rest))) := by
  subst hp hv
  obtain ⟨cl, A1, q1, q2, q3, q4⟩ := A
  subst q2
  exact Go.on (X.arraylength B.1 (by rw [eT]; exact A1.1) (State.isArrayOf_alike B.2.2.2.2.2.2.2.alike A1.2.1) (g := mkF m pc Ls (.ref a :: rest)) rfl rfl (hb B.2.1 hd)) k
theorem s_castY (B : Ctx p s m meth c Z own nm bytes maxL ret) (X : Stand p l e R s m args below meth c T locs cells slots) {i0 : Nat} {K : String} {a : Addr} (eT : T.heap = h) (w : (Jvm.Cond.classLink own i0 K).before a0 Z = true) (F : Ins Z h a K true) (hd : decode bytes pc = .ok (.checkcast i0, 3)) (hp : pc + 3 = pc') (k : ∀ T', Stand p l e R s m args below meth c T' locs cells slots → T'.heap = h → Go p e below P (T'.setTop (mkF m pc' Ls (.ref a :: rest)))) : Go p e below P (T.setTop (mkF m pc Ls (.ref a :: rest))) := by
  subst hp
  obtain ⟨T', X', e', st⟩ := castY X B.1 B.2.2.2.2.2.2.2 B.2.2.2.1 w eT F (g := mkF m pc Ls (.ref a :: rest)) rfl rfl (hb B.2.1 hd)
  exact Go.on st (k T' X' e')
theorem s_instY (B : Ctx p s m meth c Z own nm bytes maxL ret) (X : Stand p l e R s m args below meth c T locs cells slots) {i0 : Nat} {K : String} {a : Addr} (eT : T.heap = h) (w : (Jvm.Cond.classLink own i0 K).before a0 Z = true) (F : Ins Z h a K true) (hd : decode bytes pc = .ok (.instanceof i0, 3)) (hp : pc + 3 = pc') (k : ∀ T', Stand p l e R s m args below meth c T' locs cells slots → T'.heap = h → Go p e below P (T'.setTop (mkF m pc' Ls (.int 1 :: rest)))) : Go p e below P (T.setTop (mkF m pc Ls (.ref a :: rest))) := by
  subst hp
  obtain ⟨T', X', e', st⟩ := instY X B.1 B.2.2.2.2.2.2.2 B.2.2.2.1 w eT F (g := mkF m pc Ls (.ref a :: rest)) rfl rfl (hb B.2.1 hd)
  exact Go.on st (k T' X' e')
theorem s_tswIn (B : Ctx p s m meth c Z own nm bytes maxL ret) (X : Stand p l e R s m args below meth c T locs cells slots) {df lo hi : Int} {offs : Array Int} {len : Nat} {o : Int} {x : Int32} (hd : decode bytes pc = .ok (.tableswitch df lo hi offs, len)) (hin : ¬ (x.toInt < lo ∨ x.toInt > hi)) (hoff : offs[(x.toInt - lo).toNat]? = some o) (ho : 0 ≤ (pc : Int) + o) (hp : ((pc : Int) + o).toNat = pc') (k : Go p e below P (T.setTop (mkF m pc' Ls (rest)))) : Go p e below P (T.setTop (mkF m pc Ls (.int x :: rest))) := Go.on (fun t => XS.tswIn (g := mkF m pc Ls (.int x :: rest)) X.here B.1 rfl (pc0 := pc) rfl (hb B.2.1 hd) (i := x) (rest := rest) rfl hin hoff ho hp) k
theorem s_tswOut (B : Ctx p s m meth c Z own nm bytes maxL ret) (X : Stand p l e R s m args below meth c T locs cells slots) {df lo hi : Int} {offs : Array Int} {len : Nat} {x : Int32} (hd : decode bytes pc = .ok (.tableswitch df lo hi offs, len)) (hout : x.toInt < lo ∨ x.toInt > hi) (ho : 0 ≤ (pc : Int) + df) (hp : ((pc : Int) + df).toNat = pc') (k : Go p e below P (T.setTop (mkF m pc' Ls (rest)))) : Go p e below P (T.setTop (mkF m pc Ls (.int x :: rest))) := Go.on (fun t => XS.tswOut (g := mkF m pc Ls (.int x :: rest)) X.here B.1 rfl (pc0 := pc) rfl (hb B.2.1 hd) (i := x) (rest := rest) rfl hout ho hp) k
end Heap
end Jvm.OwnKit

namespace Jvm.OwnKit
open Sem ClassFile Op Lib Jvm.Stand Jvm.Free Jvm.LawKit Jvm.RoadKit
section Start
variable {args : Array Value} {s : State} {t u : Term}
theorem eqI_v {k : Int32} (h : (Jvm.Cond.eq t (.int k)).value args s none s [] = some true) : t.eval args s none [] s = some (.int k) := by
  cases ht : t.eval args s none [] s with
  | none => simp [Cond.value, ht] at h
  | some x => cases x <;> simp [Cond.value, ht, Term.eval] at h ⊢; exact h
theorem eqJ_v {k : Int64} (h : (Jvm.Cond.eq t (.long k)).value args s none s [] = some true) : t.eval args s none [] s = some (.long k) := by
  cases ht : t.eval args s none [] s with
  | none => simp [Cond.value, ht] at h
  | some x => cases x <;> simp [Cond.value, ht, Term.eval] at h ⊢; exact h
theorem eqR_v {a : Addr} (hu : u.eval args s none [] s = some (.ref a)) (h : (Jvm.Cond.eq t u).value args s none s [] = some true) : t.eval args s none [] s = some (.ref a) := by
  cases ht : t.eval args s none [] s with
  | none => simp [Cond.value, ht] at h
  | some x => cases x <;> simp [Cond.value, ht, hu] at h ⊢; exact h
end Start
end Jvm.OwnKit

namespace Jvm.Pilot.@@N@@
open Jvm Jvm.ClassFile Sem Op Lib Jvm.Free Jvm.Stand Jvm.LawKit Jvm.RoadKit Jvm.OwnKit Bundle Jvm.Pilot.@@N@@.Jvm.D
theorem tw0 {Z : State} {a0 : Array Value} (hw : ∀ d ∈ tables_1, d.before a0 Z = true) : (Jvm.Cond.classLink "com/example/upmob/upmob/OperatorIsEqualityPinLaw" (7 : Nat) "com/example/upmob/upmob/Operator").before a0 Z = true := hw _ (List.mem_of_getElem? (i := 0) rfl)
theorem tw1 {Z : State} {a0 : Array Value} (hw : ∀ d ∈ tables_1, d.before a0 Z = true) : (Jvm.Cond.arrayOver (Jvm.ClassFile.FieldType.object "com/example/upmob/upmob/Operator")).before a0 Z = true := hw _ (List.mem_of_getElem? (i := 1) rfl)
theorem tw2 {Z : State} {a0 : Array Value} (hw : ∀ d ∈ tables_1, d.before a0 Z = true) : (Jvm.Cond.fieldLink "com/example/upmob/upmob/OperatorIsEqualityPinLaw" (9 : Nat) "com/example/upmob/upmob/Operator" "EQUAL" "Lcom/example/upmob/upmob/Operator;").before a0 Z = true := hw _ (List.mem_of_getElem? (i := 2) rfl)
theorem tw3 {Z : State} {a0 : Array Value} (hw : ∀ d ∈ tables_1, d.before a0 Z = true) : (Jvm.Cond.initialized "com/example/upmob/upmob/Operator").before a0 Z = true := hw _ (List.mem_of_getElem? (i := 3) rfl)
theorem tw4 {Z : State} {a0 : Array Value} (hw : ∀ d ∈ tables_1, d.before a0 Z = true) : (Jvm.Cond.laysStatic "com/example/upmob/upmob/Operator" "EQUAL" "Lcom/example/upmob/upmob/Operator;").before a0 Z = true := hw _ (List.mem_of_getElem? (i := 4) rfl)
theorem tw6 {Z : State} {a0 : Array Value} (hw : ∀ d ∈ tables_1, d.before a0 Z = true) : (Jvm.Cond.fieldLink "com/example/upmob/upmob/OperatorIsEqualityPinLaw" (13 : Nat) "com/example/upmob/upmob/Operator" "NOT_EQUAL" "Lcom/example/upmob/upmob/Operator;").before a0 Z = true := hw _ (List.mem_of_getElem? (i := 6) rfl)
theorem tw7 {Z : State} {a0 : Array Value} (hw : ∀ d ∈ tables_1, d.before a0 Z = true) : (Jvm.Cond.laysStatic "com/example/upmob/upmob/Operator" "NOT_EQUAL" "Lcom/example/upmob/upmob/Operator;").before a0 Z = true := hw _ (List.mem_of_getElem? (i := 7) rfl)
theorem tw8 {Z : State} {a0 : Array Value} (hw : ∀ d ∈ tables_1, d.before a0 Z = true) : (Jvm.Cond.fieldLink "com/example/upmob/upmob/OperatorIsEqualityPinLaw" (16 : Nat) "com/example/upmob/upmob/Operator" "LESS" "Lcom/example/upmob/upmob/Operator;").before a0 Z = true := hw _ (List.mem_of_getElem? (i := 8) rfl)
theorem tw9 {Z : State} {a0 : Array Value} (hw : ∀ d ∈ tables_1, d.before a0 Z = true) : (Jvm.Cond.laysStatic "com/example/upmob/upmob/Operator" "LESS" "Lcom/example/upmob/upmob/Operator;").before a0 Z = true := hw _ (List.mem_of_getElem? (i := 9) rfl)
theorem tw10 {Z : State} {a0 : Array Value} (hw : ∀ d ∈ tables_1, d.before a0 Z = true) : (Jvm.Cond.fieldLink "com/example/upmob/upmob/OperatorIsEqualityPinLaw" (19 : Nat) "com/example/upmob/upmob/Operator" "LESS_OR_EQUAL" "Lcom/example/upmob/upmob/Operator;").before a0 Z = true := hw _ (List.mem_of_getElem? (i := 10) rfl)
theorem tw11 {Z : State} {a0 : Array Value} (hw : ∀ d ∈ tables_1, d.before a0 Z = true) : (Jvm.Cond.laysStatic "com/example/upmob/upmob/Operator" "LESS_OR_EQUAL" "Lcom/example/upmob/upmob/Operator;").before a0 Z = true := hw _ (List.mem_of_getElem? (i := 11) rfl)
theorem tw12 {Z : State} {a0 : Array Value} (hw : ∀ d ∈ tables_1, d.before a0 Z = true) : (Jvm.Cond.fieldLink "com/example/upmob/upmob/OperatorIsEqualityPinLaw" (22 : Nat) "com/example/upmob/upmob/Operator" "GREATER" "Lcom/example/upmob/upmob/Operator;").before a0 Z = true := hw _ (List.mem_of_getElem? (i := 12) rfl)
theorem tw13 {Z : State} {a0 : Array Value} (hw : ∀ d ∈ tables_1, d.before a0 Z = true) : (Jvm.Cond.laysStatic "com/example/upmob/upmob/Operator" "GREATER" "Lcom/example/upmob/upmob/Operator;").before a0 Z = true := hw _ (List.mem_of_getElem? (i := 13) rfl)
theorem tw14 {Z : State} {a0 : Array Value} (hw : ∀ d ∈ tables_1, d.before a0 Z = true) : (Jvm.Cond.fieldLink "com/example/upmob/upmob/OperatorIsEqualityPinLaw" (25 : Nat) "com/example/upmob/upmob/Operator" "GREATER_OR_EQUAL" "Lcom/example/upmob/upmob/Operator;").before a0 Z = true := hw _ (List.mem_of_getElem? (i := 14) rfl)
theorem tw15 {Z : State} {a0 : Array Value} (hw : ∀ d ∈ tables_1, d.before a0 Z = true) : (Jvm.Cond.laysStatic "com/example/upmob/upmob/Operator" "GREATER_OR_EQUAL" "Lcom/example/upmob/upmob/Operator;").before a0 Z = true := hw _ (List.mem_of_getElem? (i := 15) rfl)
theorem tw16 {Z : State} {a0 : Array Value} (hw : ∀ d ∈ tables_1, d.before a0 Z = true) : (Jvm.Cond.constant "com/example/upmob/upmob/OperatorIsEqualityPinLaw" (28 : Nat) (2147483647 : Int32)).before a0 Z = true := hw _ (List.mem_of_getElem? (i := 16) rfl)
theorem tw17 {Z : State} {a0 : Array Value} (hw : ∀ d ∈ tables_1, d.before a0 Z = true) : (Jvm.Cond.methodLink "com/example/upmob/upmob/OperatorIsEqualityPinLaw" (29 : Nat) ({ cls := "com/example/upmob/upmob/Operator", name := "isEquality", desc := "()Z" } : Jvm.MethodName)).before a0 Z = true := hw _ (List.mem_of_getElem? (i := 17) rfl)
theorem tw18 {Z : State} {a0 : Array Value} (hw : ∀ d ∈ tables_1, d.before a0 Z = true) : (Jvm.Cond.declares ({ cls := "com/example/upmob/upmob/Operator", name := "isEquality", desc := "()Z" } : Jvm.MethodName)).before a0 Z = true := hw _ (List.mem_of_getElem? (i := 18) rfl)
theorem tw19 {Z : State} {a0 : Array Value} (hw : ∀ d ∈ tables_1, d.before a0 Z = true) : (Jvm.Cond.instanceMethod ({ cls := "com/example/upmob/upmob/Operator", name := "isEquality", desc := "()Z" } : Jvm.MethodName)).before a0 Z = true := hw _ (List.mem_of_getElem? (i := 19) rfl)
theorem tw20 {Z : State} {a0 : Array Value} (hw : ∀ d ∈ tables_1, d.before a0 Z = true) : (Jvm.Cond.selects "com/example/upmob/upmob/Operator" ({ cls := "com/example/upmob/upmob/Operator", name := "isEquality", desc := "()Z" } : Jvm.MethodName) ({ cls := "com/example/upmob/upmob/Operator", name := "isEquality", desc := "()Z" } : Jvm.MethodName)).before a0 Z = true := hw _ (List.mem_of_getElem? (i := 20) rfl)
theorem tw21 {Z : State} {a0 : Array Value} (hw : ∀ d ∈ tables_1, d.before a0 Z = true) : (Jvm.Cond.code ({ cls := "com/example/upmob/upmob/Operator", name := "isEquality", desc := "()Z" } : Jvm.MethodName) prog_23_method_6_code (1 : Nat) (Option.some Jvm.ClassFile.FieldType.boolean)).before a0 Z = true := hw _ (List.mem_of_getElem? (i := 21) rfl)
theorem tw22 {Z : State} {a0 : Array Value} (hw : ∀ d ∈ tables_1, d.before a0 Z = true) : (Jvm.Cond.fieldLink "com/example/upmob/upmob/Operator" (3 : Nat) "com/example/upmob/upmob/Operator" "EQUAL" "Lcom/example/upmob/upmob/Operator;").before a0 Z = true := hw _ (List.mem_of_getElem? (i := 22) rfl)
theorem tw23 {Z : State} {a0 : Array Value} (hw : ∀ d ∈ tables_1, d.before a0 Z = true) : (Jvm.Cond.methodLink "com/example/upmob/upmob/OperatorIsEqualityPinLaw" (33 : Nat) ({ cls := "com/example/upmob/upmob/Operator", name := "holds", desc := "(I)Z" } : Jvm.MethodName)).before a0 Z = true := hw _ (List.mem_of_getElem? (i := 23) rfl)
theorem tw24 {Z : State} {a0 : Array Value} (hw : ∀ d ∈ tables_1, d.before a0 Z = true) : (Jvm.Cond.declares ({ cls := "com/example/upmob/upmob/Operator", name := "holds", desc := "(I)Z" } : Jvm.MethodName)).before a0 Z = true := hw _ (List.mem_of_getElem? (i := 24) rfl)
theorem tw25 {Z : State} {a0 : Array Value} (hw : ∀ d ∈ tables_1, d.before a0 Z = true) : (Jvm.Cond.instanceMethod ({ cls := "com/example/upmob/upmob/Operator", name := "holds", desc := "(I)Z" } : Jvm.MethodName)).before a0 Z = true := hw _ (List.mem_of_getElem? (i := 25) rfl)
theorem tw26 {Z : State} {a0 : Array Value} (hw : ∀ d ∈ tables_1, d.before a0 Z = true) : (Jvm.Cond.selects "com/example/upmob/upmob/Operator" ({ cls := "com/example/upmob/upmob/Operator", name := "holds", desc := "(I)Z" } : Jvm.MethodName) ({ cls := "com/example/upmob/upmob/Operator", name := "holds", desc := "(I)Z" } : Jvm.MethodName)).before a0 Z = true := hw _ (List.mem_of_getElem? (i := 26) rfl)
theorem tw27 {Z : State} {a0 : Array Value} (hw : ∀ d ∈ tables_1, d.before a0 Z = true) : (Jvm.Cond.code ({ cls := "com/example/upmob/upmob/Operator", name := "holds", desc := "(I)Z" } : Jvm.MethodName) prog_23_method_5_code (3 : Nat) (Option.some Jvm.ClassFile.FieldType.boolean)).before a0 Z = true := hw _ (List.mem_of_getElem? (i := 27) rfl)
theorem tw28 {Z : State} {a0 : Array Value} (hw : ∀ d ∈ tables_1, d.before a0 Z = true) : (Jvm.Cond.methodLink "com/example/upmob/upmob/Operator" (45 : Nat) ({ cls := "com/example/upmob/upmob/Operator", name := "ordinal", desc := "()I" } : Jvm.MethodName)).before a0 Z = true := hw _ (List.mem_of_getElem? (i := 28) rfl)
theorem tw29 {Z : State} {a0 : Array Value} (hw : ∀ d ∈ tables_1, d.before a0 Z = true) : (Jvm.Cond.sameMethod "com/example/upmob/upmob/Operator" "java/lang/Enum" "ordinal" "()I").before a0 Z = true := hw _ (List.mem_of_getElem? (i := 29) rfl)
theorem tw30 {Z : State} {a0 : Array Value} (hw : ∀ d ∈ tables_1, d.before a0 Z = true) : (Jvm.Cond.declares ({ cls := "java/lang/Enum", name := "ordinal", desc := "()I" } : Jvm.MethodName)).before a0 Z = true := hw _ (List.mem_of_getElem? (i := 30) rfl)
theorem tw31 {Z : State} {a0 : Array Value} (hw : ∀ d ∈ tables_1, d.before a0 Z = true) : (Jvm.Cond.instanceMethod ({ cls := "java/lang/Enum", name := "ordinal", desc := "()I" } : Jvm.MethodName)).before a0 Z = true := hw _ (List.mem_of_getElem? (i := 31) rfl)
theorem tw32 {Z : State} {a0 : Array Value} (hw : ∀ d ∈ tables_1, d.before a0 Z = true) : (Jvm.Cond.selects "com/example/upmob/upmob/Operator" ({ cls := "com/example/upmob/upmob/Operator", name := "ordinal", desc := "()I" } : Jvm.MethodName) ({ cls := "java/lang/Enum", name := "ordinal", desc := "()I" } : Jvm.MethodName)).before a0 Z = true := hw _ (List.mem_of_getElem? (i := 32) rfl)
theorem tw33 {Z : State} {a0 : Array Value} (hw : ∀ d ∈ tables_1, d.before a0 Z = true) : (Jvm.Cond.initialized "java/lang/Enum").before a0 Z = true := hw _ (List.mem_of_getElem? (i := 33) rfl)
theorem tw34 {Z : State} {a0 : Array Value} (hw : ∀ d ∈ tables_1, d.before a0 Z = true) : (Jvm.Cond.code ({ cls := "java/lang/Enum", name := "ordinal", desc := "()I" } : Jvm.MethodName) jdk_37_method_2_code (1 : Nat) (Option.some Jvm.ClassFile.FieldType.int)).before a0 Z = true := hw _ (List.mem_of_getElem? (i := 34) rfl)
theorem tw35 {Z : State} {a0 : Array Value} (hw : ∀ d ∈ tables_1, d.before a0 Z = true) : (Jvm.Cond.fieldLink "java/lang/Enum" (7 : Nat) "java/lang/Enum" "ordinal" "I").before a0 Z = true := hw _ (List.mem_of_getElem? (i := 35) rfl)
theorem tw37 {Z : State} {a0 : Array Value} (hw : ∀ d ∈ tables_1, d.before a0 Z = true) : (Jvm.Cond.fieldLink "com/example/upmob/upmob/Operator" (7 : Nat) "com/example/upmob/upmob/Operator" "NOT_EQUAL" "Lcom/example/upmob/upmob/Operator;").before a0 Z = true := hw _ (List.mem_of_getElem? (i := 37) rfl)
abbrev mn0 : MethodName := ⟨"com/example/upmob/upmob/Operator", "isEquality", "()Z"⟩
abbrev mn1 : MethodName := ⟨"java/lang/Enum", "ordinal", "()I"⟩
abbrev mn2 : MethodName := ⟨"com/example/upmob/upmob/Operator", "ordinal", "()I"⟩
abbrev mn3 : MethodName := ⟨"com/example/upmob/upmob/Operator", "holds", "(I)Z"⟩
theorem pd_2 : parseMethodDescriptor "(I)Z" = some ⟨[.int], some .boolean⟩ := by decide +kernel
theorem pd_1 : parseMethodDescriptor "()I" = some ⟨[], some .int⟩ := by decide +kernel
theorem pd_0 : parseMethodDescriptor "()Z" = some ⟨[], some .boolean⟩ := by decide +kernel
def OwnF (Z : State) (h : Heap) (w_EQUAL w_NOT_EQUAL w_LESS w_LESS_OR_EQUAL w_GREATER w_GREATER_OR_EQUAL : Addr) : Prop := Sta Z h "com/example/upmob/upmob/Operator" "EQUAL" "Lcom/example/upmob/upmob/Operator;" (.ref w_EQUAL) ∧
  Exa Z h w_EQUAL "com/example/upmob/upmob/Operator" ∧
  Sta Z h "com/example/upmob/upmob/Operator" "NOT_EQUAL" "Lcom/example/upmob/upmob/Operator;" (.ref w_NOT_EQUAL) ∧
  Exa Z h w_NOT_EQUAL "com/example/upmob/upmob/Operator" ∧
  Sta Z h "com/example/upmob/upmob/Operator" "LESS" "Lcom/example/upmob/upmob/Operator;" (.ref w_LESS) ∧
  Exa Z h w_LESS "com/example/upmob/upmob/Operator" ∧
  Sta Z h "com/example/upmob/upmob/Operator" "LESS_OR_EQUAL" "Lcom/example/upmob/upmob/Operator;" (.ref w_LESS_OR_EQUAL) ∧
  Exa Z h w_LESS_OR_EQUAL "com/example/upmob/upmob/Operator" ∧
  Sta Z h "com/example/upmob/upmob/Operator" "GREATER" "Lcom/example/upmob/upmob/Operator;" (.ref w_GREATER) ∧
  Exa Z h w_GREATER "com/example/upmob/upmob/Operator" ∧
  Sta Z h "com/example/upmob/upmob/Operator" "GREATER_OR_EQUAL" "Lcom/example/upmob/upmob/Operator;" (.ref w_GREATER_OR_EQUAL) ∧
  Exa Z h w_GREATER_OR_EQUAL "com/example/upmob/upmob/Operator" ∧
  Fld Z h w_EQUAL "java/lang/Enum" "ordinal" "I" (.int (0 : Int32)) ∧
  Fld Z h w_LESS_OR_EQUAL "java/lang/Enum" "ordinal" "I" (.int (3 : Int32)) ∧
  Fld Z h w_NOT_EQUAL "java/lang/Enum" "ordinal" "I" (.int (1 : Int32)) ∧
  Fld Z h w_LESS "java/lang/Enum" "ordinal" "I" (.int (2 : Int32)) ∧
  Fld Z h w_GREATER_OR_EQUAL "java/lang/Enum" "ordinal" "I" (.int (5 : Int32)) ∧
  Fld Z h w_GREATER "java/lang/Enum" "ordinal" "I" (.int (4 : Int32))
theorem OwnF.ext {Z : State} {h h' : Heap} {w_EQUAL w_NOT_EQUAL w_LESS w_LESS_OR_EQUAL w_GREATER w_GREATER_OR_EQUAL : Addr} (E : Ext h h') (F : OwnF Z h w_EQUAL w_NOT_EQUAL w_LESS w_LESS_OR_EQUAL w_GREATER w_GREATER_OR_EQUAL) : OwnF Z h' w_EQUAL w_NOT_EQUAL w_LESS w_LESS_OR_EQUAL w_GREATER w_GREATER_OR_EQUAL := by
  obtain ⟨S_EQUAL, E_EQUAL, S_NOT_EQUAL, E_NOT_EQUAL, S_LESS, E_LESS, S_LESS_OR_EQUAL, E_LESS_OR_EQUAL, S_GREATER, E_GREATER, S_GREATER_OR_EQUAL, E_GREATER_OR_EQUAL, F_EQUAL_ordinal, F_LESS_OR_EQUAL_ordinal, F_NOT_EQUAL_ordinal, F_LESS_ordinal, F_GREATER_OR_EQUAL_ordinal, F_GREATER_ordinal⟩ := F
  exact ⟨S_EQUAL.ext E, E_EQUAL.ext E, S_NOT_EQUAL.ext E, E_NOT_EQUAL.ext E, S_LESS.ext E, E_LESS.ext E, S_LESS_OR_EQUAL.ext E, E_LESS_OR_EQUAL.ext E, S_GREATER.ext E, E_GREATER.ext E, S_GREATER_OR_EQUAL.ext E, E_GREATER_OR_EQUAL.ext E, F_EQUAL_ordinal.ext E, F_LESS_OR_EQUAL_ordinal.ext E, F_NOT_EQUAL_ordinal.ext E, F_LESS_ordinal.ext E, F_GREATER_OR_EQUAL_ordinal.ext E, F_GREATER_ordinal.ext E⟩
theorem own_rng6 {v : Int32} (h0 : 0 ≤ v.toInt) (h1 : v.toInt < 6) : v = 0 ∨ v = 1 ∨ v = 2 ∨ v = 3 ∨ v = 4 ∨ v = 5 := by
  rcases (by omega : v.toInt = 0 ∨ v.toInt = 1 ∨ v.toInt = 2 ∨ v.toInt = 3 ∨ v.toInt = 4 ∨ v.toInt = 5) with h | h | h | h | h | h
  · exact Or.inl (Int32.toInt_inj.mp (h.trans (by decide)))
  · exact Or.inr (Or.inl (Int32.toInt_inj.mp (h.trans (by decide))))
  · exact Or.inr (Or.inr (Or.inl (Int32.toInt_inj.mp (h.trans (by decide)))))
  · exact Or.inr (Or.inr (Or.inr (Or.inl (Int32.toInt_inj.mp (h.trans (by decide))))))
  · exact Or.inr (Or.inr (Or.inr (Or.inr (Or.inl (Int32.toInt_inj.mp (h.trans (by decide)))))))
  · exact Or.inr (Or.inr (Or.inr (Or.inr (Or.inr ((Int32.toInt_inj.mp (h.trans (by decide))))))))
theorem own_rem6 (x : Int32) : (x &&& 2147483647) % 6 = 0 ∨ (x &&& 2147483647) % 6 = 1 ∨ (x &&& 2147483647) % 6 = 2 ∨ (x &&& 2147483647) % 6 = 3 ∨ (x &&& 2147483647) % 6 = 4 ∨ (x &&& 2147483647) % 6 = 5 := by
  have e := c_mask x 2147483647 31 (by decide) (by decide)
  have e2 := (c_irem (x &&& 2147483647) 6 6 (by decide)).1 (by rw [e]; omega)
  exact own_rng6 (by rw [e2]; omega) (by rw [e2]; omega)
theorem own_rep_aux {d : Value} : ∀ (N i : Nat), i < N → (List.replicate N d).getD i d = d := fun N i hi => by simp [List.getD_eq_getElem?_getD, List.getElem?_replicate, hi]
theorem own_rep {d : Value} (N : Nat) : ∀ i, i < N → (fun _ : Nat => d) i = lst (List.replicate N d) d i := fun i hi => (own_rep_aux N i hi).symm
theorem d1_0 : decode prog_23_method_6_code 0 = .ok (.aload_n 0, 1) := by decide +kernel
theorem d1_1 : decode prog_23_method_6_code 1 = .ok (.getstatic 3, 3) := by decide +kernel
theorem d1_4 : decode prog_23_method_6_code 4 = .ok (.if_acmp .eq 10, 3) := by decide +kernel
theorem d1_14 : decode prog_23_method_6_code 14 = .ok (.iconst 1, 1) := by decide +kernel
theorem d1_15 : decode prog_23_method_6_code 15 = .ok (.goto 4, 3) := by decide +kernel
theorem d1_19 : decode prog_23_method_6_code 19 = .ok (.ireturn, 1) := by decide +kernel
theorem pn_rm1_0 : plainName "com/example/upmob/upmob/Operator" = true := by first | (simp [plainName, overriddenIn]; done) | decide +kernel
set_option maxRecDepth 65536 in
set_option maxHeartbeats 40000000 in
theorem rm1_0 (l : Launch) (Z : State) (a0 : Array Value) (hw : ∀ d ∈ tables_1, d.before a0 Z = true)  (w_EQUAL w_NOT_EQUAL w_LESS w_LESS_OR_EQUAL w_GREATER w_GREATER_OR_EQUAL : Addr) (h0 : Heap) (F0 : OwnF Z h0 w_EQUAL w_NOT_EQUAL w_LESS w_LESS_OR_EQUAL w_GREATER w_GREATER_OR_EQUAL)  :
    OMeets l Z mn0 prog_23_method_6_code 1 (some .boolean) [] ({ frames := 0, cells := 0, slots := 0, locals := 0 } : Room) #[(.ref w_EQUAL)] h0 (PureQ (some (.int (1 : Int32))) h0) := by
  refine OMeets.of pn_rm1_0 #[.val (.ref w_EQUAL)] (fun m => by first | rfl | (simp [entryFrame, mkF, argsToLocals, Value.category, maxLocals]; done)) ?_
  intro p e s m below meth c s₁ B X0 e0
  have F := F0
  obtain ⟨S_EQUAL, E_EQUAL, S_NOT_EQUAL, E_NOT_EQUAL, S_LESS, E_LESS, S_LESS_OR_EQUAL, E_LESS_OR_EQUAL, S_GREATER, E_GREATER, S_GREATER_OR_EQUAL, E_GREATER_OR_EQUAL, F_EQUAL_ordinal, F_LESS_OR_EQUAL_ordinal, F_NOT_EQUAL_ordinal, F_LESS_ordinal, F_GREATER_OR_EQUAL_ordinal, F_GREATER_ordinal⟩ := F
  refine s_aloadN B X0 (pc' := 1) d1_0 rfl rfl rfl ?_
  refine s_getS B X0 (pc' := 4) e0 (tw22 hw) Via.refl S_EQUAL d1_1 rfl (fun T1 X1 e1 => ?_)
  refine b_acmp_eq B X1 (py := 14) (pn := 7) d1_4 (by decide) (by decide) rfl (fun _ => ?_) (fun q => absurd rfl q)
  refine s_iconst B X1 (pc' := 15) (v := (1 : Int32)) d1_14 rfl rfl ?_
  refine s_goto B X1 (pc' := 19) d1_15 (by decide) (by decide) ?_
  exact r_nar B X1 (t := .boolean) (by simp) rfl d1_19 ⟨rfl, rfl, e1⟩ (by decide) (by decide)
theorem d3_0 : decode jdk_37_method_2_code 0 = .ok (.aload_n 0, 1) := by decide +kernel
theorem d3_1 : decode jdk_37_method_2_code 1 = .ok (.getfield 7, 3) := by decide +kernel
theorem d3_4 : decode jdk_37_method_2_code 4 = .ok (.ireturn, 1) := by decide +kernel
theorem pn_rm3_2 : plainName "java/lang/Enum" = true := by first | (simp [plainName, overriddenIn]; done) | decide +kernel
set_option maxRecDepth 65536 in
set_option maxHeartbeats 40000000 in
theorem rm3_2 (l : Launch) (Z : State) (a0 : Array Value) (hw : ∀ d ∈ tables_1, d.before a0 Z = true)  (w_EQUAL w_NOT_EQUAL w_LESS w_LESS_OR_EQUAL w_GREATER w_GREATER_OR_EQUAL : Addr) (h0 : Heap) (F0 : OwnF Z h0 w_EQUAL w_NOT_EQUAL w_LESS w_LESS_OR_EQUAL w_GREATER w_GREATER_OR_EQUAL)  :
    OMeets l Z mn1 jdk_37_method_2_code 1 (some .int) [] ({ frames := 0, cells := 0, slots := 0, locals := 0 } : Room) #[(.ref w_EQUAL)] h0 (PureQ (some (.int (0 : Int32))) h0) := by
  refine OMeets.of pn_rm3_2 #[.val (.ref w_EQUAL)] (fun m => by first | rfl | (simp [entryFrame, mkF, argsToLocals, Value.category, maxLocals]; done)) ?_
  intro p e s m below meth c s₁ B X0 e0
  have F := F0
  obtain ⟨S_EQUAL, E_EQUAL, S_NOT_EQUAL, E_NOT_EQUAL, S_LESS, E_LESS, S_LESS_OR_EQUAL, E_LESS_OR_EQUAL, S_GREATER, E_GREATER, S_GREATER_OR_EQUAL, E_GREATER_OR_EQUAL, F_EQUAL_ordinal, F_LESS_OR_EQUAL_ordinal, F_NOT_EQUAL_ordinal, F_LESS_ordinal, F_GREATER_OR_EQUAL_ordinal, F_GREATER_ordinal⟩ := F
  refine s_aloadN B X0 (pc' := 1) d3_0 rfl rfl rfl ?_
  refine s_getF B X0 (pc' := 4) e0 (host := "") (Or.inl (tw35 hw)) Via.refl F_EQUAL_ordinal d3_1 rfl (fun T1 X1 e1 => ?_)
  exact r_int B X1 rfl d3_4 ⟨rfl, rfl, e1⟩ (by decide) (by decide)
theorem d2_0 : decode prog_23_method_5_code 0 = .ok (.aload_n 0, 1) := by decide +kernel
theorem d2_1 : decode prog_23_method_5_code 1 = .ok (.invokevirtual 45, 3) := by decide +kernel
theorem d2_4 : decode prog_23_method_5_code 4 = .ok (.tableswitch 40 0 5 #[50, 62, 74, 86, 98, 110], 40) := by decide +kernel
theorem d2_54 : decode prog_23_method_5_code 54 = .ok (.iload_n 1, 1) := by decide +kernel
theorem d2_55 : decode prog_23_method_5_code 55 = .ok (.ifCond .ne 7, 3) := by decide +kernel
theorem d2_62 : decode prog_23_method_5_code 62 = .ok (.iconst 0, 1) := by decide +kernel
theorem d2_63 : decode prog_23_method_5_code 63 = .ok (.goto 60, 3) := by decide +kernel
theorem d2_123 : decode prog_23_method_5_code 123 = .ok (.istore_n 2, 1) := by decide +kernel
theorem d2_124 : decode prog_23_method_5_code 124 = .ok (.iload_n 2, 1) := by decide +kernel
theorem d2_125 : decode prog_23_method_5_code 125 = .ok (.ireturn, 1) := by decide +kernel
theorem pn_rm2_1 : plainName "com/example/upmob/upmob/Operator" = true := by first | (simp [plainName, overriddenIn]; done) | decide +kernel
set_option maxRecDepth 65536 in
set_option maxHeartbeats 40000000 in
theorem rm2_1 (l : Launch) (Z : State) (a0 : Array Value) (hw : ∀ d ∈ tables_1, d.before a0 Z = true)  (w_EQUAL w_NOT_EQUAL w_LESS w_LESS_OR_EQUAL w_GREATER w_GREATER_OR_EQUAL : Addr) (h0 : Heap) (F0 : OwnF Z h0 w_EQUAL w_NOT_EQUAL w_LESS w_LESS_OR_EQUAL w_GREATER w_GREATER_OR_EQUAL)  :
    OMeets l Z mn3 prog_23_method_5_code 3 (some .boolean) [] ({ frames := 1, cells := 0, slots := 0, locals := 12 } : Room) #[(.ref w_EQUAL), (.int (1 : Int32))] h0 (PureQ (some (.int (0 : Int32))) h0) := by
  refine OMeets.of pn_rm2_1 #[.val (.ref w_EQUAL), .val (.int (1 : Int32)), .unset] (fun m => by first | rfl | (simp [entryFrame, mkF, argsToLocals, Value.category, maxLocals]; done)) ?_
  intro p e s m below meth c s₁ B X0 e0
  have F := F0
  obtain ⟨S_EQUAL, E_EQUAL, S_NOT_EQUAL, E_NOT_EQUAL, S_LESS, E_LESS, S_LESS_OR_EQUAL, E_LESS_OR_EQUAL, S_GREATER, E_GREATER, S_GREATER_OR_EQUAL, E_GREATER_OR_EQUAL, F_EQUAL_ordinal, F_LESS_OR_EQUAL_ordinal, F_NOT_EQUAL_ordinal, F_LESS_ordinal, F_GREATER_OR_EQUAL_ordinal, F_GREATER_ordinal⟩ := F
  refine s_aloadN B X0 (pc' := 1) d2_0 rfl rfl rfl ?_
  refine p_virtualUp B X0 (y := mn2) (z := mn1) (owner := "java/lang/Enum") (pc' := 4) (argsL := []) (under := []) (W := 0) e0 (tw28 hw) (tw29 hw) (tw30 hw) (tw32 hw) (tw31 hw) (tw34 hw) (tw33 hw) (by decide) (rm3_2 l Z a0 hw  w_EQUAL w_NOT_EQUAL w_LESS w_LESS_OR_EQUAL w_GREATER w_GREATER_OR_EQUAL h0 F0 ) E_EQUAL (lenOf pd_1 rfl) rfl rfl (by decide) (by decide) rfl rfl (by decide) (by decide) rfl d2_1 rfl (fun T1 X1 e1 => ?_)
  show Go p e below _ (T1.setTop (mkF m 4 #[.val (.ref w_EQUAL), .val (.int (1 : Int32)), .unset] [(.int (0 : Int32))]))
  refine s_tswIn B X1 (pc' := 54) (o := 50) d2_4 (by decide) rfl (by decide) (by decide) ?_
  refine s_iloadN B X1 (pc' := 55) d2_54 rfl rfl ?_
  refine s_ifY B X1 (pc' := 62) d2_55 (by decide) (by decide) (by decide) ?_
  refine s_iconst B X1 (pc' := 63) (v := (0 : Int32)) d2_62 rfl rfl ?_
  refine s_goto B X1 (pc' := 123) d2_63 (by decide) (by decide) ?_
  refine s_istoreN B X1 (pc' := 124) (Ls' := #[.val (.ref w_EQUAL), .val (.int (1 : Int32)), .val (.int (0 : Int32))]) d2_123 rfl rfl ?_
  refine s_iloadN B X1 (pc' := 125) d2_124 rfl rfl ?_
  exact r_nar B X1 (t := .boolean) (by simp) rfl d2_125 ⟨rfl, rfl, e1⟩ (by decide) (by decide)

theorem pn_rm2_3 : plainName "com/example/upmob/upmob/Operator" = true := by first | (simp [plainName, overriddenIn]; done) | decide +kernel
set_option maxRecDepth 65536 in
set_option maxHeartbeats 40000000 in
theorem rm2_3 (l : Launch) (Z : State) (a0 : Array Value) (hw : ∀ d ∈ tables_1, d.before a0 Z = true)  (w_EQUAL w_NOT_EQUAL w_LESS w_LESS_OR_EQUAL w_GREATER w_GREATER_OR_EQUAL : Addr) (h0 : Heap) (F0 : OwnF Z h0 w_EQUAL w_NOT_EQUAL w_LESS w_LESS_OR_EQUAL w_GREATER w_GREATER_OR_EQUAL)  :
    OMeets l Z mn3 prog_23_method_5_code 3 (some .boolean) [] ({ frames := 1, cells := 0, slots := 0, locals := 12 } : Room) #[(.ref w_EQUAL), (.int (-1 : Int32))] h0 (PureQ (some (.int (0 : Int32))) h0) := by
  refine OMeets.of pn_rm2_3 #[.val (.ref w_EQUAL), .val (.int (-1 : Int32)), .unset] (fun m => by first | rfl | (simp [entryFrame, mkF, argsToLocals, Value.category, maxLocals]; done)) ?_
  intro p e s m below meth c s₁ B X0 e0
  have F := F0
  obtain ⟨S_EQUAL, E_EQUAL, S_NOT_EQUAL, E_NOT_EQUAL, S_LESS, E_LESS, S_LESS_OR_EQUAL, E_LESS_OR_EQUAL, S_GREATER, E_GREATER, S_GREATER_OR_EQUAL, E_GREATER_OR_EQUAL, F_EQUAL_ordinal, F_LESS_OR_EQUAL_ordinal, F_NOT_EQUAL_ordinal, F_LESS_ordinal, F_GREATER_OR_EQUAL_ordinal, F_GREATER_ordinal⟩ := F
  refine s_aloadN B X0 (pc' := 1) d2_0 rfl rfl rfl ?_
  refine p_virtualUp B X0 (y := mn2) (z := mn1) (owner := "java/lang/Enum") (pc' := 4) (argsL := []) (under := []) (W := 0) e0 (tw28 hw) (tw29 hw) (tw30 hw) (tw32 hw) (tw31 hw) (tw34 hw) (tw33 hw) (by decide) (rm3_2 l Z a0 hw  w_EQUAL w_NOT_EQUAL w_LESS w_LESS_OR_EQUAL w_GREATER w_GREATER_OR_EQUAL h0 F0 ) E_EQUAL (lenOf pd_1 rfl) rfl rfl (by decide) (by decide) rfl rfl (by decide) (by decide) rfl d2_1 rfl (fun T1 X1 e1 => ?_)
  show Go p e below _ (T1.setTop (mkF m 4 #[.val (.ref w_EQUAL), .val (.int (-1 : Int32)), .unset] [(.int (0 : Int32))]))
  refine s_tswIn B X1 (pc' := 54) (o := 50) d2_4 (by decide) rfl (by decide) (by decide) ?_
  refine s_iloadN B X1 (pc' := 55) d2_54 rfl rfl ?_
  refine s_ifY B X1 (pc' := 62) d2_55 (by decide) (by decide) (by decide) ?_
  refine s_iconst B X1 (pc' := 63) (v := (0 : Int32)) d2_62 rfl rfl ?_
  refine s_goto B X1 (pc' := 123) d2_63 (by decide) (by decide) ?_
  refine s_istoreN B X1 (pc' := 124) (Ls' := #[.val (.ref w_EQUAL), .val (.int (-1 : Int32)), .val (.int (0 : Int32))]) d2_123 rfl rfl ?_
  refine s_iloadN B X1 (pc' := 125) d2_124 rfl rfl ?_
  exact r_nar B X1 (t := .boolean) (by simp) rfl d2_125 ⟨rfl, rfl, e1⟩ (by decide) (by decide)
theorem own_ne_w_NOT_EQUAL_w_EQUAL {Z : State} {h : Heap} {w_EQUAL w_NOT_EQUAL w_LESS w_LESS_OR_EQUAL w_GREATER w_GREATER_OR_EQUAL : Addr} (F : OwnF Z h w_EQUAL w_NOT_EQUAL w_LESS w_LESS_OR_EQUAL w_GREATER w_GREATER_OR_EQUAL) : ¬ w_NOT_EQUAL = w_EQUAL := by
  obtain ⟨S_EQUAL, E_EQUAL, S_NOT_EQUAL, E_NOT_EQUAL, S_LESS, E_LESS, S_LESS_OR_EQUAL, E_LESS_OR_EQUAL, S_GREATER, E_GREATER, S_GREATER_OR_EQUAL, E_GREATER_OR_EQUAL, F_EQUAL_ordinal, F_LESS_OR_EQUAL_ordinal, F_NOT_EQUAL_ordinal, F_LESS_ordinal, F_GREATER_OR_EQUAL_ordinal, F_GREATER_ordinal⟩ := F
  exact F_NOT_EQUAL_ordinal.ne F_EQUAL_ordinal (by decide)
theorem d1_7 : decode prog_23_method_6_code 7 = .ok (.aload_n 0, 1) := by decide +kernel
theorem d1_8 : decode prog_23_method_6_code 8 = .ok (.getstatic 7, 3) := by decide +kernel
theorem d1_11 : decode prog_23_method_6_code 11 = .ok (.if_acmp .ne 7, 3) := by decide +kernel
theorem pn_rm1_4 : plainName "com/example/upmob/upmob/Operator" = true := by first | (simp [plainName, overriddenIn]; done) | decide +kernel
set_option maxRecDepth 65536 in
set_option maxHeartbeats 40000000 in
theorem rm1_4 (l : Launch) (Z : State) (a0 : Array Value) (hw : ∀ d ∈ tables_1, d.before a0 Z = true)  (w_EQUAL w_NOT_EQUAL w_LESS w_LESS_OR_EQUAL w_GREATER w_GREATER_OR_EQUAL : Addr) (h0 : Heap) (F0 : OwnF Z h0 w_EQUAL w_NOT_EQUAL w_LESS w_LESS_OR_EQUAL w_GREATER w_GREATER_OR_EQUAL)  :
    OMeets l Z mn0 prog_23_method_6_code 1 (some .boolean) [] ({ frames := 0, cells := 0, slots := 0, locals := 0 } : Room) #[(.ref w_NOT_EQUAL)] h0 (PureQ (some (.int (1 : Int32))) h0) := by
  refine OMeets.of pn_rm1_4 #[.val (.ref w_NOT_EQUAL)] (fun m => by first | rfl | (simp [entryFrame, mkF, argsToLocals, Value.category, maxLocals]; done)) ?_
  intro p e s m below meth c s₁ B X0 e0
  have F := F0
  obtain ⟨S_EQUAL, E_EQUAL, S_NOT_EQUAL, E_NOT_EQUAL, S_LESS, E_LESS, S_LESS_OR_EQUAL, E_LESS_OR_EQUAL, S_GREATER, E_GREATER, S_GREATER_OR_EQUAL, E_GREATER_OR_EQUAL, F_EQUAL_ordinal, F_LESS_OR_EQUAL_ordinal, F_NOT_EQUAL_ordinal, F_LESS_ordinal, F_GREATER_OR_EQUAL_ordinal, F_GREATER_ordinal⟩ := F
  refine s_aloadN B X0 (pc' := 1) d1_0 rfl rfl rfl ?_
  refine s_getS B X0 (pc' := 4) e0 (tw22 hw) Via.refl S_EQUAL d1_1 rfl (fun T1 X1 e1 => ?_)
  refine b_acmp_eq B X1 (py := 14) (pn := 7) d1_4 (by decide) (by decide) rfl (fun q => absurd q (own_ne_w_NOT_EQUAL_w_EQUAL F0)) (fun _ => ?_)
  refine s_aloadN B X1 (pc' := 8) d1_7 rfl rfl rfl ?_
  refine s_getS B X1 (pc' := 11) e1 (tw37 hw) Via.refl S_NOT_EQUAL d1_8 rfl (fun T2 X2 e2 => ?_)
  refine b_acmp_ne B X2 (py := 18) (pn := 14) d1_11 (by decide) (by decide) rfl (fun q => absurd rfl q) (fun _ => ?_)
  refine s_iconst B X2 (pc' := 15) (v := (1 : Int32)) d1_14 rfl rfl ?_
  refine s_goto B X2 (pc' := 19) d1_15 (by decide) (by decide) ?_
  exact r_nar B X2 (t := .boolean) (by simp) rfl d1_19 ⟨rfl, rfl, e2⟩ (by decide) (by decide)

theorem pn_rm3_6 : plainName "java/lang/Enum" = true := by first | (simp [plainName, overriddenIn]; done) | decide +kernel
set_option maxRecDepth 65536 in
set_option maxHeartbeats 40000000 in
theorem rm3_6 (l : Launch) (Z : State) (a0 : Array Value) (hw : ∀ d ∈ tables_1, d.before a0 Z = true)  (w_EQUAL w_NOT_EQUAL w_LESS w_LESS_OR_EQUAL w_GREATER w_GREATER_OR_EQUAL : Addr) (h0 : Heap) (F0 : OwnF Z h0 w_EQUAL w_NOT_EQUAL w_LESS w_LESS_OR_EQUAL w_GREATER w_GREATER_OR_EQUAL)  :
    OMeets l Z mn1 jdk_37_method_2_code 1 (some .int) [] ({ frames := 0, cells := 0, slots := 0, locals := 0 } : Room) #[(.ref w_NOT_EQUAL)] h0 (PureQ (some (.int (1 : Int32))) h0) := by
  refine OMeets.of pn_rm3_6 #[.val (.ref w_NOT_EQUAL)] (fun m => by first | rfl | (simp [entryFrame, mkF, argsToLocals, Value.category, maxLocals]; done)) ?_
  intro p e s m below meth c s₁ B X0 e0
  have F := F0
  obtain ⟨S_EQUAL, E_EQUAL, S_NOT_EQUAL, E_NOT_EQUAL, S_LESS, E_LESS, S_LESS_OR_EQUAL, E_LESS_OR_EQUAL, S_GREATER, E_GREATER, S_GREATER_OR_EQUAL, E_GREATER_OR_EQUAL, F_EQUAL_ordinal, F_LESS_OR_EQUAL_ordinal, F_NOT_EQUAL_ordinal, F_LESS_ordinal, F_GREATER_OR_EQUAL_ordinal, F_GREATER_ordinal⟩ := F
  refine s_aloadN B X0 (pc' := 1) d3_0 rfl rfl rfl ?_
  refine s_getF B X0 (pc' := 4) e0 (host := "") (Or.inl (tw35 hw)) Via.refl F_NOT_EQUAL_ordinal d3_1 rfl (fun T1 X1 e1 => ?_)
  exact r_int B X1 rfl d3_4 ⟨rfl, rfl, e1⟩ (by decide) (by decide)
theorem d2_66 : decode prog_23_method_5_code 66 = .ok (.iload_n 1, 1) := by decide +kernel
theorem d2_67 : decode prog_23_method_5_code 67 = .ok (.ifCond .eq 7, 3) := by decide +kernel
theorem d2_70 : decode prog_23_method_5_code 70 = .ok (.iconst 1, 1) := by decide +kernel
theorem d2_71 : decode prog_23_method_5_code 71 = .ok (.goto 52, 3) := by decide +kernel
theorem pn_rm2_5 : plainName "com/example/upmob/upmob/Operator" = true := by first | (simp [plainName, overriddenIn]; done) | decide +kernel
set_option maxRecDepth 65536 in
set_option maxHeartbeats 40000000 in
theorem rm2_5 (l : Launch) (Z : State) (a0 : Array Value) (hw : ∀ d ∈ tables_1, d.before a0 Z = true)  (w_EQUAL w_NOT_EQUAL w_LESS w_LESS_OR_EQUAL w_GREATER w_GREATER_OR_EQUAL : Addr) (h0 : Heap) (F0 : OwnF Z h0 w_EQUAL w_NOT_EQUAL w_LESS w_LESS_OR_EQUAL w_GREATER w_GREATER_OR_EQUAL)  :
    OMeets l Z mn3 prog_23_method_5_code 3 (some .boolean) [] ({ frames := 1, cells := 0, slots := 0, locals := 12 } : Room) #[(.ref w_NOT_EQUAL), (.int (1 : Int32))] h0 (PureQ (some (.int (1 : Int32))) h0) := by
  refine OMeets.of pn_rm2_5 #[.val (.ref w_NOT_EQUAL), .val (.int (1 : Int32)), .unset] (fun m => by first | rfl | (simp [entryFrame, mkF, argsToLocals, Value.category, maxLocals]; done)) ?_
  intro p e s m below meth c s₁ B X0 e0
  have F := F0
  obtain ⟨S_EQUAL, E_EQUAL, S_NOT_EQUAL, E_NOT_EQUAL, S_LESS, E_LESS, S_LESS_OR_EQUAL, E_LESS_OR_EQUAL, S_GREATER, E_GREATER, S_GREATER_OR_EQUAL, E_GREATER_OR_EQUAL, F_EQUAL_ordinal, F_LESS_OR_EQUAL_ordinal, F_NOT_EQUAL_ordinal, F_LESS_ordinal, F_GREATER_OR_EQUAL_ordinal, F_GREATER_ordinal⟩ := F
  refine s_aloadN B X0 (pc' := 1) d2_0 rfl rfl rfl ?_
  refine p_virtualUp B X0 (y := mn2) (z := mn1) (owner := "java/lang/Enum") (pc' := 4) (argsL := []) (under := []) (W := 0) e0 (tw28 hw) (tw29 hw) (tw30 hw) (tw32 hw) (tw31 hw) (tw34 hw) (tw33 hw) (by decide) (rm3_6 l Z a0 hw  w_EQUAL w_NOT_EQUAL w_LESS w_LESS_OR_EQUAL w_GREATER w_GREATER_OR_EQUAL h0 F0 ) E_NOT_EQUAL (lenOf pd_1 rfl) rfl rfl (by decide) (by decide) rfl rfl (by decide) (by decide) rfl d2_1 rfl (fun T1 X1 e1 => ?_)
  show Go p e below _ (T1.setTop (mkF m 4 #[.val (.ref w_NOT_EQUAL), .val (.int (1 : Int32)), .unset] [(.int (1 : Int32))]))
  refine s_tswIn B X1 (pc' := 66) (o := 62) d2_4 (by decide) rfl (by decide) (by decide) ?_
  refine s_iloadN B X1 (pc' := 67) d2_66 rfl rfl ?_
  refine s_ifN B X1 (pc' := 70) d2_67 (by decide) rfl ?_
  refine s_iconst B X1 (pc' := 71) (v := (1 : Int32)) d2_70 rfl rfl ?_
  refine s_goto B X1 (pc' := 123) d2_71 (by decide) (by decide) ?_
  refine s_istoreN B X1 (pc' := 124) (Ls' := #[.val (.ref w_NOT_EQUAL), .val (.int (1 : Int32)), .val (.int (1 : Int32))]) d2_123 rfl rfl ?_
  refine s_iloadN B X1 (pc' := 125) d2_124 rfl rfl ?_
  exact r_nar B X1 (t := .boolean) (by simp) rfl d2_125 ⟨rfl, rfl, e1⟩ (by decide) (by decide)

theorem pn_rm2_7 : plainName "com/example/upmob/upmob/Operator" = true := by first | (simp [plainName, overriddenIn]; done) | decide +kernel
set_option maxRecDepth 65536 in
set_option maxHeartbeats 40000000 in
theorem rm2_7 (l : Launch) (Z : State) (a0 : Array Value) (hw : ∀ d ∈ tables_1, d.before a0 Z = true)  (w_EQUAL w_NOT_EQUAL w_LESS w_LESS_OR_EQUAL w_GREATER w_GREATER_OR_EQUAL : Addr) (h0 : Heap) (F0 : OwnF Z h0 w_EQUAL w_NOT_EQUAL w_LESS w_LESS_OR_EQUAL w_GREATER w_GREATER_OR_EQUAL)  :
    OMeets l Z mn3 prog_23_method_5_code 3 (some .boolean) [] ({ frames := 1, cells := 0, slots := 0, locals := 12 } : Room) #[(.ref w_NOT_EQUAL), (.int (-1 : Int32))] h0 (PureQ (some (.int (1 : Int32))) h0) := by
  refine OMeets.of pn_rm2_7 #[.val (.ref w_NOT_EQUAL), .val (.int (-1 : Int32)), .unset] (fun m => by first | rfl | (simp [entryFrame, mkF, argsToLocals, Value.category, maxLocals]; done)) ?_
  intro p e s m below meth c s₁ B X0 e0
  have F := F0
  obtain ⟨S_EQUAL, E_EQUAL, S_NOT_EQUAL, E_NOT_EQUAL, S_LESS, E_LESS, S_LESS_OR_EQUAL, E_LESS_OR_EQUAL, S_GREATER, E_GREATER, S_GREATER_OR_EQUAL, E_GREATER_OR_EQUAL, F_EQUAL_ordinal, F_LESS_OR_EQUAL_ordinal, F_NOT_EQUAL_ordinal, F_LESS_ordinal, F_GREATER_OR_EQUAL_ordinal, F_GREATER_ordinal⟩ := F
  refine s_aloadN B X0 (pc' := 1) d2_0 rfl rfl rfl ?_
  refine p_virtualUp B X0 (y := mn2) (z := mn1) (owner := "java/lang/Enum") (pc' := 4) (argsL := []) (under := []) (W := 0) e0 (tw28 hw) (tw29 hw) (tw30 hw) (tw32 hw) (tw31 hw) (tw34 hw) (tw33 hw) (by decide) (rm3_6 l Z a0 hw  w_EQUAL w_NOT_EQUAL w_LESS w_LESS_OR_EQUAL w_GREATER w_GREATER_OR_EQUAL h0 F0 ) E_NOT_EQUAL (lenOf pd_1 rfl) rfl rfl (by decide) (by decide) rfl rfl (by decide) (by decide) rfl d2_1 rfl (fun T1 X1 e1 => ?_)
  show Go p e below _ (T1.setTop (mkF m 4 #[.val (.ref w_NOT_EQUAL), .val (.int (-1 : Int32)), .unset] [(.int (1 : Int32))]))
  refine s_tswIn B X1 (pc' := 66) (o := 62) d2_4 (by decide) rfl (by decide) (by decide) ?_
  refine s_iloadN B X1 (pc' := 67) d2_66 rfl rfl ?_
  refine s_ifN B X1 (pc' := 70) d2_67 (by decide) rfl ?_
  refine s_iconst B X1 (pc' := 71) (v := (1 : Int32)) d2_70 rfl rfl ?_
  refine s_goto B X1 (pc' := 123) d2_71 (by decide) (by decide) ?_
  refine s_istoreN B X1 (pc' := 124) (Ls' := #[.val (.ref w_NOT_EQUAL), .val (.int (-1 : Int32)), .val (.int (1 : Int32))]) d2_123 rfl rfl ?_
  refine s_iloadN B X1 (pc' := 125) d2_124 rfl rfl ?_
  exact r_nar B X1 (t := .boolean) (by simp) rfl d2_125 ⟨rfl, rfl, e1⟩ (by decide) (by decide)
theorem own_ne_w_LESS_w_EQUAL {Z : State} {h : Heap} {w_EQUAL w_NOT_EQUAL w_LESS w_LESS_OR_EQUAL w_GREATER w_GREATER_OR_EQUAL : Addr} (F : OwnF Z h w_EQUAL w_NOT_EQUAL w_LESS w_LESS_OR_EQUAL w_GREATER w_GREATER_OR_EQUAL) : ¬ w_LESS = w_EQUAL := by
  obtain ⟨S_EQUAL, E_EQUAL, S_NOT_EQUAL, E_NOT_EQUAL, S_LESS, E_LESS, S_LESS_OR_EQUAL, E_LESS_OR_EQUAL, S_GREATER, E_GREATER, S_GREATER_OR_EQUAL, E_GREATER_OR_EQUAL, F_EQUAL_ordinal, F_LESS_OR_EQUAL_ordinal, F_NOT_EQUAL_ordinal, F_LESS_ordinal, F_GREATER_OR_EQUAL_ordinal, F_GREATER_ordinal⟩ := F
  exact F_LESS_ordinal.ne F_EQUAL_ordinal (by decide)
theorem own_ne_w_LESS_w_NOT_EQUAL {Z : State} {h : Heap} {w_EQUAL w_NOT_EQUAL w_LESS w_LESS_OR_EQUAL w_GREATER w_GREATER_OR_EQUAL : Addr} (F : OwnF Z h w_EQUAL w_NOT_EQUAL w_LESS w_LESS_OR_EQUAL w_GREATER w_GREATER_OR_EQUAL) : ¬ w_LESS = w_NOT_EQUAL := by
  obtain ⟨S_EQUAL, E_EQUAL, S_NOT_EQUAL, E_NOT_EQUAL, S_LESS, E_LESS, S_LESS_OR_EQUAL, E_LESS_OR_EQUAL, S_GREATER, E_GREATER, S_GREATER_OR_EQUAL, E_GREATER_OR_EQUAL, F_EQUAL_ordinal, F_LESS_OR_EQUAL_ordinal, F_NOT_EQUAL_ordinal, F_LESS_ordinal, F_GREATER_OR_EQUAL_ordinal, F_GREATER_ordinal⟩ := F
  exact F_LESS_ordinal.ne F_NOT_EQUAL_ordinal (by decide)
theorem d1_18 : decode prog_23_method_6_code 18 = .ok (.iconst 0, 1) := by decide +kernel
theorem pn_rm1_8 : plainName "com/example/upmob/upmob/Operator" = true := by first | (simp [plainName, overriddenIn]; done) | decide +kernel
set_option maxRecDepth 65536 in
set_option maxHeartbeats 40000000 in
theorem rm1_8 (l : Launch) (Z : State) (a0 : Array Value) (hw : ∀ d ∈ tables_1, d.before a0 Z = true)  (w_EQUAL w_NOT_EQUAL w_LESS w_LESS_OR_EQUAL w_GREATER w_GREATER_OR_EQUAL : Addr) (h0 : Heap) (F0 : OwnF Z h0 w_EQUAL w_NOT_EQUAL w_LESS w_LESS_OR_EQUAL w_GREATER w_GREATER_OR_EQUAL)  :
    OMeets l Z mn0 prog_23_method_6_code 1 (some .boolean) [] ({ frames := 0, cells := 0, slots := 0, locals := 0 } : Room) #[(.ref w_LESS)] h0 (PureQ (some (.int (0 : Int32))) h0) := by
  refine OMeets.of pn_rm1_8 #[.val (.ref w_LESS)] (fun m => by first | rfl | (simp [entryFrame, mkF, argsToLocals, Value.category, maxLocals]; done)) ?_
  intro p e s m below meth c s₁ B X0 e0
  have F := F0
  obtain ⟨S_EQUAL, E_EQUAL, S_NOT_EQUAL, E_NOT_EQUAL, S_LESS, E_LESS, S_LESS_OR_EQUAL, E_LESS_OR_EQUAL, S_GREATER, E_GREATER, S_GREATER_OR_EQUAL, E_GREATER_OR_EQUAL, F_EQUAL_ordinal, F_LESS_OR_EQUAL_ordinal, F_NOT_EQUAL_ordinal, F_LESS_ordinal, F_GREATER_OR_EQUAL_ordinal, F_GREATER_ordinal⟩ := F
  refine s_aloadN B X0 (pc' := 1) d1_0 rfl rfl rfl ?_
  refine s_getS B X0 (pc' := 4) e0 (tw22 hw) Via.refl S_EQUAL d1_1 rfl (fun T1 X1 e1 => ?_)
  refine b_acmp_eq B X1 (py := 14) (pn := 7) d1_4 (by decide) (by decide) rfl (fun q => absurd q (own_ne_w_LESS_w_EQUAL F0)) (fun _ => ?_)
  refine s_aloadN B X1 (pc' := 8) d1_7 rfl rfl rfl ?_
  refine s_getS B X1 (pc' := 11) e1 (tw37 hw) Via.refl S_NOT_EQUAL d1_8 rfl (fun T2 X2 e2 => ?_)
  refine b_acmp_ne B X2 (py := 18) (pn := 14) d1_11 (by decide) (by decide) rfl (fun _ => ?_) (fun q => absurd q (own_ne_w_LESS_w_NOT_EQUAL F0))
  refine s_iconst B X2 (pc' := 19) (v := (0 : Int32)) d1_18 rfl rfl ?_
  exact r_nar B X2 (t := .boolean) (by simp) rfl d1_19 ⟨rfl, rfl, e2⟩ (by decide) (by decide)

theorem pn_rm3_10 : plainName "java/lang/Enum" = true := by first | (simp [plainName, overriddenIn]; done) | decide +kernel
set_option maxRecDepth 65536 in
set_option maxHeartbeats 40000000 in
theorem rm3_10 (l : Launch) (Z : State) (a0 : Array Value) (hw : ∀ d ∈ tables_1, d.before a0 Z = true)  (w_EQUAL w_NOT_EQUAL w_LESS w_LESS_OR_EQUAL w_GREATER w_GREATER_OR_EQUAL : Addr) (h0 : Heap) (F0 : OwnF Z h0 w_EQUAL w_NOT_EQUAL w_LESS w_LESS_OR_EQUAL w_GREATER w_GREATER_OR_EQUAL)  :
    OMeets l Z mn1 jdk_37_method_2_code 1 (some .int) [] ({ frames := 0, cells := 0, slots := 0, locals := 0 } : Room) #[(.ref w_LESS)] h0 (PureQ (some (.int (2 : Int32))) h0) := by
  refine OMeets.of pn_rm3_10 #[.val (.ref w_LESS)] (fun m => by first | rfl | (simp [entryFrame, mkF, argsToLocals, Value.category, maxLocals]; done)) ?_
  intro p e s m below meth c s₁ B X0 e0
  have F := F0
  obtain ⟨S_EQUAL, E_EQUAL, S_NOT_EQUAL, E_NOT_EQUAL, S_LESS, E_LESS, S_LESS_OR_EQUAL, E_LESS_OR_EQUAL, S_GREATER, E_GREATER, S_GREATER_OR_EQUAL, E_GREATER_OR_EQUAL, F_EQUAL_ordinal, F_LESS_OR_EQUAL_ordinal, F_NOT_EQUAL_ordinal, F_LESS_ordinal, F_GREATER_OR_EQUAL_ordinal, F_GREATER_ordinal⟩ := F
  refine s_aloadN B X0 (pc' := 1) d3_0 rfl rfl rfl ?_
  refine s_getF B X0 (pc' := 4) e0 (host := "") (Or.inl (tw35 hw)) Via.refl F_LESS_ordinal d3_1 rfl (fun T1 X1 e1 => ?_)
  exact r_int B X1 rfl d3_4 ⟨rfl, rfl, e1⟩ (by decide) (by decide)
theorem d2_78 : decode prog_23_method_5_code 78 = .ok (.iload_n 1, 1) := by decide +kernel
theorem d2_79 : decode prog_23_method_5_code 79 = .ok (.ifCond .ge 7, 3) := by decide +kernel
theorem d2_86 : decode prog_23_method_5_code 86 = .ok (.iconst 0, 1) := by decide +kernel
theorem d2_87 : decode prog_23_method_5_code 87 = .ok (.goto 36, 3) := by decide +kernel
theorem pn_rm2_9 : plainName "com/example/upmob/upmob/Operator" = true := by first | (simp [plainName, overriddenIn]; done) | decide +kernel
set_option maxRecDepth 65536 in
set_option maxHeartbeats 40000000 in
theorem rm2_9 (l : Launch) (Z : State) (a0 : Array Value) (hw : ∀ d ∈ tables_1, d.before a0 Z = true)  (w_EQUAL w_NOT_EQUAL w_LESS w_LESS_OR_EQUAL w_GREATER w_GREATER_OR_EQUAL : Addr) (h0 : Heap) (F0 : OwnF Z h0 w_EQUAL w_NOT_EQUAL w_LESS w_LESS_OR_EQUAL w_GREATER w_GREATER_OR_EQUAL)  :
    OMeets l Z mn3 prog_23_method_5_code 3 (some .boolean) [] ({ frames := 1, cells := 0, slots := 0, locals := 12 } : Room) #[(.ref w_LESS), (.int (1 : Int32))] h0 (PureQ (some (.int (0 : Int32))) h0) := by
  refine OMeets.of pn_rm2_9 #[.val (.ref w_LESS), .val (.int (1 : Int32)), .unset] (fun m => by first | rfl | (simp [entryFrame, mkF, argsToLocals, Value.category, maxLocals]; done)) ?_
  intro p e s m below meth c s₁ B X0 e0
  have F := F0
  obtain ⟨S_EQUAL, E_EQUAL, S_NOT_EQUAL, E_NOT_EQUAL, S_LESS, E_LESS, S_LESS_OR_EQUAL, E_LESS_OR_EQUAL, S_GREATER, E_GREATER, S_GREATER_OR_EQUAL, E_GREATER_OR_EQUAL, F_EQUAL_ordinal, F_LESS_OR_EQUAL_ordinal, F_NOT_EQUAL_ordinal, F_LESS_ordinal, F_GREATER_OR_EQUAL_ordinal, F_GREATER_ordinal⟩ := F
  refine s_aloadN B X0 (pc' := 1) d2_0 rfl rfl rfl ?_
  refine p_virtualUp B X0 (y := mn2) (z := mn1) (owner := "java/lang/Enum") (pc' := 4) (argsL := []) (under := []) (W := 0) e0 (tw28 hw) (tw29 hw) (tw30 hw) (tw32 hw) (tw31 hw) (tw34 hw) (tw33 hw) (by decide) (rm3_10 l Z a0 hw  w_EQUAL w_NOT_EQUAL w_LESS w_LESS_OR_EQUAL w_GREATER w_GREATER_OR_EQUAL h0 F0 ) E_LESS (lenOf pd_1 rfl) rfl rfl (by decide) (by decide) rfl rfl (by decide) (by decide) rfl d2_1 rfl (fun T1 X1 e1 => ?_)
  show Go p e below _ (T1.setTop (mkF m 4 #[.val (.ref w_LESS), .val (.int (1 : Int32)), .unset] [(.int (2 : Int32))]))
  refine s_tswIn B X1 (pc' := 78) (o := 74) d2_4 (by decide) rfl (by decide) (by decide) ?_
  refine s_iloadN B X1 (pc' := 79) d2_78 rfl rfl ?_
  refine s_ifY B X1 (pc' := 86) d2_79 (by decide) (by decide) (by decide) ?_
  refine s_iconst B X1 (pc' := 87) (v := (0 : Int32)) d2_86 rfl rfl ?_
  refine s_goto B X1 (pc' := 123) d2_87 (by decide) (by decide) ?_
  refine s_istoreN B X1 (pc' := 124) (Ls' := #[.val (.ref w_LESS), .val (.int (1 : Int32)), .val (.int (0 : Int32))]) d2_123 rfl rfl ?_
  refine s_iloadN B X1 (pc' := 125) d2_124 rfl rfl ?_
  exact r_nar B X1 (t := .boolean) (by simp) rfl d2_125 ⟨rfl, rfl, e1⟩ (by decide) (by decide)
theorem d2_82 : decode prog_23_method_5_code 82 = .ok (.iconst 1, 1) := by decide +kernel
theorem d2_83 : decode prog_23_method_5_code 83 = .ok (.goto 40, 3) := by decide +kernel
theorem pn_rm2_11 : plainName "com/example/upmob/upmob/Operator" = true := by first | (simp [plainName, overriddenIn]; done) | decide +kernel
set_option maxRecDepth 65536 in
set_option maxHeartbeats 40000000 in
theorem rm2_11 (l : Launch) (Z : State) (a0 : Array Value) (hw : ∀ d ∈ tables_1, d.before a0 Z = true)  (w_EQUAL w_NOT_EQUAL w_LESS w_LESS_OR_EQUAL w_GREATER w_GREATER_OR_EQUAL : Addr) (h0 : Heap) (F0 : OwnF Z h0 w_EQUAL w_NOT_EQUAL w_LESS w_LESS_OR_EQUAL w_GREATER w_GREATER_OR_EQUAL)  :
    OMeets l Z mn3 prog_23_method_5_code 3 (some .boolean) [] ({ frames := 1, cells := 0, slots := 0, locals := 12 } : Room) #[(.ref w_LESS), (.int (-1 : Int32))] h0 (PureQ (some (.int (1 : Int32))) h0) := by
  refine OMeets.of pn_rm2_11 #[.val (.ref w_LESS), .val (.int (-1 : Int32)), .unset] (fun m => by first | rfl | (simp [entryFrame, mkF, argsToLocals, Value.category, maxLocals]; done)) ?_
  intro p e s m below meth c s₁ B X0 e0
  have F := F0
  obtain ⟨S_EQUAL, E_EQUAL, S_NOT_EQUAL, E_NOT_EQUAL, S_LESS, E_LESS, S_LESS_OR_EQUAL, E_LESS_OR_EQUAL, S_GREATER, E_GREATER, S_GREATER_OR_EQUAL, E_GREATER_OR_EQUAL, F_EQUAL_ordinal, F_LESS_OR_EQUAL_ordinal, F_NOT_EQUAL_ordinal, F_LESS_ordinal, F_GREATER_OR_EQUAL_ordinal, F_GREATER_ordinal⟩ := F
  refine s_aloadN B X0 (pc' := 1) d2_0 rfl rfl rfl ?_
  refine p_virtualUp B X0 (y := mn2) (z := mn1) (owner := "java/lang/Enum") (pc' := 4) (argsL := []) (under := []) (W := 0) e0 (tw28 hw) (tw29 hw) (tw30 hw) (tw32 hw) (tw31 hw) (tw34 hw) (tw33 hw) (by decide) (rm3_10 l Z a0 hw  w_EQUAL w_NOT_EQUAL w_LESS w_LESS_OR_EQUAL w_GREATER w_GREATER_OR_EQUAL h0 F0 ) E_LESS (lenOf pd_1 rfl) rfl rfl (by decide) (by decide) rfl rfl (by decide) (by decide) rfl d2_1 rfl (fun T1 X1 e1 => ?_)
  show Go p e below _ (T1.setTop (mkF m 4 #[.val (.ref w_LESS), .val (.int (-1 : Int32)), .unset] [(.int (2 : Int32))]))
  refine s_tswIn B X1 (pc' := 78) (o := 74) d2_4 (by decide) rfl (by decide) (by decide) ?_
  refine s_iloadN B X1 (pc' := 79) d2_78 rfl rfl ?_
  refine s_ifN B X1 (pc' := 82) d2_79 (by decide) rfl ?_
  refine s_iconst B X1 (pc' := 83) (v := (1 : Int32)) d2_82 rfl rfl ?_
  refine s_goto B X1 (pc' := 123) d2_83 (by decide) (by decide) ?_
  refine s_istoreN B X1 (pc' := 124) (Ls' := #[.val (.ref w_LESS), .val (.int (-1 : Int32)), .val (.int (1 : Int32))]) d2_123 rfl rfl ?_
  refine s_iloadN B X1 (pc' := 125) d2_124 rfl rfl ?_
  exact r_nar B X1 (t := .boolean) (by simp) rfl d2_125 ⟨rfl, rfl, e1⟩ (by decide) (by decide)
theorem own_ne_w_LESS_OR_EQUAL_w_EQUAL {Z : State} {h : Heap} {w_EQUAL w_NOT_EQUAL w_LESS w_LESS_OR_EQUAL w_GREATER w_GREATER_OR_EQUAL : Addr} (F : OwnF Z h w_EQUAL w_NOT_EQUAL w_LESS w_LESS_OR_EQUAL w_GREATER w_GREATER_OR_EQUAL) : ¬ w_LESS_OR_EQUAL = w_EQUAL := by
  obtain ⟨S_EQUAL, E_EQUAL, S_NOT_EQUAL, E_NOT_EQUAL, S_LESS, E_LESS, S_LESS_OR_EQUAL, E_LESS_OR_EQUAL, S_GREATER, E_GREATER, S_GREATER_OR_EQUAL, E_GREATER_OR_EQUAL, F_EQUAL_ordinal, F_LESS_OR_EQUAL_ordinal, F_NOT_EQUAL_ordinal, F_LESS_ordinal, F_GREATER_OR_EQUAL_ordinal, F_GREATER_ordinal⟩ := F
  exact F_LESS_OR_EQUAL_ordinal.ne F_EQUAL_ordinal (by decide)
theorem own_ne_w_LESS_OR_EQUAL_w_NOT_EQUAL {Z : State} {h : Heap} {w_EQUAL w_NOT_EQUAL w_LESS w_LESS_OR_EQUAL w_GREATER w_GREATER_OR_EQUAL : Addr} (F : OwnF Z h w_EQUAL w_NOT_EQUAL w_LESS w_LESS_OR_EQUAL w_GREATER w_GREATER_OR_EQUAL) : ¬ w_LESS_OR_EQUAL = w_NOT_EQUAL := by
  obtain ⟨S_EQUAL, E_EQUAL, S_NOT_EQUAL, E_NOT_EQUAL, S_LESS, E_LESS, S_LESS_OR_EQUAL, E_LESS_OR_EQUAL, S_GREATER, E_GREATER, S_GREATER_OR_EQUAL, E_GREATER_OR_EQUAL, F_EQUAL_ordinal, F_LESS_OR_EQUAL_ordinal, F_NOT_EQUAL_ordinal, F_LESS_ordinal, F_GREATER_OR_EQUAL_ordinal, F_GREATER_ordinal⟩ := F
  exact F_LESS_OR_EQUAL_ordinal.ne F_NOT_EQUAL_ordinal (by decide)

theorem pn_rm1_12 : plainName "com/example/upmob/upmob/Operator" = true := by first | (simp [plainName, overriddenIn]; done) | decide +kernel
set_option maxRecDepth 65536 in
set_option maxHeartbeats 40000000 in
theorem rm1_12 (l : Launch) (Z : State) (a0 : Array Value) (hw : ∀ d ∈ tables_1, d.before a0 Z = true)  (w_EQUAL w_NOT_EQUAL w_LESS w_LESS_OR_EQUAL w_GREATER w_GREATER_OR_EQUAL : Addr) (h0 : Heap) (F0 : OwnF Z h0 w_EQUAL w_NOT_EQUAL w_LESS w_LESS_OR_EQUAL w_GREATER w_GREATER_OR_EQUAL)  :
    OMeets l Z mn0 prog_23_method_6_code 1 (some .boolean) [] ({ frames := 0, cells := 0, slots := 0, locals := 0 } : Room) #[(.ref w_LESS_OR_EQUAL)] h0 (PureQ (some (.int (0 : Int32))) h0) := by
  refine OMeets.of pn_rm1_12 #[.val (.ref w_LESS_OR_EQUAL)] (fun m => by first | rfl | (simp [entryFrame, mkF, argsToLocals, Value.category, maxLocals]; done)) ?_
  intro p e s m below meth c s₁ B X0 e0
  have F := F0
  obtain ⟨S_EQUAL, E_EQUAL, S_NOT_EQUAL, E_NOT_EQUAL, S_LESS, E_LESS, S_LESS_OR_EQUAL, E_LESS_OR_EQUAL, S_GREATER, E_GREATER, S_GREATER_OR_EQUAL, E_GREATER_OR_EQUAL, F_EQUAL_ordinal, F_LESS_OR_EQUAL_ordinal, F_NOT_EQUAL_ordinal, F_LESS_ordinal, F_GREATER_OR_EQUAL_ordinal, F_GREATER_ordinal⟩ := F
  refine s_aloadN B X0 (pc' := 1) d1_0 rfl rfl rfl ?_
  refine s_getS B X0 (pc' := 4) e0 (tw22 hw) Via.refl S_EQUAL d1_1 rfl (fun T1 X1 e1 => ?_)
  refine b_acmp_eq B X1 (py := 14) (pn := 7) d1_4 (by decide) (by decide) rfl (fun q => absurd q (own_ne_w_LESS_OR_EQUAL_w_EQUAL F0)) (fun _ => ?_)
  refine s_aloadN B X1 (pc' := 8) d1_7 rfl rfl rfl ?_
  refine s_getS B X1 (pc' := 11) e1 (tw37 hw) Via.refl S_NOT_EQUAL d1_8 rfl (fun T2 X2 e2 => ?_)
  refine b_acmp_ne B X2 (py := 18) (pn := 14) d1_11 (by decide) (by decide) rfl (fun _ => ?_) (fun q => absurd q (own_ne_w_LESS_OR_EQUAL_w_NOT_EQUAL F0))
  refine s_iconst B X2 (pc' := 19) (v := (0 : Int32)) d1_18 rfl rfl ?_
  exact r_nar B X2 (t := .boolean) (by simp) rfl d1_19 ⟨rfl, rfl, e2⟩ (by decide) (by decide)

theorem pn_rm3_14 : plainName "java/lang/Enum" = true := by first | (simp [plainName, overriddenIn]; done) | decide +kernel
set_option maxRecDepth 65536 in
set_option maxHeartbeats 40000000 in
theorem rm3_14 (l : Launch) (Z : State) (a0 : Array Value) (hw : ∀ d ∈ tables_1, d.before a0 Z = true)  (w_EQUAL w_NOT_EQUAL w_LESS w_LESS_OR_EQUAL w_GREATER w_GREATER_OR_EQUAL : Addr) (h0 : Heap) (F0 : OwnF Z h0 w_EQUAL w_NOT_EQUAL w_LESS w_LESS_OR_EQUAL w_GREATER w_GREATER_OR_EQUAL)  :
    OMeets l Z mn1 jdk_37_method_2_code 1 (some .int) [] ({ frames := 0, cells := 0, slots := 0, locals := 0 } : Room) #[(.ref w_LESS_OR_EQUAL)] h0 (PureQ (some (.int (3 : Int32))) h0) := by
  refine OMeets.of pn_rm3_14 #[.val (.ref w_LESS_OR_EQUAL)] (fun m => by first | rfl | (simp [entryFrame, mkF, argsToLocals, Value.category, maxLocals]; done)) ?_
  intro p e s m below meth c s₁ B X0 e0
  have F := F0
  obtain ⟨S_EQUAL, E_EQUAL, S_NOT_EQUAL, E_NOT_EQUAL, S_LESS, E_LESS, S_LESS_OR_EQUAL, E_LESS_OR_EQUAL, S_GREATER, E_GREATER, S_GREATER_OR_EQUAL, E_GREATER_OR_EQUAL, F_EQUAL_ordinal, F_LESS_OR_EQUAL_ordinal, F_NOT_EQUAL_ordinal, F_LESS_ordinal, F_GREATER_OR_EQUAL_ordinal, F_GREATER_ordinal⟩ := F
  refine s_aloadN B X0 (pc' := 1) d3_0 rfl rfl rfl ?_
  refine s_getF B X0 (pc' := 4) e0 (host := "") (Or.inl (tw35 hw)) Via.refl F_LESS_OR_EQUAL_ordinal d3_1 rfl (fun T1 X1 e1 => ?_)
  exact r_int B X1 rfl d3_4 ⟨rfl, rfl, e1⟩ (by decide) (by decide)
theorem d2_90 : decode prog_23_method_5_code 90 = .ok (.iload_n 1, 1) := by decide +kernel
theorem d2_91 : decode prog_23_method_5_code 91 = .ok (.ifCond .gt 7, 3) := by decide +kernel
theorem d2_98 : decode prog_23_method_5_code 98 = .ok (.iconst 0, 1) := by decide +kernel
theorem d2_99 : decode prog_23_method_5_code 99 = .ok (.goto 24, 3) := by decide +kernel
theorem pn_rm2_13 : plainName "com/example/upmob/upmob/Operator" = true := by first | (simp [plainName, overriddenIn]; done) | decide +kernel
set_option maxRecDepth 65536 in
set_option maxHeartbeats 40000000 in
theorem rm2_13 (l : Launch) (Z : State) (a0 : Array Value) (hw : ∀ d ∈ tables_1, d.before a0 Z = true)  (w_EQUAL w_NOT_EQUAL w_LESS w_LESS_OR_EQUAL w_GREATER w_GREATER_OR_EQUAL : Addr) (h0 : Heap) (F0 : OwnF Z h0 w_EQUAL w_NOT_EQUAL w_LESS w_LESS_OR_EQUAL w_GREATER w_GREATER_OR_EQUAL)  :
    OMeets l Z mn3 prog_23_method_5_code 3 (some .boolean) [] ({ frames := 1, cells := 0, slots := 0, locals := 12 } : Room) #[(.ref w_LESS_OR_EQUAL), (.int (1 : Int32))] h0 (PureQ (some (.int (0 : Int32))) h0) := by
  refine OMeets.of pn_rm2_13 #[.val (.ref w_LESS_OR_EQUAL), .val (.int (1 : Int32)), .unset] (fun m => by first | rfl | (simp [entryFrame, mkF, argsToLocals, Value.category, maxLocals]; done)) ?_
  intro p e s m below meth c s₁ B X0 e0
  have F := F0
  obtain ⟨S_EQUAL, E_EQUAL, S_NOT_EQUAL, E_NOT_EQUAL, S_LESS, E_LESS, S_LESS_OR_EQUAL, E_LESS_OR_EQUAL, S_GREATER, E_GREATER, S_GREATER_OR_EQUAL, E_GREATER_OR_EQUAL, F_EQUAL_ordinal, F_LESS_OR_EQUAL_ordinal, F_NOT_EQUAL_ordinal, F_LESS_ordinal, F_GREATER_OR_EQUAL_ordinal, F_GREATER_ordinal⟩ := F
  refine s_aloadN B X0 (pc' := 1) d2_0 rfl rfl rfl ?_
  refine p_virtualUp B X0 (y := mn2) (z := mn1) (owner := "java/lang/Enum") (pc' := 4) (argsL := []) (under := []) (W := 0) e0 (tw28 hw) (tw29 hw) (tw30 hw) (tw32 hw) (tw31 hw) (tw34 hw) (tw33 hw) (by decide) (rm3_14 l Z a0 hw  w_EQUAL w_NOT_EQUAL w_LESS w_LESS_OR_EQUAL w_GREATER w_GREATER_OR_EQUAL h0 F0 ) E_LESS_OR_EQUAL (lenOf pd_1 rfl) rfl rfl (by decide) (by decide) rfl rfl (by decide) (by decide) rfl d2_1 rfl (fun T1 X1 e1 => ?_)
  show Go p e below _ (T1.setTop (mkF m 4 #[.val (.ref w_LESS_OR_EQUAL), .val (.int (1 : Int32)), .unset] [(.int (3 : Int32))]))
  refine s_tswIn B X1 (pc' := 90) (o := 86) d2_4 (by decide) rfl (by decide) (by decide) ?_
  refine s_iloadN B X1 (pc' := 91) d2_90 rfl rfl ?_
  refine s_ifY B X1 (pc' := 98) d2_91 (by decide) (by decide) (by decide) ?_
  refine s_iconst B X1 (pc' := 99) (v := (0 : Int32)) d2_98 rfl rfl ?_
  refine s_goto B X1 (pc' := 123) d2_99 (by decide) (by decide) ?_
  refine s_istoreN B X1 (pc' := 124) (Ls' := #[.val (.ref w_LESS_OR_EQUAL), .val (.int (1 : Int32)), .val (.int (0 : Int32))]) d2_123 rfl rfl ?_
  refine s_iloadN B X1 (pc' := 125) d2_124 rfl rfl ?_
  exact r_nar B X1 (t := .boolean) (by simp) rfl d2_125 ⟨rfl, rfl, e1⟩ (by decide) (by decide)
theorem d2_94 : decode prog_23_method_5_code 94 = .ok (.iconst 1, 1) := by decide +kernel
theorem d2_95 : decode prog_23_method_5_code 95 = .ok (.goto 28, 3) := by decide +kernel
theorem pn_rm2_15 : plainName "com/example/upmob/upmob/Operator" = true := by first | (simp [plainName, overriddenIn]; done) | decide +kernel
set_option maxRecDepth 65536 in
set_option maxHeartbeats 40000000 in
theorem rm2_15 (l : Launch) (Z : State) (a0 : Array Value) (hw : ∀ d ∈ tables_1, d.before a0 Z = true)  (w_EQUAL w_NOT_EQUAL w_LESS w_LESS_OR_EQUAL w_GREATER w_GREATER_OR_EQUAL : Addr) (h0 : Heap) (F0 : OwnF Z h0 w_EQUAL w_NOT_EQUAL w_LESS w_LESS_OR_EQUAL w_GREATER w_GREATER_OR_EQUAL)  :
    OMeets l Z mn3 prog_23_method_5_code 3 (some .boolean) [] ({ frames := 1, cells := 0, slots := 0, locals := 12 } : Room) #[(.ref w_LESS_OR_EQUAL), (.int (-1 : Int32))] h0 (PureQ (some (.int (1 : Int32))) h0) := by
  refine OMeets.of pn_rm2_15 #[.val (.ref w_LESS_OR_EQUAL), .val (.int (-1 : Int32)), .unset] (fun m => by first | rfl | (simp [entryFrame, mkF, argsToLocals, Value.category, maxLocals]; done)) ?_
  intro p e s m below meth c s₁ B X0 e0
  have F := F0
  obtain ⟨S_EQUAL, E_EQUAL, S_NOT_EQUAL, E_NOT_EQUAL, S_LESS, E_LESS, S_LESS_OR_EQUAL, E_LESS_OR_EQUAL, S_GREATER, E_GREATER, S_GREATER_OR_EQUAL, E_GREATER_OR_EQUAL, F_EQUAL_ordinal, F_LESS_OR_EQUAL_ordinal, F_NOT_EQUAL_ordinal, F_LESS_ordinal, F_GREATER_OR_EQUAL_ordinal, F_GREATER_ordinal⟩ := F
  refine s_aloadN B X0 (pc' := 1) d2_0 rfl rfl rfl ?_
  refine p_virtualUp B X0 (y := mn2) (z := mn1) (owner := "java/lang/Enum") (pc' := 4) (argsL := []) (under := []) (W := 0) e0 (tw28 hw) (tw29 hw) (tw30 hw) (tw32 hw) (tw31 hw) (tw34 hw) (tw33 hw) (by decide) (rm3_14 l Z a0 hw  w_EQUAL w_NOT_EQUAL w_LESS w_LESS_OR_EQUAL w_GREATER w_GREATER_OR_EQUAL h0 F0 ) E_LESS_OR_EQUAL (lenOf pd_1 rfl) rfl rfl (by decide) (by decide) rfl rfl (by decide) (by decide) rfl d2_1 rfl (fun T1 X1 e1 => ?_)
  show Go p e below _ (T1.setTop (mkF m 4 #[.val (.ref w_LESS_OR_EQUAL), .val (.int (-1 : Int32)), .unset] [(.int (3 : Int32))]))
  refine s_tswIn B X1 (pc' := 90) (o := 86) d2_4 (by decide) rfl (by decide) (by decide) ?_
  refine s_iloadN B X1 (pc' := 91) d2_90 rfl rfl ?_
  refine s_ifN B X1 (pc' := 94) d2_91 (by decide) rfl ?_
  refine s_iconst B X1 (pc' := 95) (v := (1 : Int32)) d2_94 rfl rfl ?_
  refine s_goto B X1 (pc' := 123) d2_95 (by decide) (by decide) ?_
  refine s_istoreN B X1 (pc' := 124) (Ls' := #[.val (.ref w_LESS_OR_EQUAL), .val (.int (-1 : Int32)), .val (.int (1 : Int32))]) d2_123 rfl rfl ?_
  refine s_iloadN B X1 (pc' := 125) d2_124 rfl rfl ?_
  exact r_nar B X1 (t := .boolean) (by simp) rfl d2_125 ⟨rfl, rfl, e1⟩ (by decide) (by decide)
theorem own_ne_w_GREATER_w_EQUAL {Z : State} {h : Heap} {w_EQUAL w_NOT_EQUAL w_LESS w_LESS_OR_EQUAL w_GREATER w_GREATER_OR_EQUAL : Addr} (F : OwnF Z h w_EQUAL w_NOT_EQUAL w_LESS w_LESS_OR_EQUAL w_GREATER w_GREATER_OR_EQUAL) : ¬ w_GREATER = w_EQUAL := by
  obtain ⟨S_EQUAL, E_EQUAL, S_NOT_EQUAL, E_NOT_EQUAL, S_LESS, E_LESS, S_LESS_OR_EQUAL, E_LESS_OR_EQUAL, S_GREATER, E_GREATER, S_GREATER_OR_EQUAL, E_GREATER_OR_EQUAL, F_EQUAL_ordinal, F_LESS_OR_EQUAL_ordinal, F_NOT_EQUAL_ordinal, F_LESS_ordinal, F_GREATER_OR_EQUAL_ordinal, F_GREATER_ordinal⟩ := F
  exact F_GREATER_ordinal.ne F_EQUAL_ordinal (by decide)
theorem own_ne_w_GREATER_w_NOT_EQUAL {Z : State} {h : Heap} {w_EQUAL w_NOT_EQUAL w_LESS w_LESS_OR_EQUAL w_GREATER w_GREATER_OR_EQUAL : Addr} (F : OwnF Z h w_EQUAL w_NOT_EQUAL w_LESS w_LESS_OR_EQUAL w_GREATER w_GREATER_OR_EQUAL) : ¬ w_GREATER = w_NOT_EQUAL := by
  obtain ⟨S_EQUAL, E_EQUAL, S_NOT_EQUAL, E_NOT_EQUAL, S_LESS, E_LESS, S_LESS_OR_EQUAL, E_LESS_OR_EQUAL, S_GREATER, E_GREATER, S_GREATER_OR_EQUAL, E_GREATER_OR_EQUAL, F_EQUAL_ordinal, F_LESS_OR_EQUAL_ordinal, F_NOT_EQUAL_ordinal, F_LESS_ordinal, F_GREATER_OR_EQUAL_ordinal, F_GREATER_ordinal⟩ := F
  exact F_GREATER_ordinal.ne F_NOT_EQUAL_ordinal (by decide)

theorem pn_rm1_16 : plainName "com/example/upmob/upmob/Operator" = true := by first | (simp [plainName, overriddenIn]; done) | decide +kernel
set_option maxRecDepth 65536 in
set_option maxHeartbeats 40000000 in
theorem rm1_16 (l : Launch) (Z : State) (a0 : Array Value) (hw : ∀ d ∈ tables_1, d.before a0 Z = true)  (w_EQUAL w_NOT_EQUAL w_LESS w_LESS_OR_EQUAL w_GREATER w_GREATER_OR_EQUAL : Addr) (h0 : Heap) (F0 : OwnF Z h0 w_EQUAL w_NOT_EQUAL w_LESS w_LESS_OR_EQUAL w_GREATER w_GREATER_OR_EQUAL)  :
    OMeets l Z mn0 prog_23_method_6_code 1 (some .boolean) [] ({ frames := 0, cells := 0, slots := 0, locals := 0 } : Room) #[(.ref w_GREATER)] h0 (PureQ (some (.int (0 : Int32))) h0) := by
  refine OMeets.of pn_rm1_16 #[.val (.ref w_GREATER)] (fun m => by first | rfl | (simp [entryFrame, mkF, argsToLocals, Value.category, maxLocals]; done)) ?_
  intro p e s m below meth c s₁ B X0 e0
  have F := F0
  obtain ⟨S_EQUAL, E_EQUAL, S_NOT_EQUAL, E_NOT_EQUAL, S_LESS, E_LESS, S_LESS_OR_EQUAL, E_LESS_OR_EQUAL, S_GREATER, E_GREATER, S_GREATER_OR_EQUAL, E_GREATER_OR_EQUAL, F_EQUAL_ordinal, F_LESS_OR_EQUAL_ordinal, F_NOT_EQUAL_ordinal, F_LESS_ordinal, F_GREATER_OR_EQUAL_ordinal, F_GREATER_ordinal⟩ := F
  refine s_aloadN B X0 (pc' := 1) d1_0 rfl rfl rfl ?_
  refine s_getS B X0 (pc' := 4) e0 (tw22 hw) Via.refl S_EQUAL d1_1 rfl (fun T1 X1 e1 => ?_)
  refine b_acmp_eq B X1 (py := 14) (pn := 7) d1_4 (by decide) (by decide) rfl (fun q => absurd q (own_ne_w_GREATER_w_EQUAL F0)) (fun _ => ?_)
  refine s_aloadN B X1 (pc' := 8) d1_7 rfl rfl rfl ?_
  refine s_getS B X1 (pc' := 11) e1 (tw37 hw) Via.refl S_NOT_EQUAL d1_8 rfl (fun T2 X2 e2 => ?_)
  refine b_acmp_ne B X2 (py := 18) (pn := 14) d1_11 (by decide) (by decide) rfl (fun _ => ?_) (fun q => absurd q (own_ne_w_GREATER_w_NOT_EQUAL F0))
  refine s_iconst B X2 (pc' := 19) (v := (0 : Int32)) d1_18 rfl rfl ?_
  exact r_nar B X2 (t := .boolean) (by simp) rfl d1_19 ⟨rfl, rfl, e2⟩ (by decide) (by decide)

theorem pn_rm3_18 : plainName "java/lang/Enum" = true := by first | (simp [plainName, overriddenIn]; done) | decide +kernel
set_option maxRecDepth 65536 in
set_option maxHeartbeats 40000000 in
theorem rm3_18 (l : Launch) (Z : State) (a0 : Array Value) (hw : ∀ d ∈ tables_1, d.before a0 Z = true)  (w_EQUAL w_NOT_EQUAL w_LESS w_LESS_OR_EQUAL w_GREATER w_GREATER_OR_EQUAL : Addr) (h0 : Heap) (F0 : OwnF Z h0 w_EQUAL w_NOT_EQUAL w_LESS w_LESS_OR_EQUAL w_GREATER w_GREATER_OR_EQUAL)  :
    OMeets l Z mn1 jdk_37_method_2_code 1 (some .int) [] ({ frames := 0, cells := 0, slots := 0, locals := 0 } : Room) #[(.ref w_GREATER)] h0 (PureQ (some (.int (4 : Int32))) h0) := by
  refine OMeets.of pn_rm3_18 #[.val (.ref w_GREATER)] (fun m => by first | rfl | (simp [entryFrame, mkF, argsToLocals, Value.category, maxLocals]; done)) ?_
  intro p e s m below meth c s₁ B X0 e0
  have F := F0
  obtain ⟨S_EQUAL, E_EQUAL, S_NOT_EQUAL, E_NOT_EQUAL, S_LESS, E_LESS, S_LESS_OR_EQUAL, E_LESS_OR_EQUAL, S_GREATER, E_GREATER, S_GREATER_OR_EQUAL, E_GREATER_OR_EQUAL, F_EQUAL_ordinal, F_LESS_OR_EQUAL_ordinal, F_NOT_EQUAL_ordinal, F_LESS_ordinal, F_GREATER_OR_EQUAL_ordinal, F_GREATER_ordinal⟩ := F
  refine s_aloadN B X0 (pc' := 1) d3_0 rfl rfl rfl ?_
  refine s_getF B X0 (pc' := 4) e0 (host := "") (Or.inl (tw35 hw)) Via.refl F_GREATER_ordinal d3_1 rfl (fun T1 X1 e1 => ?_)
  exact r_int B X1 rfl d3_4 ⟨rfl, rfl, e1⟩ (by decide) (by decide)
theorem d2_102 : decode prog_23_method_5_code 102 = .ok (.iload_n 1, 1) := by decide +kernel
theorem d2_103 : decode prog_23_method_5_code 103 = .ok (.ifCond .le 7, 3) := by decide +kernel
theorem d2_106 : decode prog_23_method_5_code 106 = .ok (.iconst 1, 1) := by decide +kernel
theorem d2_107 : decode prog_23_method_5_code 107 = .ok (.goto 16, 3) := by decide +kernel
theorem pn_rm2_17 : plainName "com/example/upmob/upmob/Operator" = true := by first | (simp [plainName, overriddenIn]; done) | decide +kernel
set_option maxRecDepth 65536 in
set_option maxHeartbeats 40000000 in
theorem rm2_17 (l : Launch) (Z : State) (a0 : Array Value) (hw : ∀ d ∈ tables_1, d.before a0 Z = true)  (w_EQUAL w_NOT_EQUAL w_LESS w_LESS_OR_EQUAL w_GREATER w_GREATER_OR_EQUAL : Addr) (h0 : Heap) (F0 : OwnF Z h0 w_EQUAL w_NOT_EQUAL w_LESS w_LESS_OR_EQUAL w_GREATER w_GREATER_OR_EQUAL)  :
    OMeets l Z mn3 prog_23_method_5_code 3 (some .boolean) [] ({ frames := 1, cells := 0, slots := 0, locals := 12 } : Room) #[(.ref w_GREATER), (.int (1 : Int32))] h0 (PureQ (some (.int (1 : Int32))) h0) := by
  refine OMeets.of pn_rm2_17 #[.val (.ref w_GREATER), .val (.int (1 : Int32)), .unset] (fun m => by first | rfl | (simp [entryFrame, mkF, argsToLocals, Value.category, maxLocals]; done)) ?_
  intro p e s m below meth c s₁ B X0 e0
  have F := F0
  obtain ⟨S_EQUAL, E_EQUAL, S_NOT_EQUAL, E_NOT_EQUAL, S_LESS, E_LESS, S_LESS_OR_EQUAL, E_LESS_OR_EQUAL, S_GREATER, E_GREATER, S_GREATER_OR_EQUAL, E_GREATER_OR_EQUAL, F_EQUAL_ordinal, F_LESS_OR_EQUAL_ordinal, F_NOT_EQUAL_ordinal, F_LESS_ordinal, F_GREATER_OR_EQUAL_ordinal, F_GREATER_ordinal⟩ := F
  refine s_aloadN B X0 (pc' := 1) d2_0 rfl rfl rfl ?_
  refine p_virtualUp B X0 (y := mn2) (z := mn1) (owner := "java/lang/Enum") (pc' := 4) (argsL := []) (under := []) (W := 0) e0 (tw28 hw) (tw29 hw) (tw30 hw) (tw32 hw) (tw31 hw) (tw34 hw) (tw33 hw) (by decide) (rm3_18 l Z a0 hw  w_EQUAL w_NOT_EQUAL w_LESS w_LESS_OR_EQUAL w_GREATER w_GREATER_OR_EQUAL h0 F0 ) E_GREATER (lenOf pd_1 rfl) rfl rfl (by decide) (by decide) rfl rfl (by decide) (by decide) rfl d2_1 rfl (fun T1 X1 e1 => ?_)
  show Go p e below _ (T1.setTop (mkF m 4 #[.val (.ref w_GREATER), .val (.int (1 : Int32)), .unset] [(.int (4 : Int32))]))
  refine s_tswIn B X1 (pc' := 102) (o := 98) d2_4 (by decide) rfl (by decide) (by decide) ?_
  refine s_iloadN B X1 (pc' := 103) d2_102 rfl rfl ?_
  refine s_ifN B X1 (pc' := 106) d2_103 (by decide) rfl ?_
  refine s_iconst B X1 (pc' := 107) (v := (1 : Int32)) d2_106 rfl rfl ?_
  refine s_goto B X1 (pc' := 123) d2_107 (by decide) (by decide) ?_
  refine s_istoreN B X1 (pc' := 124) (Ls' := #[.val (.ref w_GREATER), .val (.int (1 : Int32)), .val (.int (1 : Int32))]) d2_123 rfl rfl ?_
  refine s_iloadN B X1 (pc' := 125) d2_124 rfl rfl ?_
  exact r_nar B X1 (t := .boolean) (by simp) rfl d2_125 ⟨rfl, rfl, e1⟩ (by decide) (by decide)
theorem d2_110 : decode prog_23_method_5_code 110 = .ok (.iconst 0, 1) := by decide +kernel
theorem d2_111 : decode prog_23_method_5_code 111 = .ok (.goto 12, 3) := by decide +kernel
theorem pn_rm2_19 : plainName "com/example/upmob/upmob/Operator" = true := by first | (simp [plainName, overriddenIn]; done) | decide +kernel
set_option maxRecDepth 65536 in
set_option maxHeartbeats 40000000 in
theorem rm2_19 (l : Launch) (Z : State) (a0 : Array Value) (hw : ∀ d ∈ tables_1, d.before a0 Z = true)  (w_EQUAL w_NOT_EQUAL w_LESS w_LESS_OR_EQUAL w_GREATER w_GREATER_OR_EQUAL : Addr) (h0 : Heap) (F0 : OwnF Z h0 w_EQUAL w_NOT_EQUAL w_LESS w_LESS_OR_EQUAL w_GREATER w_GREATER_OR_EQUAL)  :
    OMeets l Z mn3 prog_23_method_5_code 3 (some .boolean) [] ({ frames := 1, cells := 0, slots := 0, locals := 12 } : Room) #[(.ref w_GREATER), (.int (-1 : Int32))] h0 (PureQ (some (.int (0 : Int32))) h0) := by
  refine OMeets.of pn_rm2_19 #[.val (.ref w_GREATER), .val (.int (-1 : Int32)), .unset] (fun m => by first | rfl | (simp [entryFrame, mkF, argsToLocals, Value.category, maxLocals]; done)) ?_
  intro p e s m below meth c s₁ B X0 e0
  have F := F0
  obtain ⟨S_EQUAL, E_EQUAL, S_NOT_EQUAL, E_NOT_EQUAL, S_LESS, E_LESS, S_LESS_OR_EQUAL, E_LESS_OR_EQUAL, S_GREATER, E_GREATER, S_GREATER_OR_EQUAL, E_GREATER_OR_EQUAL, F_EQUAL_ordinal, F_LESS_OR_EQUAL_ordinal, F_NOT_EQUAL_ordinal, F_LESS_ordinal, F_GREATER_OR_EQUAL_ordinal, F_GREATER_ordinal⟩ := F
  refine s_aloadN B X0 (pc' := 1) d2_0 rfl rfl rfl ?_
  refine p_virtualUp B X0 (y := mn2) (z := mn1) (owner := "java/lang/Enum") (pc' := 4) (argsL := []) (under := []) (W := 0) e0 (tw28 hw) (tw29 hw) (tw30 hw) (tw32 hw) (tw31 hw) (tw34 hw) (tw33 hw) (by decide) (rm3_18 l Z a0 hw  w_EQUAL w_NOT_EQUAL w_LESS w_LESS_OR_EQUAL w_GREATER w_GREATER_OR_EQUAL h0 F0 ) E_GREATER (lenOf pd_1 rfl) rfl rfl (by decide) (by decide) rfl rfl (by decide) (by decide) rfl d2_1 rfl (fun T1 X1 e1 => ?_)
  show Go p e below _ (T1.setTop (mkF m 4 #[.val (.ref w_GREATER), .val (.int (-1 : Int32)), .unset] [(.int (4 : Int32))]))
  refine s_tswIn B X1 (pc' := 102) (o := 98) d2_4 (by decide) rfl (by decide) (by decide) ?_
  refine s_iloadN B X1 (pc' := 103) d2_102 rfl rfl ?_
  refine s_ifY B X1 (pc' := 110) d2_103 (by decide) (by decide) (by decide) ?_
  refine s_iconst B X1 (pc' := 111) (v := (0 : Int32)) d2_110 rfl rfl ?_
  refine s_goto B X1 (pc' := 123) d2_111 (by decide) (by decide) ?_
  refine s_istoreN B X1 (pc' := 124) (Ls' := #[.val (.ref w_GREATER), .val (.int (-1 : Int32)), .val (.int (0 : Int32))]) d2_123 rfl rfl ?_
  refine s_iloadN B X1 (pc' := 125) d2_124 rfl rfl ?_
  exact r_nar B X1 (t := .boolean) (by simp) rfl d2_125 ⟨rfl, rfl, e1⟩ (by decide) (by decide)
theorem own_ne_w_GREATER_OR_EQUAL_w_EQUAL {Z : State} {h : Heap} {w_EQUAL w_NOT_EQUAL w_LESS w_LESS_OR_EQUAL w_GREATER w_GREATER_OR_EQUAL : Addr} (F : OwnF Z h w_EQUAL w_NOT_EQUAL w_LESS w_LESS_OR_EQUAL w_GREATER w_GREATER_OR_EQUAL) : ¬ w_GREATER_OR_EQUAL = w_EQUAL := by
  obtain ⟨S_EQUAL, E_EQUAL, S_NOT_EQUAL, E_NOT_EQUAL, S_LESS, E_LESS, S_LESS_OR_EQUAL, E_LESS_OR_EQUAL, S_GREATER, E_GREATER, S_GREATER_OR_EQUAL, E_GREATER_OR_EQUAL, F_EQUAL_ordinal, F_LESS_OR_EQUAL_ordinal, F_NOT_EQUAL_ordinal, F_LESS_ordinal, F_GREATER_OR_EQUAL_ordinal, F_GREATER_ordinal⟩ := F
  exact F_GREATER_OR_EQUAL_ordinal.ne F_EQUAL_ordinal (by decide)
theorem own_ne_w_GREATER_OR_EQUAL_w_NOT_EQUAL {Z : State} {h : Heap} {w_EQUAL w_NOT_EQUAL w_LESS w_LESS_OR_EQUAL w_GREATER w_GREATER_OR_EQUAL : Addr} (F : OwnF Z h w_EQUAL w_NOT_EQUAL w_LESS w_LESS_OR_EQUAL w_GREATER w_GREATER_OR_EQUAL) : ¬ w_GREATER_OR_EQUAL = w_NOT_EQUAL := by
  obtain ⟨S_EQUAL, E_EQUAL, S_NOT_EQUAL, E_NOT_EQUAL, S_LESS, E_LESS, S_LESS_OR_EQUAL, E_LESS_OR_EQUAL, S_GREATER, E_GREATER, S_GREATER_OR_EQUAL, E_GREATER_OR_EQUAL, F_EQUAL_ordinal, F_LESS_OR_EQUAL_ordinal, F_NOT_EQUAL_ordinal, F_LESS_ordinal, F_GREATER_OR_EQUAL_ordinal, F_GREATER_ordinal⟩ := F
  exact F_GREATER_OR_EQUAL_ordinal.ne F_NOT_EQUAL_ordinal (by decide)

theorem pn_rm1_20 : plainName "com/example/upmob/upmob/Operator" = true := by first | (simp [plainName, overriddenIn]; done) | decide +kernel
set_option maxRecDepth 65536 in
set_option maxHeartbeats 40000000 in
theorem rm1_20 (l : Launch) (Z : State) (a0 : Array Value) (hw : ∀ d ∈ tables_1, d.before a0 Z = true)  (w_EQUAL w_NOT_EQUAL w_LESS w_LESS_OR_EQUAL w_GREATER w_GREATER_OR_EQUAL : Addr) (h0 : Heap) (F0 : OwnF Z h0 w_EQUAL w_NOT_EQUAL w_LESS w_LESS_OR_EQUAL w_GREATER w_GREATER_OR_EQUAL)  :
    OMeets l Z mn0 prog_23_method_6_code 1 (some .boolean) [] ({ frames := 0, cells := 0, slots := 0, locals := 0 } : Room) #[(.ref w_GREATER_OR_EQUAL)] h0 (PureQ (some (.int (0 : Int32))) h0) := by
  refine OMeets.of pn_rm1_20 #[.val (.ref w_GREATER_OR_EQUAL)] (fun m => by first | rfl | (simp [entryFrame, mkF, argsToLocals, Value.category, maxLocals]; done)) ?_
  intro p e s m below meth c s₁ B X0 e0
  have F := F0
  obtain ⟨S_EQUAL, E_EQUAL, S_NOT_EQUAL, E_NOT_EQUAL, S_LESS, E_LESS, S_LESS_OR_EQUAL, E_LESS_OR_EQUAL, S_GREATER, E_GREATER, S_GREATER_OR_EQUAL, E_GREATER_OR_EQUAL, F_EQUAL_ordinal, F_LESS_OR_EQUAL_ordinal, F_NOT_EQUAL_ordinal, F_LESS_ordinal, F_GREATER_OR_EQUAL_ordinal, F_GREATER_ordinal⟩ := F
  refine s_aloadN B X0 (pc' := 1) d1_0 rfl rfl rfl ?_
  refine s_getS B X0 (pc' := 4) e0 (tw22 hw) Via.refl S_EQUAL d1_1 rfl (fun T1 X1 e1 => ?_)
  refine b_acmp_eq B X1 (py := 14) (pn := 7) d1_4 (by decide) (by decide) rfl (fun q => absurd q (own_ne_w_GREATER_OR_EQUAL_w_EQUAL F0)) (fun _ => ?_)
  refine s_aloadN B X1 (pc' := 8) d1_7 rfl rfl rfl ?_
  refine s_getS B X1 (pc' := 11) e1 (tw37 hw) Via.refl S_NOT_EQUAL d1_8 rfl (fun T2 X2 e2 => ?_)
  refine b_acmp_ne B X2 (py := 18) (pn := 14) d1_11 (by decide) (by decide) rfl (fun _ => ?_) (fun q => absurd q (own_ne_w_GREATER_OR_EQUAL_w_NOT_EQUAL F0))
  refine s_iconst B X2 (pc' := 19) (v := (0 : Int32)) d1_18 rfl rfl ?_
  exact r_nar B X2 (t := .boolean) (by simp) rfl d1_19 ⟨rfl, rfl, e2⟩ (by decide) (by decide)

theorem pn_rm3_22 : plainName "java/lang/Enum" = true := by first | (simp [plainName, overriddenIn]; done) | decide +kernel
set_option maxRecDepth 65536 in
set_option maxHeartbeats 40000000 in
theorem rm3_22 (l : Launch) (Z : State) (a0 : Array Value) (hw : ∀ d ∈ tables_1, d.before a0 Z = true)  (w_EQUAL w_NOT_EQUAL w_LESS w_LESS_OR_EQUAL w_GREATER w_GREATER_OR_EQUAL : Addr) (h0 : Heap) (F0 : OwnF Z h0 w_EQUAL w_NOT_EQUAL w_LESS w_LESS_OR_EQUAL w_GREATER w_GREATER_OR_EQUAL)  :
    OMeets l Z mn1 jdk_37_method_2_code 1 (some .int) [] ({ frames := 0, cells := 0, slots := 0, locals := 0 } : Room) #[(.ref w_GREATER_OR_EQUAL)] h0 (PureQ (some (.int (5 : Int32))) h0) := by
  refine OMeets.of pn_rm3_22 #[.val (.ref w_GREATER_OR_EQUAL)] (fun m => by first | rfl | (simp [entryFrame, mkF, argsToLocals, Value.category, maxLocals]; done)) ?_
  intro p e s m below meth c s₁ B X0 e0
  have F := F0
  obtain ⟨S_EQUAL, E_EQUAL, S_NOT_EQUAL, E_NOT_EQUAL, S_LESS, E_LESS, S_LESS_OR_EQUAL, E_LESS_OR_EQUAL, S_GREATER, E_GREATER, S_GREATER_OR_EQUAL, E_GREATER_OR_EQUAL, F_EQUAL_ordinal, F_LESS_OR_EQUAL_ordinal, F_NOT_EQUAL_ordinal, F_LESS_ordinal, F_GREATER_OR_EQUAL_ordinal, F_GREATER_ordinal⟩ := F
  refine s_aloadN B X0 (pc' := 1) d3_0 rfl rfl rfl ?_
  refine s_getF B X0 (pc' := 4) e0 (host := "") (Or.inl (tw35 hw)) Via.refl F_GREATER_OR_EQUAL_ordinal d3_1 rfl (fun T1 X1 e1 => ?_)
  exact r_int B X1 rfl d3_4 ⟨rfl, rfl, e1⟩ (by decide) (by decide)
theorem d2_114 : decode prog_23_method_5_code 114 = .ok (.iload_n 1, 1) := by decide +kernel
theorem d2_115 : decode prog_23_method_5_code 115 = .ok (.ifCond .lt 7, 3) := by decide +kernel
theorem d2_118 : decode prog_23_method_5_code 118 = .ok (.iconst 1, 1) := by decide +kernel
theorem d2_119 : decode prog_23_method_5_code 119 = .ok (.goto 4, 3) := by decide +kernel
theorem pn_rm2_21 : plainName "com/example/upmob/upmob/Operator" = true := by first | (simp [plainName, overriddenIn]; done) | decide +kernel
set_option maxRecDepth 65536 in
set_option maxHeartbeats 40000000 in
theorem rm2_21 (l : Launch) (Z : State) (a0 : Array Value) (hw : ∀ d ∈ tables_1, d.before a0 Z = true)  (w_EQUAL w_NOT_EQUAL w_LESS w_LESS_OR_EQUAL w_GREATER w_GREATER_OR_EQUAL : Addr) (h0 : Heap) (F0 : OwnF Z h0 w_EQUAL w_NOT_EQUAL w_LESS w_LESS_OR_EQUAL w_GREATER w_GREATER_OR_EQUAL)  :
    OMeets l Z mn3 prog_23_method_5_code 3 (some .boolean) [] ({ frames := 1, cells := 0, slots := 0, locals := 12 } : Room) #[(.ref w_GREATER_OR_EQUAL), (.int (1 : Int32))] h0 (PureQ (some (.int (1 : Int32))) h0) := by
  refine OMeets.of pn_rm2_21 #[.val (.ref w_GREATER_OR_EQUAL), .val (.int (1 : Int32)), .unset] (fun m => by first | rfl | (simp [entryFrame, mkF, argsToLocals, Value.category, maxLocals]; done)) ?_
  intro p e s m below meth c s₁ B X0 e0
  have F := F0
  obtain ⟨S_EQUAL, E_EQUAL, S_NOT_EQUAL, E_NOT_EQUAL, S_LESS, E_LESS, S_LESS_OR_EQUAL, E_LESS_OR_EQUAL, S_GREATER, E_GREATER, S_GREATER_OR_EQUAL, E_GREATER_OR_EQUAL, F_EQUAL_ordinal, F_LESS_OR_EQUAL_ordinal, F_NOT_EQUAL_ordinal, F_LESS_ordinal, F_GREATER_OR_EQUAL_ordinal, F_GREATER_ordinal⟩ := F
  refine s_aloadN B X0 (pc' := 1) d2_0 rfl rfl rfl ?_
  refine p_virtualUp B X0 (y := mn2) (z := mn1) (owner := "java/lang/Enum") (pc' := 4) (argsL := []) (under := []) (W := 0) e0 (tw28 hw) (tw29 hw) (tw30 hw) (tw32 hw) (tw31 hw) (tw34 hw) (tw33 hw) (by decide) (rm3_22 l Z a0 hw  w_EQUAL w_NOT_EQUAL w_LESS w_LESS_OR_EQUAL w_GREATER w_GREATER_OR_EQUAL h0 F0 ) E_GREATER_OR_EQUAL (lenOf pd_1 rfl) rfl rfl (by decide) (by decide) rfl rfl (by decide) (by decide) rfl d2_1 rfl (fun T1 X1 e1 => ?_)
  show Go p e below _ (T1.setTop (mkF m 4 #[.val (.ref w_GREATER_OR_EQUAL), .val (.int (1 : Int32)), .unset] [(.int (5 : Int32))]))
  refine s_tswIn B X1 (pc' := 114) (o := 110) d2_4 (by decide) rfl (by decide) (by decide) ?_
  refine s_iloadN B X1 (pc' := 115) d2_114 rfl rfl ?_
  refine s_ifN B X1 (pc' := 118) d2_115 (by decide) rfl ?_
  refine s_iconst B X1 (pc' := 119) (v := (1 : Int32)) d2_118 rfl rfl ?_
  refine s_goto B X1 (pc' := 123) d2_119 (by decide) (by decide) ?_
  refine s_istoreN B X1 (pc' := 124) (Ls' := #[.val (.ref w_GREATER_OR_EQUAL), .val (.int (1 : Int32)), .val (.int (1 : Int32))]) d2_123 rfl rfl ?_
  refine s_iloadN B X1 (pc' := 125) d2_124 rfl rfl ?_
  exact r_nar B X1 (t := .boolean) (by simp) rfl d2_125 ⟨rfl, rfl, e1⟩ (by decide) (by decide)
theorem d2_122 : decode prog_23_method_5_code 122 = .ok (.iconst 0, 1) := by decide +kernel
theorem pn_rm2_23 : plainName "com/example/upmob/upmob/Operator" = true := by first | (simp [plainName, overriddenIn]; done) | decide +kernel
set_option maxRecDepth 65536 in
set_option maxHeartbeats 40000000 in
theorem rm2_23 (l : Launch) (Z : State) (a0 : Array Value) (hw : ∀ d ∈ tables_1, d.before a0 Z = true)  (w_EQUAL w_NOT_EQUAL w_LESS w_LESS_OR_EQUAL w_GREATER w_GREATER_OR_EQUAL : Addr) (h0 : Heap) (F0 : OwnF Z h0 w_EQUAL w_NOT_EQUAL w_LESS w_LESS_OR_EQUAL w_GREATER w_GREATER_OR_EQUAL)  :
    OMeets l Z mn3 prog_23_method_5_code 3 (some .boolean) [] ({ frames := 1, cells := 0, slots := 0, locals := 12 } : Room) #[(.ref w_GREATER_OR_EQUAL), (.int (-1 : Int32))] h0 (PureQ (some (.int (0 : Int32))) h0) := by
  refine OMeets.of pn_rm2_23 #[.val (.ref w_GREATER_OR_EQUAL), .val (.int (-1 : Int32)), .unset] (fun m => by first | rfl | (simp [entryFrame, mkF, argsToLocals, Value.category, maxLocals]; done)) ?_
  intro p e s m below meth c s₁ B X0 e0
  have F := F0
  obtain ⟨S_EQUAL, E_EQUAL, S_NOT_EQUAL, E_NOT_EQUAL, S_LESS, E_LESS, S_LESS_OR_EQUAL, E_LESS_OR_EQUAL, S_GREATER, E_GREATER, S_GREATER_OR_EQUAL, E_GREATER_OR_EQUAL, F_EQUAL_ordinal, F_LESS_OR_EQUAL_ordinal, F_NOT_EQUAL_ordinal, F_LESS_ordinal, F_GREATER_OR_EQUAL_ordinal, F_GREATER_ordinal⟩ := F
  refine s_aloadN B X0 (pc' := 1) d2_0 rfl rfl rfl ?_
  refine p_virtualUp B X0 (y := mn2) (z := mn1) (owner := "java/lang/Enum") (pc' := 4) (argsL := []) (under := []) (W := 0) e0 (tw28 hw) (tw29 hw) (tw30 hw) (tw32 hw) (tw31 hw) (tw34 hw) (tw33 hw) (by decide) (rm3_22 l Z a0 hw  w_EQUAL w_NOT_EQUAL w_LESS w_LESS_OR_EQUAL w_GREATER w_GREATER_OR_EQUAL h0 F0 ) E_GREATER_OR_EQUAL (lenOf pd_1 rfl) rfl rfl (by decide) (by decide) rfl rfl (by decide) (by decide) rfl d2_1 rfl (fun T1 X1 e1 => ?_)
  show Go p e below _ (T1.setTop (mkF m 4 #[.val (.ref w_GREATER_OR_EQUAL), .val (.int (-1 : Int32)), .unset] [(.int (5 : Int32))]))
  refine s_tswIn B X1 (pc' := 114) (o := 110) d2_4 (by decide) rfl (by decide) (by decide) ?_
  refine s_iloadN B X1 (pc' := 115) d2_114 rfl rfl ?_
  refine s_ifY B X1 (pc' := 122) d2_115 (by decide) (by decide) (by decide) ?_
  refine s_iconst B X1 (pc' := 123) (v := (0 : Int32)) d2_122 rfl rfl ?_
  refine s_istoreN B X1 (pc' := 124) (Ls' := #[.val (.ref w_GREATER_OR_EQUAL), .val (.int (-1 : Int32)), .val (.int (0 : Int32))]) d2_123 rfl rfl ?_
  refine s_iloadN B X1 (pc' := 125) d2_124 rfl rfl ?_
  exact r_nar B X1 (t := .boolean) (by simp) rfl d2_125 ⟨rfl, rfl, e1⟩ (by decide) (by decide)

theorem pn_rm_law : plainName "com/example/upmob/upmob/OperatorIsEqualityPinLaw" = true := by first | (simp [plainName, overriddenIn]; done) | decide +kernel
set_option maxRecDepth 65536 in
set_option maxHeartbeats 40000000 in
theorem rm_law (l : Launch) (Z : State) (a0 : Array Value) (hw : ∀ d ∈ tables_1, d.before a0 Z = true) (i0 : Int32) (w_EQUAL w_NOT_EQUAL w_LESS w_LESS_OR_EQUAL w_GREATER w_GREATER_OR_EQUAL : Addr) (F0 : OwnF Z Z.heap w_EQUAL w_NOT_EQUAL w_LESS w_LESS_OR_EQUAL w_GREATER w_GREATER_OR_EQUAL) :
    OMeets l Z x code maxLocals ret tables_1 room_1 #[(.int i0)] Z.heap (fun v h L => v = some (.int 1) ∧ Fr Z.heap.size L) := by
  refine OMeets.of pn_rm_law #[.val (.int i0), .unset, .unset, .unset, .unset, .unset, .unset] (fun m => by first | rfl | (simp [entryFrame, mkF, argsToLocals, Value.category, maxLocals]; done)) ?_
  intro p e s m below meth c s₁ B X0 e0
  have F := F0
  obtain ⟨S_EQUAL, E_EQUAL, S_NOT_EQUAL, E_NOT_EQUAL, S_LESS, E_LESS, S_LESS_OR_EQUAL, E_LESS_OR_EQUAL, S_GREATER, E_GREATER, S_GREATER_OR_EQUAL, E_GREATER_OR_EQUAL, F_EQUAL_ordinal, F_LESS_OR_EQUAL_ordinal, F_NOT_EQUAL_ordinal, F_LESS_ordinal, F_GREATER_OR_EQUAL_ordinal, F_GREATER_ordinal⟩ := F
  rcases own_rem6 i0 with hv1 | hv1 | hv1 | hv1 | hv1 | hv1
  · refine s_bipush B X0 (pc' := 2) (v := (6 : Int32)) at_0 rfl rfl ?_
    refine s_newR B X0 (pc' := 5) (N := 6) (cap := 6) e0 (tw0 hw) (tw1 hw) (by decide) (by decide) (by decide) (by decide) (by decide) (by decide) at_2 rfl (fun T2 h2 o2 k2 g2 X2 e2 E2 A2 V2 => ?_)
    have ge_o2 : Z.heap.size ≤ o2 := g2 ▸ old_le (Old.start Z)
    replace A2 : Ary Z h2 o2 k2 (.object "com/example/upmob/upmob/Operator") 6 (lst [.null, .null, .null, .null, .null, .null] .null) := A2.congr (own_rep 6)
    have O2 := ((Old.start Z)).ext E2
    have F2 := OwnF.ext O2.2 F0
    show Go p e below _ (T2.setTop (mkF m 5 #[.val (.int i0), .unset, .unset, .unset, .unset, .unset, .unset] [(.ref o2)]))
    refine s_dup B X2 (pc' := 6) at_5 rfl rfl ?_
    refine s_iconst B X2 (pc' := 7) (v := (0 : Int32)) at_6 rfl rfl ?_
    obtain ⟨S_EQUAL, E_EQUAL, S_NOT_EQUAL, E_NOT_EQUAL, S_LESS, E_LESS, S_LESS_OR_EQUAL, E_LESS_OR_EQUAL, S_GREATER, E_GREATER, S_GREATER_OR_EQUAL, E_GREATER_OR_EQUAL, F_EQUAL_ordinal, F_LESS_OR_EQUAL_ordinal, F_NOT_EQUAL_ordinal, F_LESS_ordinal, F_GREATER_OR_EQUAL_ordinal, F_GREATER_ordinal⟩ := id F2
    refine s_getS B X2 (pc' := 10) e2 (tw2 hw) Via.refl S_EQUAL at_7 rfl (fun T3 X3 e3 => ?_)
    refine s_stR B X3 (pc' := 11) (jn := 0) e3 A2 rfl (Ary.sto A2 V2 (Ins.self E_EQUAL)) (by decide) (by decide) (by decide) at_10 rfl (fun T4 h4 X4 e4 W4 A4 => ?_)
    replace A4 := A4.full (show 0 < 6 by decide) (L' := [(.ref w_EQUAL), .null, .null, .null, .null, .null]) rfl
    have N4 := Fr.snoc X4 (Fr.nil _) ge_o2
    have O4 := (O2).wr W4 ge_o2
    have F4 := OwnF.ext O4.2 F0
    show Go p e below _ (T4.setTop (mkF m 11 #[.val (.int i0), .unset, .unset, .unset, .unset, .unset, .unset] [(.ref o2)]))
    refine s_dup B X4 (pc' := 12) at_11 rfl rfl ?_
    refine s_iconst B X4 (pc' := 13) (v := (1 : Int32)) at_12 rfl rfl ?_
    obtain ⟨S_EQUAL, E_EQUAL, S_NOT_EQUAL, E_NOT_EQUAL, S_LESS, E_LESS, S_LESS_OR_EQUAL, E_LESS_OR_EQUAL, S_GREATER, E_GREATER, S_GREATER_OR_EQUAL, E_GREATER_OR_EQUAL, F_EQUAL_ordinal, F_LESS_OR_EQUAL_ordinal, F_NOT_EQUAL_ordinal, F_LESS_ordinal, F_GREATER_OR_EQUAL_ordinal, F_GREATER_ordinal⟩ := id F4
    refine s_getS B X4 (pc' := 16) e4 (tw6 hw) Via.refl S_NOT_EQUAL at_13 rfl (fun T5 X5 e5 => ?_)
    refine s_stR B X5 (pc' := 17) (jn := 1) e5 A4 rfl (Ary.sto A4 V2 (Ins.self E_NOT_EQUAL)) (by decide) (by decide) (by decide) at_16 rfl (fun T6 h6 X6 e6 W6 A6 => ?_)
    replace A6 := A6.full (show 1 < 6 by decide) (L' := [(.ref w_EQUAL), (.ref w_NOT_EQUAL), .null, .null, .null, .null]) rfl
    have N6 := Fr.snoc X6 N4 ge_o2
    have O6 := (O4).wr W6 ge_o2
    have F6 := OwnF.ext O6.2 F0
    show Go p e below _ (T6.setTop (mkF m 17 #[.val (.int i0), .unset, .unset, .unset, .unset, .unset, .unset] [(.ref o2)]))
    refine s_dup B X6 (pc' := 18) at_17 rfl rfl ?_
    refine s_iconst B X6 (pc' := 19) (v := (2 : Int32)) at_18 rfl rfl ?_
    obtain ⟨S_EQUAL, E_EQUAL, S_NOT_EQUAL, E_NOT_EQUAL, S_LESS, E_LESS, S_LESS_OR_EQUAL, E_LESS_OR_EQUAL, S_GREATER, E_GREATER, S_GREATER_OR_EQUAL, E_GREATER_OR_EQUAL, F_EQUAL_ordinal, F_LESS_OR_EQUAL_ordinal, F_NOT_EQUAL_ordinal, F_LESS_ordinal, F_GREATER_OR_EQUAL_ordinal, F_GREATER_ordinal⟩ := id F6
    refine s_getS B X6 (pc' := 22) e6 (tw8 hw) Via.refl S_LESS at_19 rfl (fun T7 X7 e7 => ?_)
    refine s_stR B X7 (pc' := 23) (jn := 2) e7 A6 rfl (Ary.sto A6 V2 (Ins.self E_LESS)) (by decide) (by decide) (by decide) at_22 rfl (fun T8 h8 X8 e8 W8 A8 => ?_)
    replace A8 := A8.full (show 2 < 6 by decide) (L' := [(.ref w_EQUAL), (.ref w_NOT_EQUAL), (.ref w_LESS), .null, .null, .null]) rfl
    have N8 := Fr.snoc X8 N6 ge_o2
    have O8 := (O6).wr W8 ge_o2
    have F8 := OwnF.ext O8.2 F0
    show Go p e below _ (T8.setTop (mkF m 23 #[.val (.int i0), .unset, .unset, .unset, .unset, .unset, .unset] [(.ref o2)]))
    refine s_dup B X8 (pc' := 24) at_23 rfl rfl ?_
    refine s_iconst B X8 (pc' := 25) (v := (3 : Int32)) at_24 rfl rfl ?_
    obtain ⟨S_EQUAL, E_EQUAL, S_NOT_EQUAL, E_NOT_EQUAL, S_LESS, E_LESS, S_LESS_OR_EQUAL, E_LESS_OR_EQUAL, S_GREATER, E_GREATER, S_GREATER_OR_EQUAL, E_GREATER_OR_EQUAL, F_EQUAL_ordinal, F_LESS_OR_EQUAL_ordinal, F_NOT_EQUAL_ordinal, F_LESS_ordinal, F_GREATER_OR_EQUAL_ordinal, F_GREATER_ordinal⟩ := id F8
    refine s_getS B X8 (pc' := 28) e8 (tw10 hw) Via.refl S_LESS_OR_EQUAL at_25 rfl (fun T9 X9 e9 => ?_)
    refine s_stR B X9 (pc' := 29) (jn := 3) e9 A8 rfl (Ary.sto A8 V2 (Ins.self E_LESS_OR_EQUAL)) (by decide) (by decide) (by decide) at_28 rfl (fun T10 h10 X10 e10 W10 A10 => ?_)
    replace A10 := A10.full (show 3 < 6 by decide) (L' := [(.ref w_EQUAL), (.ref w_NOT_EQUAL), (.ref w_LESS), (.ref w_LESS_OR_EQUAL), .null, .null]) rfl
    have N10 := Fr.snoc X10 N8 ge_o2
    have O10 := (O8).wr W10 ge_o2
    have F10 := OwnF.ext O10.2 F0
    show Go p e below _ (T10.setTop (mkF m 29 #[.val (.int i0), .unset, .unset, .unset, .unset, .unset, .unset] [(.ref o2)]))
    refine s_dup B X10 (pc' := 30) at_29 rfl rfl ?_
    refine s_iconst B X10 (pc' := 31) (v := (4 : Int32)) at_30 rfl rfl ?_
    obtain ⟨S_EQUAL, E_EQUAL, S_NOT_EQUAL, E_NOT_EQUAL, S_LESS, E_LESS, S_LESS_OR_EQUAL, E_LESS_OR_EQUAL, S_GREATER, E_GREATER, S_GREATER_OR_EQUAL, E_GREATER_OR_EQUAL, F_EQUAL_ordinal, F_LESS_OR_EQUAL_ordinal, F_NOT_EQUAL_ordinal, F_LESS_ordinal, F_GREATER_OR_EQUAL_ordinal, F_GREATER_ordinal⟩ := id F10
    refine s_getS B X10 (pc' := 34) e10 (tw12 hw) Via.refl S_GREATER at_31 rfl (fun T11 X11 e11 => ?_)
    refine s_stR B X11 (pc' := 35) (jn := 4) e11 A10 rfl (Ary.sto A10 V2 (Ins.self E_GREATER)) (by decide) (by decide) (by decide) at_34 rfl (fun T12 h12 X12 e12 W12 A12 => ?_)
    replace A12 := A12.full (show 4 < 6 by decide) (L' := [(.ref w_EQUAL), (.ref w_NOT_EQUAL), (.ref w_LESS), (.ref w_LESS_OR_EQUAL), (.ref w_GREATER), .null]) rfl
    have N12 := Fr.snoc X12 N10 ge_o2
    have O12 := (O10).wr W12 ge_o2
    have F12 := OwnF.ext O12.2 F0
    show Go p e below _ (T12.setTop (mkF m 35 #[.val (.int i0), .unset, .unset, .unset, .unset, .unset, .unset] [(.ref o2)]))
    refine s_dup B X12 (pc' := 36) at_35 rfl rfl ?_
    refine s_iconst B X12 (pc' := 37) (v := (5 : Int32)) at_36 rfl rfl ?_
    obtain ⟨S_EQUAL, E_EQUAL, S_NOT_EQUAL, E_NOT_EQUAL, S_LESS, E_LESS, S_LESS_OR_EQUAL, E_LESS_OR_EQUAL, S_GREATER, E_GREATER, S_GREATER_OR_EQUAL, E_GREATER_OR_EQUAL, F_EQUAL_ordinal, F_LESS_OR_EQUAL_ordinal, F_NOT_EQUAL_ordinal, F_LESS_ordinal, F_GREATER_OR_EQUAL_ordinal, F_GREATER_ordinal⟩ := id F12
    refine s_getS B X12 (pc' := 40) e12 (tw14 hw) Via.refl S_GREATER_OR_EQUAL at_37 rfl (fun T13 X13 e13 => ?_)
    refine s_stR B X13 (pc' := 41) (jn := 5) e13 A12 rfl (Ary.sto A12 V2 (Ins.self E_GREATER_OR_EQUAL)) (by decide) (by decide) (by decide) at_40 rfl (fun T14 h14 X14 e14 W14 A14 => ?_)
    replace A14 := A14.full (show 5 < 6 by decide) (L' := [(.ref w_EQUAL), (.ref w_NOT_EQUAL), (.ref w_LESS), (.ref w_LESS_OR_EQUAL), (.ref w_GREATER), (.ref w_GREATER_OR_EQUAL)]) rfl
    have N14 := Fr.snoc X14 N12 ge_o2
    have O14 := (O12).wr W14 ge_o2
    have F14 := OwnF.ext O14.2 F0
    show Go p e below _ (T14.setTop (mkF m 41 #[.val (.int i0), .unset, .unset, .unset, .unset, .unset, .unset] [(.ref o2)]))
    refine s_astoreN B X14 (pc' := 42) (Ls' := #[.val (.int i0), .val (.ref o2), .unset, .unset, .unset, .unset, .unset]) at_41 rfl rfl rfl ?_
    refine s_iloadN B X14 (pc' := 43) at_42 rfl rfl ?_
    refine s_ldc B X14 (pc' := 45) (v := (2147483647 : Int32)) (tw16 hw) at_43 rfl ?_
    refine s_iand B X14 (pc' := 46) (v := (i0 &&& (2147483647 : Int32))) at_45 rfl rfl ?_
    refine s_bipush B X14 (pc' := 48) (v := (6 : Int32)) at_46 rfl rfl ?_
    refine s_irem B X14 (pc' := 49) (v := (0 : Int32)) at_48 (hv1) (by decide) rfl ?_
    refine s_istoreN B X14 (pc' := 50) (Ls' := #[.val (.int i0), .val (.ref o2), .val (.int (0 : Int32)), .unset, .unset, .unset, .unset]) at_49 rfl rfl ?_
    refine s_aloadN B X14 (pc' := 51) at_50 rfl rfl rfl ?_
    refine s_iloadN B X14 (pc' := 52) at_51 rfl rfl ?_
    refine s_ldR B X14 (pc' := 53) (jn := 0) (v := (.ref w_EQUAL)) e14 A14 rfl (by decide) (by decide) (by decide) rfl at_52 rfl ?_
    refine s_astoreN B X14 (pc' := 54) (Ls' := #[.val (.int i0), .val (.ref o2), .val (.int (0 : Int32)), .val (.ref w_EQUAL), .unset, .unset, .unset]) at_53 rfl rfl rfl ?_
    refine s_aloadN B X14 (pc' := 55) at_54 rfl rfl rfl ?_
    obtain ⟨S_EQUAL, E_EQUAL, S_NOT_EQUAL, E_NOT_EQUAL, S_LESS, E_LESS, S_LESS_OR_EQUAL, E_LESS_OR_EQUAL, S_GREATER, E_GREATER, S_GREATER_OR_EQUAL, E_GREATER_OR_EQUAL, F_EQUAL_ordinal, F_LESS_OR_EQUAL_ordinal, F_NOT_EQUAL_ordinal, F_LESS_ordinal, F_GREATER_OR_EQUAL_ordinal, F_GREATER_ordinal⟩ := id F14
    refine p_virtual B X14 (y := mn0) (pc' := 58) (argsL := []) (under := []) (W := 0) e14 (tw17 hw) (tw18 hw) (tw20 hw) (tw19 hw) (tw21 hw) (tw3 hw) (by decide) (rm1_0 l Z a0 hw  w_EQUAL w_NOT_EQUAL w_LESS w_LESS_OR_EQUAL w_GREATER w_GREATER_OR_EQUAL h14 F14 ) E_EQUAL (lenOf pd_0 rfl) rfl rfl (by decide) (by decide) rfl rfl (by decide) (by decide) rfl at_55 rfl (fun T15 X15 e15 => ?_)
    show Go p e below _ (T15.setTop (mkF m 58 #[.val (.int i0), .val (.ref o2), .val (.int (0 : Int32)), .val (.ref w_EQUAL), .unset, .unset, .unset] [(.int (1 : Int32))]))
    refine s_istore B X15 (pc' := 60) (Ls' := #[.val (.int i0), .val (.ref o2), .val (.int (0 : Int32)), .val (.ref w_EQUAL), .val (.int (1 : Int32)), .unset, .unset]) at_58 rfl rfl ?_
    refine s_iloadN B X15 (pc' := 61) at_60 rfl rfl ?_
    refine s_iconst B X15 (pc' := 62) (v := (2 : Int32)) at_61 rfl rfl ?_
    refine s_icmpN B X15 (pc' := 65) at_62 (by decide) rfl ?_
    refine s_iconst B X15 (pc' := 66) (v := (1 : Int32)) at_65 rfl rfl ?_
    refine s_goto B X15 (pc' := 70) at_66 (by decide) (by decide) ?_
    refine s_istore B X15 (pc' := 72) (Ls' := #[.val (.int i0), .val (.ref o2), .val (.int (0 : Int32)), .val (.ref w_EQUAL), .val (.int (1 : Int32)), .val (.int (1 : Int32)), .unset]) at_70 rfl rfl ?_
    refine s_aloadN B X15 (pc' := 73) at_72 rfl rfl rfl ?_
    refine s_iconst B X15 (pc' := 74) (v := (1 : Int32)) at_73 rfl rfl ?_
    refine p_virtual B X15 (y := mn3) (pc' := 77) (argsL := [(.int (1 : Int32))]) (under := []) (W := 0) e15 (tw23 hw) (tw24 hw) (tw26 hw) (tw25 hw) (tw27 hw) (tw3 hw) (by decide) (rm2_1 l Z a0 hw  w_EQUAL w_NOT_EQUAL w_LESS w_LESS_OR_EQUAL w_GREATER w_GREATER_OR_EQUAL h14 F14 ) E_EQUAL (lenOf pd_2 rfl) rfl rfl (by decide) (by decide) rfl rfl (by decide) (by decide) rfl at_74 rfl (fun T16 X16 e16 => ?_)
    show Go p e below _ (T16.setTop (mkF m 77 #[.val (.int i0), .val (.ref o2), .val (.int (0 : Int32)), .val (.ref w_EQUAL), .val (.int (1 : Int32)), .val (.int (1 : Int32)), .unset] [(.int (0 : Int32))]))
    refine s_aloadN B X16 (pc' := 78) at_77 rfl rfl rfl ?_
    refine s_iconst B X16 (pc' := 79) (v := (-1 : Int32)) at_78 rfl rfl ?_
    refine p_virtual B X16 (y := mn3) (pc' := 82) (argsL := [(.int (-1 : Int32))]) (under := [(.int (0 : Int32))]) (W := 1) e16 (tw23 hw) (tw24 hw) (tw26 hw) (tw25 hw) (tw27 hw) (tw3 hw) (by decide) (rm2_3 l Z a0 hw  w_EQUAL w_NOT_EQUAL w_LESS w_LESS_OR_EQUAL w_GREATER w_GREATER_OR_EQUAL h14 F14 ) E_EQUAL (lenOf pd_2 rfl) rfl rfl (by decide) (by decide) rfl rfl (by decide) (by decide) rfl at_79 rfl (fun T17 X17 e17 => ?_)
    show Go p e below _ (T17.setTop (mkF m 82 #[.val (.int i0), .val (.ref o2), .val (.int (0 : Int32)), .val (.ref w_EQUAL), .val (.int (1 : Int32)), .val (.int (1 : Int32)), .unset] [(.int (0 : Int32)), (.int (0 : Int32))]))
    refine s_icmpN B X17 (pc' := 85) at_82 (by decide) rfl ?_
    refine s_iconst B X17 (pc' := 86) (v := (1 : Int32)) at_85 rfl rfl ?_
    refine s_goto B X17 (pc' := 90) at_86 (by decide) (by decide) ?_
    refine s_istore B X17 (pc' := 92) (Ls' := #[.val (.int i0), .val (.ref o2), .val (.int (0 : Int32)), .val (.ref w_EQUAL), .val (.int (1 : Int32)), .val (.int (1 : Int32)), .val (.int (1 : Int32))]) at_90 rfl rfl ?_
    refine s_iload B X17 (pc' := 94) at_92 rfl rfl ?_
    refine s_iload B X17 (pc' := 96) at_94 rfl rfl ?_
    refine s_icmpN B X17 (pc' := 99) at_96 (by decide) rfl ?_
    refine s_iload B X17 (pc' := 101) at_99 rfl rfl ?_
    refine s_iload B X17 (pc' := 103) at_101 rfl rfl ?_
    refine s_icmpN B X17 (pc' := 106) at_103 (by decide) rfl ?_
    refine s_iconst B X17 (pc' := 107) (v := (1 : Int32)) at_106 rfl rfl ?_
    refine s_goto B X17 (pc' := 111) at_107 (by decide) (by decide) ?_
    exact r_nar B X17 (t := .boolean) (by simp) rfl at_111 ⟨rfl, N14⟩ (by decide) (by decide)
  · refine s_bipush B X0 (pc' := 2) (v := (6 : Int32)) at_0 rfl rfl ?_
    refine s_newR B X0 (pc' := 5) (N := 6) (cap := 6) e0 (tw0 hw) (tw1 hw) (by decide) (by decide) (by decide) (by decide) (by decide) (by decide) at_2 rfl (fun T18 h18 o18 k18 g18 X18 e18 E18 A18 V18 => ?_)
    have ge_o18 : Z.heap.size ≤ o18 := g18 ▸ old_le (Old.start Z)
    replace A18 : Ary Z h18 o18 k18 (.object "com/example/upmob/upmob/Operator") 6 (lst [.null, .null, .null, .null, .null, .null] .null) := A18.congr (own_rep 6)
    have O18 := ((Old.start Z)).ext E18
    have F18 := OwnF.ext O18.2 F0
    show Go p e below _ (T18.setTop (mkF m 5 #[.val (.int i0), .unset, .unset, .unset, .unset, .unset, .unset] [(.ref o18)]))
    refine s_dup B X18 (pc' := 6) at_5 rfl rfl ?_
    refine s_iconst B X18 (pc' := 7) (v := (0 : Int32)) at_6 rfl rfl ?_
    obtain ⟨S_EQUAL, E_EQUAL, S_NOT_EQUAL, E_NOT_EQUAL, S_LESS, E_LESS, S_LESS_OR_EQUAL, E_LESS_OR_EQUAL, S_GREATER, E_GREATER, S_GREATER_OR_EQUAL, E_GREATER_OR_EQUAL, F_EQUAL_ordinal, F_LESS_OR_EQUAL_ordinal, F_NOT_EQUAL_ordinal, F_LESS_ordinal, F_GREATER_OR_EQUAL_ordinal, F_GREATER_ordinal⟩ := id F18
    refine s_getS B X18 (pc' := 10) e18 (tw2 hw) Via.refl S_EQUAL at_7 rfl (fun T19 X19 e19 => ?_)
    refine s_stR B X19 (pc' := 11) (jn := 0) e19 A18 rfl (Ary.sto A18 V18 (Ins.self E_EQUAL)) (by decide) (by decide) (by decide) at_10 rfl (fun T20 h20 X20 e20 W20 A20 => ?_)
    replace A20 := A20.full (show 0 < 6 by decide) (L' := [(.ref w_EQUAL), .null, .null, .null, .null, .null]) rfl
    have N20 := Fr.snoc X20 (Fr.nil _) ge_o18
    have O20 := (O18).wr W20 ge_o18
    have F20 := OwnF.ext O20.2 F0
    show Go p e below _ (T20.setTop (mkF m 11 #[.val (.int i0), .unset, .unset, .unset, .unset, .unset, .unset] [(.ref o18)]))
    refine s_dup B X20 (pc' := 12) at_11 rfl rfl ?_
    refine s_iconst B X20 (pc' := 13) (v := (1 : Int32)) at_12 rfl rfl ?_
    obtain ⟨S_EQUAL, E_EQUAL, S_NOT_EQUAL, E_NOT_EQUAL, S_LESS, E_LESS, S_LESS_OR_EQUAL, E_LESS_OR_EQUAL, S_GREATER, E_GREATER, S_GREATER_OR_EQUAL, E_GREATER_OR_EQUAL, F_EQUAL_ordinal, F_LESS_OR_EQUAL_ordinal, F_NOT_EQUAL_ordinal, F_LESS_ordinal, F_GREATER_OR_EQUAL_ordinal, F_GREATER_ordinal⟩ := id F20
    refine s_getS B X20 (pc' := 16) e20 (tw6 hw) Via.refl S_NOT_EQUAL at_13 rfl (fun T21 X21 e21 => ?_)
    refine s_stR B X21 (pc' := 17) (jn := 1) e21 A20 rfl (Ary.sto A20 V18 (Ins.self E_NOT_EQUAL)) (by decide) (by decide) (by decide) at_16 rfl (fun T22 h22 X22 e22 W22 A22 => ?_)
    replace A22 := A22.full (show 1 < 6 by decide) (L' := [(.ref w_EQUAL), (.ref w_NOT_EQUAL), .null, .null, .null, .null]) rfl
    have N22 := Fr.snoc X22 N20 ge_o18
    have O22 := (O20).wr W22 ge_o18
    have F22 := OwnF.ext O22.2 F0
    show Go p e below _ (T22.setTop (mkF m 17 #[.val (.int i0), .unset, .unset, .unset, .unset, .unset, .unset] [(.ref o18)]))
    refine s_dup B X22 (pc' := 18) at_17 rfl rfl ?_
    refine s_iconst B X22 (pc' := 19) (v := (2 : Int32)) at_18 rfl rfl ?_
    obtain ⟨S_EQUAL, E_EQUAL, S_NOT_EQUAL, E_NOT_EQUAL, S_LESS, E_LESS, S_LESS_OR_EQUAL, E_LESS_OR_EQUAL, S_GREATER, E_GREATER, S_GREATER_OR_EQUAL, E_GREATER_OR_EQUAL, F_EQUAL_ordinal, F_LESS_OR_EQUAL_ordinal, F_NOT_EQUAL_ordinal, F_LESS_ordinal, F_GREATER_OR_EQUAL_ordinal, F_GREATER_ordinal⟩ := id F22
    refine s_getS B X22 (pc' := 22) e22 (tw8 hw) Via.refl S_LESS at_19 rfl (fun T23 X23 e23 => ?_)
    refine s_stR B X23 (pc' := 23) (jn := 2) e23 A22 rfl (Ary.sto A22 V18 (Ins.self E_LESS)) (by decide) (by decide) (by decide) at_22 rfl (fun T24 h24 X24 e24 W24 A24 => ?_)
    replace A24 := A24.full (show 2 < 6 by decide) (L' := [(.ref w_EQUAL), (.ref w_NOT_EQUAL), (.ref w_LESS), .null, .null, .null]) rfl
    have N24 := Fr.snoc X24 N22 ge_o18
    have O24 := (O22).wr W24 ge_o18
    have F24 := OwnF.ext O24.2 F0
    show Go p e below _ (T24.setTop (mkF m 23 #[.val (.int i0), .unset, .unset, .unset, .unset, .unset, .unset] [(.ref o18)]))
    refine s_dup B X24 (pc' := 24) at_23 rfl rfl ?_
    refine s_iconst B X24 (pc' := 25) (v := (3 : Int32)) at_24 rfl rfl ?_
    obtain ⟨S_EQUAL, E_EQUAL, S_NOT_EQUAL, E_NOT_EQUAL, S_LESS, E_LESS, S_LESS_OR_EQUAL, E_LESS_OR_EQUAL, S_GREATER, E_GREATER, S_GREATER_OR_EQUAL, E_GREATER_OR_EQUAL, F_EQUAL_ordinal, F_LESS_OR_EQUAL_ordinal, F_NOT_EQUAL_ordinal, F_LESS_ordinal, F_GREATER_OR_EQUAL_ordinal, F_GREATER_ordinal⟩ := id F24
    refine s_getS B X24 (pc' := 28) e24 (tw10 hw) Via.refl S_LESS_OR_EQUAL at_25 rfl (fun T25 X25 e25 => ?_)
    refine s_stR B X25 (pc' := 29) (jn := 3) e25 A24 rfl (Ary.sto A24 V18 (Ins.self E_LESS_OR_EQUAL)) (by decide) (by decide) (by decide) at_28 rfl (fun T26 h26 X26 e26 W26 A26 => ?_)
    replace A26 := A26.full (show 3 < 6 by decide) (L' := [(.ref w_EQUAL), (.ref w_NOT_EQUAL), (.ref w_LESS), (.ref w_LESS_OR_EQUAL), .null, .null]) rfl
    have N26 := Fr.snoc X26 N24 ge_o18
    have O26 := (O24).wr W26 ge_o18
    have F26 := OwnF.ext O26.2 F0
    show Go p e below _ (T26.setTop (mkF m 29 #[.val (.int i0), .unset, .unset, .unset, .unset, .unset, .unset] [(.ref o18)]))
    refine s_dup B X26 (pc' := 30) at_29 rfl rfl ?_
    refine s_iconst B X26 (pc' := 31) (v := (4 : Int32)) at_30 rfl rfl ?_
    obtain ⟨S_EQUAL, E_EQUAL, S_NOT_EQUAL, E_NOT_EQUAL, S_LESS, E_LESS, S_LESS_OR_EQUAL, E_LESS_OR_EQUAL, S_GREATER, E_GREATER, S_GREATER_OR_EQUAL, E_GREATER_OR_EQUAL, F_EQUAL_ordinal, F_LESS_OR_EQUAL_ordinal, F_NOT_EQUAL_ordinal, F_LESS_ordinal, F_GREATER_OR_EQUAL_ordinal, F_GREATER_ordinal⟩ := id F26
    refine s_getS B X26 (pc' := 34) e26 (tw12 hw) Via.refl S_GREATER at_31 rfl (fun T27 X27 e27 => ?_)
    refine s_stR B X27 (pc' := 35) (jn := 4) e27 A26 rfl (Ary.sto A26 V18 (Ins.self E_GREATER)) (by decide) (by decide) (by decide) at_34 rfl (fun T28 h28 X28 e28 W28 A28 => ?_)
    replace A28 := A28.full (show 4 < 6 by decide) (L' := [(.ref w_EQUAL), (.ref w_NOT_EQUAL), (.ref w_LESS), (.ref w_LESS_OR_EQUAL), (.ref w_GREATER), .null]) rfl
    have N28 := Fr.snoc X28 N26 ge_o18
    have O28 := (O26).wr W28 ge_o18
    have F28 := OwnF.ext O28.2 F0
    show Go p e below _ (T28.setTop (mkF m 35 #[.val (.int i0), .unset, .unset, .unset, .unset, .unset, .unset] [(.ref o18)]))
    refine s_dup B X28 (pc' := 36) at_35 rfl rfl ?_
    refine s_iconst B X28 (pc' := 37) (v := (5 : Int32)) at_36 rfl rfl ?_
    obtain ⟨S_EQUAL, E_EQUAL, S_NOT_EQUAL, E_NOT_EQUAL, S_LESS, E_LESS, S_LESS_OR_EQUAL, E_LESS_OR_EQUAL, S_GREATER, E_GREATER, S_GREATER_OR_EQUAL, E_GREATER_OR_EQUAL, F_EQUAL_ordinal, F_LESS_OR_EQUAL_ordinal, F_NOT_EQUAL_ordinal, F_LESS_ordinal, F_GREATER_OR_EQUAL_ordinal, F_GREATER_ordinal⟩ := id F28
    refine s_getS B X28 (pc' := 40) e28 (tw14 hw) Via.refl S_GREATER_OR_EQUAL at_37 rfl (fun T29 X29 e29 => ?_)
    refine s_stR B X29 (pc' := 41) (jn := 5) e29 A28 rfl (Ary.sto A28 V18 (Ins.self E_GREATER_OR_EQUAL)) (by decide) (by decide) (by decide) at_40 rfl (fun T30 h30 X30 e30 W30 A30 => ?_)
    replace A30 := A30.full (show 5 < 6 by decide) (L' := [(.ref w_EQUAL), (.ref w_NOT_EQUAL), (.ref w_LESS), (.ref w_LESS_OR_EQUAL), (.ref w_GREATER), (.ref w_GREATER_OR_EQUAL)]) rfl
    have N30 := Fr.snoc X30 N28 ge_o18
    have O30 := (O28).wr W30 ge_o18
    have F30 := OwnF.ext O30.2 F0
    show Go p e below _ (T30.setTop (mkF m 41 #[.val (.int i0), .unset, .unset, .unset, .unset, .unset, .unset] [(.ref o18)]))
    refine s_astoreN B X30 (pc' := 42) (Ls' := #[.val (.int i0), .val (.ref o18), .unset, .unset, .unset, .unset, .unset]) at_41 rfl rfl rfl ?_
    refine s_iloadN B X30 (pc' := 43) at_42 rfl rfl ?_
    refine s_ldc B X30 (pc' := 45) (v := (2147483647 : Int32)) (tw16 hw) at_43 rfl ?_
    refine s_iand B X30 (pc' := 46) (v := (i0 &&& (2147483647 : Int32))) at_45 rfl rfl ?_
    refine s_bipush B X30 (pc' := 48) (v := (6 : Int32)) at_46 rfl rfl ?_
    refine s_irem B X30 (pc' := 49) (v := (1 : Int32)) at_48 (hv1) (by decide) rfl ?_
    refine s_istoreN B X30 (pc' := 50) (Ls' := #[.val (.int i0), .val (.ref o18), .val (.int (1 : Int32)), .unset, .unset, .unset, .unset]) at_49 rfl rfl ?_
    refine s_aloadN B X30 (pc' := 51) at_50 rfl rfl rfl ?_
    refine s_iloadN B X30 (pc' := 52) at_51 rfl rfl ?_
    refine s_ldR B X30 (pc' := 53) (jn := 1) (v := (.ref w_NOT_EQUAL)) e30 A30 rfl (by decide) (by decide) (by decide) rfl at_52 rfl ?_
    refine s_astoreN B X30 (pc' := 54) (Ls' := #[.val (.int i0), .val (.ref o18), .val (.int (1 : Int32)), .val (.ref w_NOT_EQUAL), .unset, .unset, .unset]) at_53 rfl rfl rfl ?_
    refine s_aloadN B X30 (pc' := 55) at_54 rfl rfl rfl ?_
    obtain ⟨S_EQUAL, E_EQUAL, S_NOT_EQUAL, E_NOT_EQUAL, S_LESS, E_LESS, S_LESS_OR_EQUAL, E_LESS_OR_EQUAL, S_GREATER, E_GREATER, S_GREATER_OR_EQUAL, E_GREATER_OR_EQUAL, F_EQUAL_ordinal, F_LESS_OR_EQUAL_ordinal, F_NOT_EQUAL_ordinal, F_LESS_ordinal, F_GREATER_OR_EQUAL_ordinal, F_GREATER_ordinal⟩ := id F30
    refine p_virtual B X30 (y := mn0) (pc' := 58) (argsL := []) (under := []) (W := 0) e30 (tw17 hw) (tw18 hw) (tw20 hw) (tw19 hw) (tw21 hw) (tw3 hw) (by decide) (rm1_4 l Z a0 hw  w_EQUAL w_NOT_EQUAL w_LESS w_LESS_OR_EQUAL w_GREATER w_GREATER_OR_EQUAL h30 F30 ) E_NOT_EQUAL (lenOf pd_0 rfl) rfl rfl (by decide) (by decide) rfl rfl (by decide) (by decide) rfl at_55 rfl (fun T31 X31 e31 => ?_)
    show Go p e below _ (T31.setTop (mkF m 58 #[.val (.int i0), .val (.ref o18), .val (.int (1 : Int32)), .val (.ref w_NOT_EQUAL), .unset, .unset, .unset] [(.int (1 : Int32))]))
    refine s_istore B X31 (pc' := 60) (Ls' := #[.val (.int i0), .val (.ref o18), .val (.int (1 : Int32)), .val (.ref w_NOT_EQUAL), .val (.int (1 : Int32)), .unset, .unset]) at_58 rfl rfl ?_
    refine s_iloadN B X31 (pc' := 61) at_60 rfl rfl ?_
    refine s_iconst B X31 (pc' := 62) (v := (2 : Int32)) at_61 rfl rfl ?_
    refine s_icmpN B X31 (pc' := 65) at_62 (by decide) rfl ?_
    refine s_iconst B X31 (pc' := 66) (v := (1 : Int32)) at_65 rfl rfl ?_
    refine s_goto B X31 (pc' := 70) at_66 (by decide) (by decide) ?_
    refine s_istore B X31 (pc' := 72) (Ls' := #[.val (.int i0), .val (.ref o18), .val (.int (1 : Int32)), .val (.ref w_NOT_EQUAL), .val (.int (1 : Int32)), .val (.int (1 : Int32)), .unset]) at_70 rfl rfl ?_
    refine s_aloadN B X31 (pc' := 73) at_72 rfl rfl rfl ?_
    refine s_iconst B X31 (pc' := 74) (v := (1 : Int32)) at_73 rfl rfl ?_
    refine p_virtual B X31 (y := mn3) (pc' := 77) (argsL := [(.int (1 : Int32))]) (under := []) (W := 0) e31 (tw23 hw) (tw24 hw) (tw26 hw) (tw25 hw) (tw27 hw) (tw3 hw) (by decide) (rm2_5 l Z a0 hw  w_EQUAL w_NOT_EQUAL w_LESS w_LESS_OR_EQUAL w_GREATER w_GREATER_OR_EQUAL h30 F30 ) E_NOT_EQUAL (lenOf pd_2 rfl) rfl rfl (by decide) (by decide) rfl rfl (by decide) (by decide) rfl at_74 rfl (fun T32 X32 e32 => ?_)
    show Go p e below _ (T32.setTop (mkF m 77 #[.val (.int i0), .val (.ref o18), .val (.int (1 : Int32)), .val (.ref w_NOT_EQUAL), .val (.int (1 : Int32)), .val (.int (1 : Int32)), .unset] [(.int (1 : Int32))]))
    refine s_aloadN B X32 (pc' := 78) at_77 rfl rfl rfl ?_
    refine s_iconst B X32 (pc' := 79) (v := (-1 : Int32)) at_78 rfl rfl ?_
    refine p_virtual B X32 (y := mn3) (pc' := 82) (argsL := [(.int (-1 : Int32))]) (under := [(.int (1 : Int32))]) (W := 1) e32 (tw23 hw) (tw24 hw) (tw26 hw) (tw25 hw) (tw27 hw) (tw3 hw) (by decide) (rm2_7 l Z a0 hw  w_EQUAL w_NOT_EQUAL w_LESS w_LESS_OR_EQUAL w_GREATER w_GREATER_OR_EQUAL h30 F30 ) E_NOT_EQUAL (lenOf pd_2 rfl) rfl rfl (by decide) (by decide) rfl rfl (by decide) (by decide) rfl at_79 rfl (fun T33 X33 e33 => ?_)
    show Go p e below _ (T33.setTop (mkF m 82 #[.val (.int i0), .val (.ref o18), .val (.int (1 : Int32)), .val (.ref w_NOT_EQUAL), .val (.int (1 : Int32)), .val (.int (1 : Int32)), .unset] [(.int (1 : Int32)), (.int (1 : Int32))]))
    refine s_icmpN B X33 (pc' := 85) at_82 (by decide) rfl ?_
    refine s_iconst B X33 (pc' := 86) (v := (1 : Int32)) at_85 rfl rfl ?_
    refine s_goto B X33 (pc' := 90) at_86 (by decide) (by decide) ?_
    refine s_istore B X33 (pc' := 92) (Ls' := #[.val (.int i0), .val (.ref o18), .val (.int (1 : Int32)), .val (.ref w_NOT_EQUAL), .val (.int (1 : Int32)), .val (.int (1 : Int32)), .val (.int (1 : Int32))]) at_90 rfl rfl ?_
    refine s_iload B X33 (pc' := 94) at_92 rfl rfl ?_
    refine s_iload B X33 (pc' := 96) at_94 rfl rfl ?_
    refine s_icmpN B X33 (pc' := 99) at_96 (by decide) rfl ?_
    refine s_iload B X33 (pc' := 101) at_99 rfl rfl ?_
    refine s_iload B X33 (pc' := 103) at_101 rfl rfl ?_
    refine s_icmpN B X33 (pc' := 106) at_103 (by decide) rfl ?_
    refine s_iconst B X33 (pc' := 107) (v := (1 : Int32)) at_106 rfl rfl ?_
    refine s_goto B X33 (pc' := 111) at_107 (by decide) (by decide) ?_
    exact r_nar B X33 (t := .boolean) (by simp) rfl at_111 ⟨rfl, N30⟩ (by decide) (by decide)
  · refine s_bipush B X0 (pc' := 2) (v := (6 : Int32)) at_0 rfl rfl ?_
    refine s_newR B X0 (pc' := 5) (N := 6) (cap := 6) e0 (tw0 hw) (tw1 hw) (by decide) (by decide) (by decide) (by decide) (by decide) (by decide) at_2 rfl (fun T34 h34 o34 k34 g34 X34 e34 E34 A34 V34 => ?_)
    have ge_o34 : Z.heap.size ≤ o34 := g34 ▸ old_le (Old.start Z)
    replace A34 : Ary Z h34 o34 k34 (.object "com/example/upmob/upmob/Operator") 6 (lst [.null, .null, .null, .null, .null, .null] .null) := A34.congr (own_rep 6)
    have O34 := ((Old.start Z)).ext E34
    have F34 := OwnF.ext O34.2 F0
    show Go p e below _ (T34.setTop (mkF m 5 #[.val (.int i0), .unset, .unset, .unset, .unset, .unset, .unset] [(.ref o34)]))
    refine s_dup B X34 (pc' := 6) at_5 rfl rfl ?_
    refine s_iconst B X34 (pc' := 7) (v := (0 : Int32)) at_6 rfl rfl ?_
    obtain ⟨S_EQUAL, E_EQUAL, S_NOT_EQUAL, E_NOT_EQUAL, S_LESS, E_LESS, S_LESS_OR_EQUAL, E_LESS_OR_EQUAL, S_GREATER, E_GREATER, S_GREATER_OR_EQUAL, E_GREATER_OR_EQUAL, F_EQUAL_ordinal, F_LESS_OR_EQUAL_ordinal, F_NOT_EQUAL_ordinal, F_LESS_ordinal, F_GREATER_OR_EQUAL_ordinal, F_GREATER_ordinal⟩ := id F34
    refine s_getS B X34 (pc' := 10) e34 (tw2 hw) Via.refl S_EQUAL at_7 rfl (fun T35 X35 e35 => ?_)
    refine s_stR B X35 (pc' := 11) (jn := 0) e35 A34 rfl (Ary.sto A34 V34 (Ins.self E_EQUAL)) (by decide) (by decide) (by decide) at_10 rfl (fun T36 h36 X36 e36 W36 A36 => ?_)
    replace A36 := A36.full (show 0 < 6 by decide) (L' := [(.ref w_EQUAL), .null, .null, .null, .null, .null]) rfl
    have N36 := Fr.snoc X36 (Fr.nil _) ge_o34
    have O36 := (O34).wr W36 ge_o34
    have F36 := OwnF.ext O36.2 F0
    show Go p e below _ (T36.setTop (mkF m 11 #[.val (.int i0), .unset, .unset, .unset, .unset, .unset, .unset] [(.ref o34)]))
    refine s_dup B X36 (pc' := 12) at_11 rfl rfl ?_
    refine s_iconst B X36 (pc' := 13) (v := (1 : Int32)) at_12 rfl rfl ?_
    obtain ⟨S_EQUAL, E_EQUAL, S_NOT_EQUAL, E_NOT_EQUAL, S_LESS, E_LESS, S_LESS_OR_EQUAL, E_LESS_OR_EQUAL, S_GREATER, E_GREATER, S_GREATER_OR_EQUAL, E_GREATER_OR_EQUAL, F_EQUAL_ordinal, F_LESS_OR_EQUAL_ordinal, F_NOT_EQUAL_ordinal, F_LESS_ordinal, F_GREATER_OR_EQUAL_ordinal, F_GREATER_ordinal⟩ := id F36
    refine s_getS B X36 (pc' := 16) e36 (tw6 hw) Via.refl S_NOT_EQUAL at_13 rfl (fun T37 X37 e37 => ?_)
    refine s_stR B X37 (pc' := 17) (jn := 1) e37 A36 rfl (Ary.sto A36 V34 (Ins.self E_NOT_EQUAL)) (by decide) (by decide) (by decide) at_16 rfl (fun T38 h38 X38 e38 W38 A38 => ?_)
    replace A38 := A38.full (show 1 < 6 by decide) (L' := [(.ref w_EQUAL), (.ref w_NOT_EQUAL), .null, .null, .null, .null]) rfl
    have N38 := Fr.snoc X38 N36 ge_o34
    have O38 := (O36).wr W38 ge_o34
    have F38 := OwnF.ext O38.2 F0
    show Go p e below _ (T38.setTop (mkF m 17 #[.val (.int i0), .unset, .unset, .unset, .unset, .unset, .unset] [(.ref o34)]))
    refine s_dup B X38 (pc' := 18) at_17 rfl rfl ?_
    refine s_iconst B X38 (pc' := 19) (v := (2 : Int32)) at_18 rfl rfl ?_
    obtain ⟨S_EQUAL, E_EQUAL, S_NOT_EQUAL, E_NOT_EQUAL, S_LESS, E_LESS, S_LESS_OR_EQUAL, E_LESS_OR_EQUAL, S_GREATER, E_GREATER, S_GREATER_OR_EQUAL, E_GREATER_OR_EQUAL, F_EQUAL_ordinal, F_LESS_OR_EQUAL_ordinal, F_NOT_EQUAL_ordinal, F_LESS_ordinal, F_GREATER_OR_EQUAL_ordinal, F_GREATER_ordinal⟩ := id F38
    refine s_getS B X38 (pc' := 22) e38 (tw8 hw) Via.refl S_LESS at_19 rfl (fun T39 X39 e39 => ?_)
    refine s_stR B X39 (pc' := 23) (jn := 2) e39 A38 rfl (Ary.sto A38 V34 (Ins.self E_LESS)) (by decide) (by decide) (by decide) at_22 rfl (fun T40 h40 X40 e40 W40 A40 => ?_)
    replace A40 := A40.full (show 2 < 6 by decide) (L' := [(.ref w_EQUAL), (.ref w_NOT_EQUAL), (.ref w_LESS), .null, .null, .null]) rfl
    have N40 := Fr.snoc X40 N38 ge_o34
    have O40 := (O38).wr W40 ge_o34
    have F40 := OwnF.ext O40.2 F0
    show Go p e below _ (T40.setTop (mkF m 23 #[.val (.int i0), .unset, .unset, .unset, .unset, .unset, .unset] [(.ref o34)]))
    refine s_dup B X40 (pc' := 24) at_23 rfl rfl ?_
    refine s_iconst B X40 (pc' := 25) (v := (3 : Int32)) at_24 rfl rfl ?_
    obtain ⟨S_EQUAL, E_EQUAL, S_NOT_EQUAL, E_NOT_EQUAL, S_LESS, E_LESS, S_LESS_OR_EQUAL, E_LESS_OR_EQUAL, S_GREATER, E_GREATER, S_GREATER_OR_EQUAL, E_GREATER_OR_EQUAL, F_EQUAL_ordinal, F_LESS_OR_EQUAL_ordinal, F_NOT_EQUAL_ordinal, F_LESS_ordinal, F_GREATER_OR_EQUAL_ordinal, F_GREATER_ordinal⟩ := id F40
    refine s_getS B X40 (pc' := 28) e40 (tw10 hw) Via.refl S_LESS_OR_EQUAL at_25 rfl (fun T41 X41 e41 => ?_)
    refine s_stR B X41 (pc' := 29) (jn := 3) e41 A40 rfl (Ary.sto A40 V34 (Ins.self E_LESS_OR_EQUAL)) (by decide) (by decide) (by decide) at_28 rfl (fun T42 h42 X42 e42 W42 A42 => ?_)
    replace A42 := A42.full (show 3 < 6 by decide) (L' := [(.ref w_EQUAL), (.ref w_NOT_EQUAL), (.ref w_LESS), (.ref w_LESS_OR_EQUAL), .null, .null]) rfl
    have N42 := Fr.snoc X42 N40 ge_o34
    have O42 := (O40).wr W42 ge_o34
    have F42 := OwnF.ext O42.2 F0
    show Go p e below _ (T42.setTop (mkF m 29 #[.val (.int i0), .unset, .unset, .unset, .unset, .unset, .unset] [(.ref o34)]))
    refine s_dup B X42 (pc' := 30) at_29 rfl rfl ?_
    refine s_iconst B X42 (pc' := 31) (v := (4 : Int32)) at_30 rfl rfl ?_
    obtain ⟨S_EQUAL, E_EQUAL, S_NOT_EQUAL, E_NOT_EQUAL, S_LESS, E_LESS, S_LESS_OR_EQUAL, E_LESS_OR_EQUAL, S_GREATER, E_GREATER, S_GREATER_OR_EQUAL, E_GREATER_OR_EQUAL, F_EQUAL_ordinal, F_LESS_OR_EQUAL_ordinal, F_NOT_EQUAL_ordinal, F_LESS_ordinal, F_GREATER_OR_EQUAL_ordinal, F_GREATER_ordinal⟩ := id F42
    refine s_getS B X42 (pc' := 34) e42 (tw12 hw) Via.refl S_GREATER at_31 rfl (fun T43 X43 e43 => ?_)
    refine s_stR B X43 (pc' := 35) (jn := 4) e43 A42 rfl (Ary.sto A42 V34 (Ins.self E_GREATER)) (by decide) (by decide) (by decide) at_34 rfl (fun T44 h44 X44 e44 W44 A44 => ?_)
    replace A44 := A44.full (show 4 < 6 by decide) (L' := [(.ref w_EQUAL), (.ref w_NOT_EQUAL), (.ref w_LESS), (.ref w_LESS_OR_EQUAL), (.ref w_GREATER), .null]) rfl
    have N44 := Fr.snoc X44 N42 ge_o34
    have O44 := (O42).wr W44 ge_o34
    have F44 := OwnF.ext O44.2 F0
    show Go p e below _ (T44.setTop (mkF m 35 #[.val (.int i0), .unset, .unset, .unset, .unset, .unset, .unset] [(.ref o34)]))
    refine s_dup B X44 (pc' := 36) at_35 rfl rfl ?_
    refine s_iconst B X44 (pc' := 37) (v := (5 : Int32)) at_36 rfl rfl ?_
    obtain ⟨S_EQUAL, E_EQUAL, S_NOT_EQUAL, E_NOT_EQUAL, S_LESS, E_LESS, S_LESS_OR_EQUAL, E_LESS_OR_EQUAL, S_GREATER, E_GREATER, S_GREATER_OR_EQUAL, E_GREATER_OR_EQUAL, F_EQUAL_ordinal, F_LESS_OR_EQUAL_ordinal, F_NOT_EQUAL_ordinal, F_LESS_ordinal, F_GREATER_OR_EQUAL_ordinal, F_GREATER_ordinal⟩ := id F44
    refine s_getS B X44 (pc' := 40) e44 (tw14 hw) Via.refl S_GREATER_OR_EQUAL at_37 rfl (fun T45 X45 e45 => ?_)
    refine s_stR B X45 (pc' := 41) (jn := 5) e45 A44 rfl (Ary.sto A44 V34 (Ins.self E_GREATER_OR_EQUAL)) (by decide) (by decide) (by decide) at_40 rfl (fun T46 h46 X46 e46 W46 A46 => ?_)
    replace A46 := A46.full (show 5 < 6 by decide) (L' := [(.ref w_EQUAL), (.ref w_NOT_EQUAL), (.ref w_LESS), (.ref w_LESS_OR_EQUAL), (.ref w_GREATER), (.ref w_GREATER_OR_EQUAL)]) rfl
    have N46 := Fr.snoc X46 N44 ge_o34
    have O46 := (O44).wr W46 ge_o34
    have F46 := OwnF.ext O46.2 F0
    show Go p e below _ (T46.setTop (mkF m 41 #[.val (.int i0), .unset, .unset, .unset, .unset, .unset, .unset] [(.ref o34)]))
    refine s_astoreN B X46 (pc' := 42) (Ls' := #[.val (.int i0), .val (.ref o34), .unset, .unset, .unset, .unset, .unset]) at_41 rfl rfl rfl ?_
    refine s_iloadN B X46 (pc' := 43) at_42 rfl rfl ?_
    refine s_ldc B X46 (pc' := 45) (v := (2147483647 : Int32)) (tw16 hw) at_43 rfl ?_
    refine s_iand B X46 (pc' := 46) (v := (i0 &&& (2147483647 : Int32))) at_45 rfl rfl ?_
    refine s_bipush B X46 (pc' := 48) (v := (6 : Int32)) at_46 rfl rfl ?_
    refine s_irem B X46 (pc' := 49) (v := (2 : Int32)) at_48 (hv1) (by decide) rfl ?_
    refine s_istoreN B X46 (pc' := 50) (Ls' := #[.val (.int i0), .val (.ref o34), .val (.int (2 : Int32)), .unset, .unset, .unset, .unset]) at_49 rfl rfl ?_
    refine s_aloadN B X46 (pc' := 51) at_50 rfl rfl rfl ?_
    refine s_iloadN B X46 (pc' := 52) at_51 rfl rfl ?_
    refine s_ldR B X46 (pc' := 53) (jn := 2) (v := (.ref w_LESS)) e46 A46 rfl (by decide) (by decide) (by decide) rfl at_52 rfl ?_
    refine s_astoreN B X46 (pc' := 54) (Ls' := #[.val (.int i0), .val (.ref o34), .val (.int (2 : Int32)), .val (.ref w_LESS), .unset, .unset, .unset]) at_53 rfl rfl rfl ?_
    refine s_aloadN B X46 (pc' := 55) at_54 rfl rfl rfl ?_
    obtain ⟨S_EQUAL, E_EQUAL, S_NOT_EQUAL, E_NOT_EQUAL, S_LESS, E_LESS, S_LESS_OR_EQUAL, E_LESS_OR_EQUAL, S_GREATER, E_GREATER, S_GREATER_OR_EQUAL, E_GREATER_OR_EQUAL, F_EQUAL_ordinal, F_LESS_OR_EQUAL_ordinal, F_NOT_EQUAL_ordinal, F_LESS_ordinal, F_GREATER_OR_EQUAL_ordinal, F_GREATER_ordinal⟩ := id F46
    refine p_virtual B X46 (y := mn0) (pc' := 58) (argsL := []) (under := []) (W := 0) e46 (tw17 hw) (tw18 hw) (tw20 hw) (tw19 hw) (tw21 hw) (tw3 hw) (by decide) (rm1_8 l Z a0 hw  w_EQUAL w_NOT_EQUAL w_LESS w_LESS_OR_EQUAL w_GREATER w_GREATER_OR_EQUAL h46 F46 ) E_LESS (lenOf pd_0 rfl) rfl rfl (by decide) (by decide) rfl rfl (by decide) (by decide) rfl at_55 rfl (fun T47 X47 e47 => ?_)
    show Go p e below _ (T47.setTop (mkF m 58 #[.val (.int i0), .val (.ref o34), .val (.int (2 : Int32)), .val (.ref w_LESS), .unset, .unset, .unset] [(.int (0 : Int32))]))
    refine s_istore B X47 (pc' := 60) (Ls' := #[.val (.int i0), .val (.ref o34), .val (.int (2 : Int32)), .val (.ref w_LESS), .val (.int (0 : Int32)), .unset, .unset]) at_58 rfl rfl ?_
    refine s_iloadN B X47 (pc' := 61) at_60 rfl rfl ?_
    refine s_iconst B X47 (pc' := 62) (v := (2 : Int32)) at_61 rfl rfl ?_
    refine s_icmpY B X47 (pc' := 69) at_62 (by decide) (by decide) (by decide) ?_
    refine s_iconst B X47 (pc' := 70) (v := (0 : Int32)) at_69 rfl rfl ?_
    refine s_istore B X47 (pc' := 72) (Ls' := #[.val (.int i0), .val (.ref o34), .val (.int (2 : Int32)), .val (.ref w_LESS), .val (.int (0 : Int32)), .val (.int (0 : Int32)), .unset]) at_70 rfl rfl ?_
    refine s_aloadN B X47 (pc' := 73) at_72 rfl rfl rfl ?_
    refine s_iconst B X47 (pc' := 74) (v := (1 : Int32)) at_73 rfl rfl ?_
    refine p_virtual B X47 (y := mn3) (pc' := 77) (argsL := [(.int (1 : Int32))]) (under := []) (W := 0) e47 (tw23 hw) (tw24 hw) (tw26 hw) (tw25 hw) (tw27 hw) (tw3 hw) (by decide) (rm2_9 l Z a0 hw  w_EQUAL w_NOT_EQUAL w_LESS w_LESS_OR_EQUAL w_GREATER w_GREATER_OR_EQUAL h46 F46 ) E_LESS (lenOf pd_2 rfl) rfl rfl (by decide) (by decide) rfl rfl (by decide) (by decide) rfl at_74 rfl (fun T48 X48 e48 => ?_)
    show Go p e below _ (T48.setTop (mkF m 77 #[.val (.int i0), .val (.ref o34), .val (.int (2 : Int32)), .val (.ref w_LESS), .val (.int (0 : Int32)), .val (.int (0 : Int32)), .unset] [(.int (0 : Int32))]))
    refine s_aloadN B X48 (pc' := 78) at_77 rfl rfl rfl ?_
    refine s_iconst B X48 (pc' := 79) (v := (-1 : Int32)) at_78 rfl rfl ?_
    refine p_virtual B X48 (y := mn3) (pc' := 82) (argsL := [(.int (-1 : Int32))]) (under := [(.int (0 : Int32))]) (W := 1) e48 (tw23 hw) (tw24 hw) (tw26 hw) (tw25 hw) (tw27 hw) (tw3 hw) (by decide) (rm2_11 l Z a0 hw  w_EQUAL w_NOT_EQUAL w_LESS w_LESS_OR_EQUAL w_GREATER w_GREATER_OR_EQUAL h46 F46 ) E_LESS (lenOf pd_2 rfl) rfl rfl (by decide) (by decide) rfl rfl (by decide) (by decide) rfl at_79 rfl (fun T49 X49 e49 => ?_)
    show Go p e below _ (T49.setTop (mkF m 82 #[.val (.int i0), .val (.ref o34), .val (.int (2 : Int32)), .val (.ref w_LESS), .val (.int (0 : Int32)), .val (.int (0 : Int32)), .unset] [(.int (1 : Int32)), (.int (0 : Int32))]))
    refine s_icmpY B X49 (pc' := 89) at_82 (by decide) (by decide) (by decide) ?_
    refine s_iconst B X49 (pc' := 90) (v := (0 : Int32)) at_89 rfl rfl ?_
    refine s_istore B X49 (pc' := 92) (Ls' := #[.val (.int i0), .val (.ref o34), .val (.int (2 : Int32)), .val (.ref w_LESS), .val (.int (0 : Int32)), .val (.int (0 : Int32)), .val (.int (0 : Int32))]) at_90 rfl rfl ?_
    refine s_iload B X49 (pc' := 94) at_92 rfl rfl ?_
    refine s_iload B X49 (pc' := 96) at_94 rfl rfl ?_
    refine s_icmpN B X49 (pc' := 99) at_96 (by decide) rfl ?_
    refine s_iload B X49 (pc' := 101) at_99 rfl rfl ?_
    refine s_iload B X49 (pc' := 103) at_101 rfl rfl ?_
    refine s_icmpN B X49 (pc' := 106) at_103 (by decide) rfl ?_
    refine s_iconst B X49 (pc' := 107) (v := (1 : Int32)) at_106 rfl rfl ?_
    refine s_goto B X49 (pc' := 111) at_107 (by decide) (by decide) ?_
    exact r_nar B X49 (t := .boolean) (by simp) rfl at_111 ⟨rfl, N46⟩ (by decide) (by decide)
  · refine s_bipush B X0 (pc' := 2) (v := (6 : Int32)) at_0 rfl rfl ?_
    refine s_newR B X0 (pc' := 5) (N := 6) (cap := 6) e0 (tw0 hw) (tw1 hw) (by decide) (by decide) (by decide) (by decide) (by decide) (by decide) at_2 rfl (fun T50 h50 o50 k50 g50 X50 e50 E50 A50 V50 => ?_)
    have ge_o50 : Z.heap.size ≤ o50 := g50 ▸ old_le (Old.start Z)
    replace A50 : Ary Z h50 o50 k50 (.object "com/example/upmob/upmob/Operator") 6 (lst [.null, .null, .null, .null, .null, .null] .null) := A50.congr (own_rep 6)
    have O50 := ((Old.start Z)).ext E50
    have F50 := OwnF.ext O50.2 F0
    show Go p e below _ (T50.setTop (mkF m 5 #[.val (.int i0), .unset, .unset, .unset, .unset, .unset, .unset] [(.ref o50)]))
    refine s_dup B X50 (pc' := 6) at_5 rfl rfl ?_
    refine s_iconst B X50 (pc' := 7) (v := (0 : Int32)) at_6 rfl rfl ?_
    obtain ⟨S_EQUAL, E_EQUAL, S_NOT_EQUAL, E_NOT_EQUAL, S_LESS, E_LESS, S_LESS_OR_EQUAL, E_LESS_OR_EQUAL, S_GREATER, E_GREATER, S_GREATER_OR_EQUAL, E_GREATER_OR_EQUAL, F_EQUAL_ordinal, F_LESS_OR_EQUAL_ordinal, F_NOT_EQUAL_ordinal, F_LESS_ordinal, F_GREATER_OR_EQUAL_ordinal, F_GREATER_ordinal⟩ := id F50
    refine s_getS B X50 (pc' := 10) e50 (tw2 hw) Via.refl S_EQUAL at_7 rfl (fun T51 X51 e51 => ?_)
    refine s_stR B X51 (pc' := 11) (jn := 0) e51 A50 rfl (Ary.sto A50 V50 (Ins.self E_EQUAL)) (by decide) (by decide) (by decide) at_10 rfl (fun T52 h52 X52 e52 W52 A52 => ?_)
    replace A52 := A52.full (show 0 < 6 by decide) (L' := [(.ref w_EQUAL), .null, .null, .null, .null, .null]) rfl
    have N52 := Fr.snoc X52 (Fr.nil _) ge_o50
    have O52 := (O50).wr W52 ge_o50
    have F52 := OwnF.ext O52.2 F0
    show Go p e below _ (T52.setTop (mkF m 11 #[.val (.int i0), .unset, .unset, .unset, .unset, .unset, .unset] [(.ref o50)]))
    refine s_dup B X52 (pc' := 12) at_11 rfl rfl ?_
    refine s_iconst B X52 (pc' := 13) (v := (1 : Int32)) at_12 rfl rfl ?_
    obtain ⟨S_EQUAL, E_EQUAL, S_NOT_EQUAL, E_NOT_EQUAL, S_LESS, E_LESS, S_LESS_OR_EQUAL, E_LESS_OR_EQUAL, S_GREATER, E_GREATER, S_GREATER_OR_EQUAL, E_GREATER_OR_EQUAL, F_EQUAL_ordinal, F_LESS_OR_EQUAL_ordinal, F_NOT_EQUAL_ordinal, F_LESS_ordinal, F_GREATER_OR_EQUAL_ordinal, F_GREATER_ordinal⟩ := id F52
    refine s_getS B X52 (pc' := 16) e52 (tw6 hw) Via.refl S_NOT_EQUAL at_13 rfl (fun T53 X53 e53 => ?_)
    refine s_stR B X53 (pc' := 17) (jn := 1) e53 A52 rfl (Ary.sto A52 V50 (Ins.self E_NOT_EQUAL)) (by decide) (by decide) (by decide) at_16 rfl (fun T54 h54 X54 e54 W54 A54 => ?_)
    replace A54 := A54.full (show 1 < 6 by decide) (L' := [(.ref w_EQUAL), (.ref w_NOT_EQUAL), .null, .null, .null, .null]) rfl
    have N54 := Fr.snoc X54 N52 ge_o50
    have O54 := (O52).wr W54 ge_o50
    have F54 := OwnF.ext O54.2 F0
    show Go p e below _ (T54.setTop (mkF m 17 #[.val (.int i0), .unset, .unset, .unset, .unset, .unset, .unset] [(.ref o50)]))
    refine s_dup B X54 (pc' := 18) at_17 rfl rfl ?_
    refine s_iconst B X54 (pc' := 19) (v := (2 : Int32)) at_18 rfl rfl ?_
    obtain ⟨S_EQUAL, E_EQUAL, S_NOT_EQUAL, E_NOT_EQUAL, S_LESS, E_LESS, S_LESS_OR_EQUAL, E_LESS_OR_EQUAL, S_GREATER, E_GREATER, S_GREATER_OR_EQUAL, E_GREATER_OR_EQUAL, F_EQUAL_ordinal, F_LESS_OR_EQUAL_ordinal, F_NOT_EQUAL_ordinal, F_LESS_ordinal, F_GREATER_OR_EQUAL_ordinal, F_GREATER_ordinal⟩ := id F54
    refine s_getS B X54 (pc' := 22) e54 (tw8 hw) Via.refl S_LESS at_19 rfl (fun T55 X55 e55 => ?_)
    refine s_stR B X55 (pc' := 23) (jn := 2) e55 A54 rfl (Ary.sto A54 V50 (Ins.self E_LESS)) (by decide) (by decide) (by decide) at_22 rfl (fun T56 h56 X56 e56 W56 A56 => ?_)
    replace A56 := A56.full (show 2 < 6 by decide) (L' := [(.ref w_EQUAL), (.ref w_NOT_EQUAL), (.ref w_LESS), .null, .null, .null]) rfl
    have N56 := Fr.snoc X56 N54 ge_o50
    have O56 := (O54).wr W56 ge_o50
    have F56 := OwnF.ext O56.2 F0
    show Go p e below _ (T56.setTop (mkF m 23 #[.val (.int i0), .unset, .unset, .unset, .unset, .unset, .unset] [(.ref o50)]))
    refine s_dup B X56 (pc' := 24) at_23 rfl rfl ?_
    refine s_iconst B X56 (pc' := 25) (v := (3 : Int32)) at_24 rfl rfl ?_
    obtain ⟨S_EQUAL, E_EQUAL, S_NOT_EQUAL, E_NOT_EQUAL, S_LESS, E_LESS, S_LESS_OR_EQUAL, E_LESS_OR_EQUAL, S_GREATER, E_GREATER, S_GREATER_OR_EQUAL, E_GREATER_OR_EQUAL, F_EQUAL_ordinal, F_LESS_OR_EQUAL_ordinal, F_NOT_EQUAL_ordinal, F_LESS_ordinal, F_GREATER_OR_EQUAL_ordinal, F_GREATER_ordinal⟩ := id F56
    refine s_getS B X56 (pc' := 28) e56 (tw10 hw) Via.refl S_LESS_OR_EQUAL at_25 rfl (fun T57 X57 e57 => ?_)
    refine s_stR B X57 (pc' := 29) (jn := 3) e57 A56 rfl (Ary.sto A56 V50 (Ins.self E_LESS_OR_EQUAL)) (by decide) (by decide) (by decide) at_28 rfl (fun T58 h58 X58 e58 W58 A58 => ?_)
    replace A58 := A58.full (show 3 < 6 by decide) (L' := [(.ref w_EQUAL), (.ref w_NOT_EQUAL), (.ref w_LESS), (.ref w_LESS_OR_EQUAL), .null, .null]) rfl
    have N58 := Fr.snoc X58 N56 ge_o50
    have O58 := (O56).wr W58 ge_o50
    have F58 := OwnF.ext O58.2 F0
    show Go p e below _ (T58.setTop (mkF m 29 #[.val (.int i0), .unset, .unset, .unset, .unset, .unset, .unset] [(.ref o50)]))
    refine s_dup B X58 (pc' := 30) at_29 rfl rfl ?_
    refine s_iconst B X58 (pc' := 31) (v := (4 : Int32)) at_30 rfl rfl ?_
    obtain ⟨S_EQUAL, E_EQUAL, S_NOT_EQUAL, E_NOT_EQUAL, S_LESS, E_LESS, S_LESS_OR_EQUAL, E_LESS_OR_EQUAL, S_GREATER, E_GREATER, S_GREATER_OR_EQUAL, E_GREATER_OR_EQUAL, F_EQUAL_ordinal, F_LESS_OR_EQUAL_ordinal, F_NOT_EQUAL_ordinal, F_LESS_ordinal, F_GREATER_OR_EQUAL_ordinal, F_GREATER_ordinal⟩ := id F58
    refine s_getS B X58 (pc' := 34) e58 (tw12 hw) Via.refl S_GREATER at_31 rfl (fun T59 X59 e59 => ?_)
    refine s_stR B X59 (pc' := 35) (jn := 4) e59 A58 rfl (Ary.sto A58 V50 (Ins.self E_GREATER)) (by decide) (by decide) (by decide) at_34 rfl (fun T60 h60 X60 e60 W60 A60 => ?_)
    replace A60 := A60.full (show 4 < 6 by decide) (L' := [(.ref w_EQUAL), (.ref w_NOT_EQUAL), (.ref w_LESS), (.ref w_LESS_OR_EQUAL), (.ref w_GREATER), .null]) rfl
    have N60 := Fr.snoc X60 N58 ge_o50
    have O60 := (O58).wr W60 ge_o50
    have F60 := OwnF.ext O60.2 F0
    show Go p e below _ (T60.setTop (mkF m 35 #[.val (.int i0), .unset, .unset, .unset, .unset, .unset, .unset] [(.ref o50)]))
    refine s_dup B X60 (pc' := 36) at_35 rfl rfl ?_
    refine s_iconst B X60 (pc' := 37) (v := (5 : Int32)) at_36 rfl rfl ?_
    obtain ⟨S_EQUAL, E_EQUAL, S_NOT_EQUAL, E_NOT_EQUAL, S_LESS, E_LESS, S_LESS_OR_EQUAL, E_LESS_OR_EQUAL, S_GREATER, E_GREATER, S_GREATER_OR_EQUAL, E_GREATER_OR_EQUAL, F_EQUAL_ordinal, F_LESS_OR_EQUAL_ordinal, F_NOT_EQUAL_ordinal, F_LESS_ordinal, F_GREATER_OR_EQUAL_ordinal, F_GREATER_ordinal⟩ := id F60
    refine s_getS B X60 (pc' := 40) e60 (tw14 hw) Via.refl S_GREATER_OR_EQUAL at_37 rfl (fun T61 X61 e61 => ?_)
    refine s_stR B X61 (pc' := 41) (jn := 5) e61 A60 rfl (Ary.sto A60 V50 (Ins.self E_GREATER_OR_EQUAL)) (by decide) (by decide) (by decide) at_40 rfl (fun T62 h62 X62 e62 W62 A62 => ?_)
    replace A62 := A62.full (show 5 < 6 by decide) (L' := [(.ref w_EQUAL), (.ref w_NOT_EQUAL), (.ref w_LESS), (.ref w_LESS_OR_EQUAL), (.ref w_GREATER), (.ref w_GREATER_OR_EQUAL)]) rfl
    have N62 := Fr.snoc X62 N60 ge_o50
    have O62 := (O60).wr W62 ge_o50
    have F62 := OwnF.ext O62.2 F0
    show Go p e below _ (T62.setTop (mkF m 41 #[.val (.int i0), .unset, .unset, .unset, .unset, .unset, .unset] [(.ref o50)]))
    refine s_astoreN B X62 (pc' := 42) (Ls' := #[.val (.int i0), .val (.ref o50), .unset, .unset, .unset, .unset, .unset]) at_41 rfl rfl rfl ?_
    refine s_iloadN B X62 (pc' := 43) at_42 rfl rfl ?_
    refine s_ldc B X62 (pc' := 45) (v := (2147483647 : Int32)) (tw16 hw) at_43 rfl ?_
    refine s_iand B X62 (pc' := 46) (v := (i0 &&& (2147483647 : Int32))) at_45 rfl rfl ?_
    refine s_bipush B X62 (pc' := 48) (v := (6 : Int32)) at_46 rfl rfl ?_
    refine s_irem B X62 (pc' := 49) (v := (3 : Int32)) at_48 (hv1) (by decide) rfl ?_
    refine s_istoreN B X62 (pc' := 50) (Ls' := #[.val (.int i0), .val (.ref o50), .val (.int (3 : Int32)), .unset, .unset, .unset, .unset]) at_49 rfl rfl ?_
    refine s_aloadN B X62 (pc' := 51) at_50 rfl rfl rfl ?_
    refine s_iloadN B X62 (pc' := 52) at_51 rfl rfl ?_
    refine s_ldR B X62 (pc' := 53) (jn := 3) (v := (.ref w_LESS_OR_EQUAL)) e62 A62 rfl (by decide) (by decide) (by decide) rfl at_52 rfl ?_
    refine s_astoreN B X62 (pc' := 54) (Ls' := #[.val (.int i0), .val (.ref o50), .val (.int (3 : Int32)), .val (.ref w_LESS_OR_EQUAL), .unset, .unset, .unset]) at_53 rfl rfl rfl ?_
    refine s_aloadN B X62 (pc' := 55) at_54 rfl rfl rfl ?_
    obtain ⟨S_EQUAL, E_EQUAL, S_NOT_EQUAL, E_NOT_EQUAL, S_LESS, E_LESS, S_LESS_OR_EQUAL, E_LESS_OR_EQUAL, S_GREATER, E_GREATER, S_GREATER_OR_EQUAL, E_GREATER_OR_EQUAL, F_EQUAL_ordinal, F_LESS_OR_EQUAL_ordinal, F_NOT_EQUAL_ordinal, F_LESS_ordinal, F_GREATER_OR_EQUAL_ordinal, F_GREATER_ordinal⟩ := id F62
    refine p_virtual B X62 (y := mn0) (pc' := 58) (argsL := []) (under := []) (W := 0) e62 (tw17 hw) (tw18 hw) (tw20 hw) (tw19 hw) (tw21 hw) (tw3 hw) (by decide) (rm1_12 l Z a0 hw  w_EQUAL w_NOT_EQUAL w_LESS w_LESS_OR_EQUAL w_GREATER w_GREATER_OR_EQUAL h62 F62 ) E_LESS_OR_EQUAL (lenOf pd_0 rfl) rfl rfl (by decide) (by decide) rfl rfl (by decide) (by decide) rfl at_55 rfl (fun T63 X63 e63 => ?_)
    show Go p e below _ (T63.setTop (mkF m 58 #[.val (.int i0), .val (.ref o50), .val (.int (3 : Int32)), .val (.ref w_LESS_OR_EQUAL), .unset, .unset, .unset] [(.int (0 : Int32))]))
    refine s_istore B X63 (pc' := 60) (Ls' := #[.val (.int i0), .val (.ref o50), .val (.int (3 : Int32)), .val (.ref w_LESS_OR_EQUAL), .val (.int (0 : Int32)), .unset, .unset]) at_58 rfl rfl ?_
    refine s_iloadN B X63 (pc' := 61) at_60 rfl rfl ?_
    refine s_iconst B X63 (pc' := 62) (v := (2 : Int32)) at_61 rfl rfl ?_
    refine s_icmpY B X63 (pc' := 69) at_62 (by decide) (by decide) (by decide) ?_
    refine s_iconst B X63 (pc' := 70) (v := (0 : Int32)) at_69 rfl rfl ?_
    refine s_istore B X63 (pc' := 72) (Ls' := #[.val (.int i0), .val (.ref o50), .val (.int (3 : Int32)), .val (.ref w_LESS_OR_EQUAL), .val (.int (0 : Int32)), .val (.int (0 : Int32)), .unset]) at_70 rfl rfl ?_
    refine s_aloadN B X63 (pc' := 73) at_72 rfl rfl rfl ?_
    refine s_iconst B X63 (pc' := 74) (v := (1 : Int32)) at_73 rfl rfl ?_
    refine p_virtual B X63 (y := mn3) (pc' := 77) (argsL := [(.int (1 : Int32))]) (under := []) (W := 0) e63 (tw23 hw) (tw24 hw) (tw26 hw) (tw25 hw) (tw27 hw) (tw3 hw) (by decide) (rm2_13 l Z a0 hw  w_EQUAL w_NOT_EQUAL w_LESS w_LESS_OR_EQUAL w_GREATER w_GREATER_OR_EQUAL h62 F62 ) E_LESS_OR_EQUAL (lenOf pd_2 rfl) rfl rfl (by decide) (by decide) rfl rfl (by decide) (by decide) rfl at_74 rfl (fun T64 X64 e64 => ?_)
    show Go p e below _ (T64.setTop (mkF m 77 #[.val (.int i0), .val (.ref o50), .val (.int (3 : Int32)), .val (.ref w_LESS_OR_EQUAL), .val (.int (0 : Int32)), .val (.int (0 : Int32)), .unset] [(.int (0 : Int32))]))
    refine s_aloadN B X64 (pc' := 78) at_77 rfl rfl rfl ?_
    refine s_iconst B X64 (pc' := 79) (v := (-1 : Int32)) at_78 rfl rfl ?_
    refine p_virtual B X64 (y := mn3) (pc' := 82) (argsL := [(.int (-1 : Int32))]) (under := [(.int (0 : Int32))]) (W := 1) e64 (tw23 hw) (tw24 hw) (tw26 hw) (tw25 hw) (tw27 hw) (tw3 hw) (by decide) (rm2_15 l Z a0 hw  w_EQUAL w_NOT_EQUAL w_LESS w_LESS_OR_EQUAL w_GREATER w_GREATER_OR_EQUAL h62 F62 ) E_LESS_OR_EQUAL (lenOf pd_2 rfl) rfl rfl (by decide) (by decide) rfl rfl (by decide) (by decide) rfl at_79 rfl (fun T65 X65 e65 => ?_)
    show Go p e below _ (T65.setTop (mkF m 82 #[.val (.int i0), .val (.ref o50), .val (.int (3 : Int32)), .val (.ref w_LESS_OR_EQUAL), .val (.int (0 : Int32)), .val (.int (0 : Int32)), .unset] [(.int (1 : Int32)), (.int (0 : Int32))]))
    refine s_icmpY B X65 (pc' := 89) at_82 (by decide) (by decide) (by decide) ?_
    refine s_iconst B X65 (pc' := 90) (v := (0 : Int32)) at_89 rfl rfl ?_
    refine s_istore B X65 (pc' := 92) (Ls' := #[.val (.int i0), .val (.ref o50), .val (.int (3 : Int32)), .val (.ref w_LESS_OR_EQUAL), .val (.int (0 : Int32)), .val (.int (0 : Int32)), .val (.int (0 : Int32))]) at_90 rfl rfl ?_
    refine s_iload B X65 (pc' := 94) at_92 rfl rfl ?_
    refine s_iload B X65 (pc' := 96) at_94 rfl rfl ?_
    refine s_icmpN B X65 (pc' := 99) at_96 (by decide) rfl ?_
    refine s_iload B X65 (pc' := 101) at_99 rfl rfl ?_
    refine s_iload B X65 (pc' := 103) at_101 rfl rfl ?_
    refine s_icmpN B X65 (pc' := 106) at_103 (by decide) rfl ?_
    refine s_iconst B X65 (pc' := 107) (v := (1 : Int32)) at_106 rfl rfl ?_
    refine s_goto B X65 (pc' := 111) at_107 (by decide) (by decide) ?_
    exact r_nar B X65 (t := .boolean) (by simp) rfl at_111 ⟨rfl, N62⟩ (by decide) (by decide)
  · refine s_bipush B X0 (pc' := 2) (v := (6 : Int32)) at_0 rfl rfl ?_
    refine s_newR B X0 (pc' := 5) (N := 6) (cap := 6) e0 (tw0 hw) (tw1 hw) (by decide) (by decide) (by decide) (by decide) (by decide) (by decide) at_2 rfl (fun T66 h66 o66 k66 g66 X66 e66 E66 A66 V66 => ?_)
    have ge_o66 : Z.heap.size ≤ o66 := g66 ▸ old_le (Old.start Z)
    replace A66 : Ary Z h66 o66 k66 (.object "com/example/upmob/upmob/Operator") 6 (lst [.null, .null, .null, .null, .null, .null] .null) := A66.congr (own_rep 6)
    have O66 := ((Old.start Z)).ext E66
    have F66 := OwnF.ext O66.2 F0
    show Go p e below _ (T66.setTop (mkF m 5 #[.val (.int i0), .unset, .unset, .unset, .unset, .unset, .unset] [(.ref o66)]))
    refine s_dup B X66 (pc' := 6) at_5 rfl rfl ?_
    refine s_iconst B X66 (pc' := 7) (v := (0 : Int32)) at_6 rfl rfl ?_
    obtain ⟨S_EQUAL, E_EQUAL, S_NOT_EQUAL, E_NOT_EQUAL, S_LESS, E_LESS, S_LESS_OR_EQUAL, E_LESS_OR_EQUAL, S_GREATER, E_GREATER, S_GREATER_OR_EQUAL, E_GREATER_OR_EQUAL, F_EQUAL_ordinal, F_LESS_OR_EQUAL_ordinal, F_NOT_EQUAL_ordinal, F_LESS_ordinal, F_GREATER_OR_EQUAL_ordinal, F_GREATER_ordinal⟩ := id F66
    refine s_getS B X66 (pc' := 10) e66 (tw2 hw) Via.refl S_EQUAL at_7 rfl (fun T67 X67 e67 => ?_)
    refine s_stR B X67 (pc' := 11) (jn := 0) e67 A66 rfl (Ary.sto A66 V66 (Ins.self E_EQUAL)) (by decide) (by decide) (by decide) at_10 rfl (fun T68 h68 X68 e68 W68 A68 => ?_)
    replace A68 := A68.full (show 0 < 6 by decide) (L' := [(.ref w_EQUAL), .null, .null, .null, .null, .null]) rfl
    have N68 := Fr.snoc X68 (Fr.nil _) ge_o66
    have O68 := (O66).wr W68 ge_o66
    have F68 := OwnF.ext O68.2 F0
    show Go p e below _ (T68.setTop (mkF m 11 #[.val (.int i0), .unset, .unset, .unset, .unset, .unset, .unset] [(.ref o66)]))
    refine s_dup B X68 (pc' := 12) at_11 rfl rfl ?_
    refine s_iconst B X68 (pc' := 13) (v := (1 : Int32)) at_12 rfl rfl ?_
    obtain ⟨S_EQUAL, E_EQUAL, S_NOT_EQUAL, E_NOT_EQUAL, S_LESS, E_LESS, S_LESS_OR_EQUAL, E_LESS_OR_EQUAL, S_GREATER, E_GREATER, S_GREATER_OR_EQUAL, E_GREATER_OR_EQUAL, F_EQUAL_ordinal, F_LESS_OR_EQUAL_ordinal, F_NOT_EQUAL_ordinal, F_LESS_ordinal, F_GREATER_OR_EQUAL_ordinal, F_GREATER_ordinal⟩ := id F68
    refine s_getS B X68 (pc' := 16) e68 (tw6 hw) Via.refl S_NOT_EQUAL at_13 rfl (fun T69 X69 e69 => ?_)
    refine s_stR B X69 (pc' := 17) (jn := 1) e69 A68 rfl (Ary.sto A68 V66 (Ins.self E_NOT_EQUAL)) (by decide) (by decide) (by decide) at_16 rfl (fun T70 h70 X70 e70 W70 A70 => ?_)
    replace A70 := A70.full (show 1 < 6 by decide) (L' := [(.ref w_EQUAL), (.ref w_NOT_EQUAL), .null, .null, .null, .null]) rfl
    have N70 := Fr.snoc X70 N68 ge_o66
    have O70 := (O68).wr W70 ge_o66
    have F70 := OwnF.ext O70.2 F0
    show Go p e below _ (T70.setTop (mkF m 17 #[.val (.int i0), .unset, .unset, .unset, .unset, .unset, .unset] [(.ref o66)]))
    refine s_dup B X70 (pc' := 18) at_17 rfl rfl ?_
    refine s_iconst B X70 (pc' := 19) (v := (2 : Int32)) at_18 rfl rfl ?_
    obtain ⟨S_EQUAL, E_EQUAL, S_NOT_EQUAL, E_NOT_EQUAL, S_LESS, E_LESS, S_LESS_OR_EQUAL, E_LESS_OR_EQUAL, S_GREATER, E_GREATER, S_GREATER_OR_EQUAL, E_GREATER_OR_EQUAL, F_EQUAL_ordinal, F_LESS_OR_EQUAL_ordinal, F_NOT_EQUAL_ordinal, F_LESS_ordinal, F_GREATER_OR_EQUAL_ordinal, F_GREATER_ordinal⟩ := id F70
    refine s_getS B X70 (pc' := 22) e70 (tw8 hw) Via.refl S_LESS at_19 rfl (fun T71 X71 e71 => ?_)
    refine s_stR B X71 (pc' := 23) (jn := 2) e71 A70 rfl (Ary.sto A70 V66 (Ins.self E_LESS)) (by decide) (by decide) (by decide) at_22 rfl (fun T72 h72 X72 e72 W72 A72 => ?_)
    replace A72 := A72.full (show 2 < 6 by decide) (L' := [(.ref w_EQUAL), (.ref w_NOT_EQUAL), (.ref w_LESS), .null, .null, .null]) rfl
    have N72 := Fr.snoc X72 N70 ge_o66
    have O72 := (O70).wr W72 ge_o66
    have F72 := OwnF.ext O72.2 F0
    show Go p e below _ (T72.setTop (mkF m 23 #[.val (.int i0), .unset, .unset, .unset, .unset, .unset, .unset] [(.ref o66)]))
    refine s_dup B X72 (pc' := 24) at_23 rfl rfl ?_
    refine s_iconst B X72 (pc' := 25) (v := (3 : Int32)) at_24 rfl rfl ?_
    obtain ⟨S_EQUAL, E_EQUAL, S_NOT_EQUAL, E_NOT_EQUAL, S_LESS, E_LESS, S_LESS_OR_EQUAL, E_LESS_OR_EQUAL, S_GREATER, E_GREATER, S_GREATER_OR_EQUAL, E_GREATER_OR_EQUAL, F_EQUAL_ordinal, F_LESS_OR_EQUAL_ordinal, F_NOT_EQUAL_ordinal, F_LESS_ordinal, F_GREATER_OR_EQUAL_ordinal, F_GREATER_ordinal⟩ := id F72
    refine s_getS B X72 (pc' := 28) e72 (tw10 hw) Via.refl S_LESS_OR_EQUAL at_25 rfl (fun T73 X73 e73 => ?_)
    refine s_stR B X73 (pc' := 29) (jn := 3) e73 A72 rfl (Ary.sto A72 V66 (Ins.self E_LESS_OR_EQUAL)) (by decide) (by decide) (by decide) at_28 rfl (fun T74 h74 X74 e74 W74 A74 => ?_)
    replace A74 := A74.full (show 3 < 6 by decide) (L' := [(.ref w_EQUAL), (.ref w_NOT_EQUAL), (.ref w_LESS), (.ref w_LESS_OR_EQUAL), .null, .null]) rfl
    have N74 := Fr.snoc X74 N72 ge_o66
    have O74 := (O72).wr W74 ge_o66
    have F74 := OwnF.ext O74.2 F0
    show Go p e below _ (T74.setTop (mkF m 29 #[.val (.int i0), .unset, .unset, .unset, .unset, .unset, .unset] [(.ref o66)]))
    refine s_dup B X74 (pc' := 30) at_29 rfl rfl ?_
    refine s_iconst B X74 (pc' := 31) (v := (4 : Int32)) at_30 rfl rfl ?_
    obtain ⟨S_EQUAL, E_EQUAL, S_NOT_EQUAL, E_NOT_EQUAL, S_LESS, E_LESS, S_LESS_OR_EQUAL, E_LESS_OR_EQUAL, S_GREATER, E_GREATER, S_GREATER_OR_EQUAL, E_GREATER_OR_EQUAL, F_EQUAL_ordinal, F_LESS_OR_EQUAL_ordinal, F_NOT_EQUAL_ordinal, F_LESS_ordinal, F_GREATER_OR_EQUAL_ordinal, F_GREATER_ordinal⟩ := id F74
    refine s_getS B X74 (pc' := 34) e74 (tw12 hw) Via.refl S_GREATER at_31 rfl (fun T75 X75 e75 => ?_)
    refine s_stR B X75 (pc' := 35) (jn := 4) e75 A74 rfl (Ary.sto A74 V66 (Ins.self E_GREATER)) (by decide) (by decide) (by decide) at_34 rfl (fun T76 h76 X76 e76 W76 A76 => ?_)
    replace A76 := A76.full (show 4 < 6 by decide) (L' := [(.ref w_EQUAL), (.ref w_NOT_EQUAL), (.ref w_LESS), (.ref w_LESS_OR_EQUAL), (.ref w_GREATER), .null]) rfl
    have N76 := Fr.snoc X76 N74 ge_o66
    have O76 := (O74).wr W76 ge_o66
    have F76 := OwnF.ext O76.2 F0
    show Go p e below _ (T76.setTop (mkF m 35 #[.val (.int i0), .unset, .unset, .unset, .unset, .unset, .unset] [(.ref o66)]))
    refine s_dup B X76 (pc' := 36) at_35 rfl rfl ?_
    refine s_iconst B X76 (pc' := 37) (v := (5 : Int32)) at_36 rfl rfl ?_
    obtain ⟨S_EQUAL, E_EQUAL, S_NOT_EQUAL, E_NOT_EQUAL, S_LESS, E_LESS, S_LESS_OR_EQUAL, E_LESS_OR_EQUAL, S_GREATER, E_GREATER, S_GREATER_OR_EQUAL, E_GREATER_OR_EQUAL, F_EQUAL_ordinal, F_LESS_OR_EQUAL_ordinal, F_NOT_EQUAL_ordinal, F_LESS_ordinal, F_GREATER_OR_EQUAL_ordinal, F_GREATER_ordinal⟩ := id F76
    refine s_getS B X76 (pc' := 40) e76 (tw14 hw) Via.refl S_GREATER_OR_EQUAL at_37 rfl (fun T77 X77 e77 => ?_)
    refine s_stR B X77 (pc' := 41) (jn := 5) e77 A76 rfl (Ary.sto A76 V66 (Ins.self E_GREATER_OR_EQUAL)) (by decide) (by decide) (by decide) at_40 rfl (fun T78 h78 X78 e78 W78 A78 => ?_)
    replace A78 := A78.full (show 5 < 6 by decide) (L' := [(.ref w_EQUAL), (.ref w_NOT_EQUAL), (.ref w_LESS), (.ref w_LESS_OR_EQUAL), (.ref w_GREATER), (.ref w_GREATER_OR_EQUAL)]) rfl
    have N78 := Fr.snoc X78 N76 ge_o66
    have O78 := (O76).wr W78 ge_o66
    have F78 := OwnF.ext O78.2 F0
    show Go p e below _ (T78.setTop (mkF m 41 #[.val (.int i0), .unset, .unset, .unset, .unset, .unset, .unset] [(.ref o66)]))
    refine s_astoreN B X78 (pc' := 42) (Ls' := #[.val (.int i0), .val (.ref o66), .unset, .unset, .unset, .unset, .unset]) at_41 rfl rfl rfl ?_
    refine s_iloadN B X78 (pc' := 43) at_42 rfl rfl ?_
    refine s_ldc B X78 (pc' := 45) (v := (2147483647 : Int32)) (tw16 hw) at_43 rfl ?_
    refine s_iand B X78 (pc' := 46) (v := (i0 &&& (2147483647 : Int32))) at_45 rfl rfl ?_
    refine s_bipush B X78 (pc' := 48) (v := (6 : Int32)) at_46 rfl rfl ?_
    refine s_irem B X78 (pc' := 49) (v := (4 : Int32)) at_48 (hv1) (by decide) rfl ?_
    refine s_istoreN B X78 (pc' := 50) (Ls' := #[.val (.int i0), .val (.ref o66), .val (.int (4 : Int32)), .unset, .unset, .unset, .unset]) at_49 rfl rfl ?_
    refine s_aloadN B X78 (pc' := 51) at_50 rfl rfl rfl ?_
    refine s_iloadN B X78 (pc' := 52) at_51 rfl rfl ?_
    refine s_ldR B X78 (pc' := 53) (jn := 4) (v := (.ref w_GREATER)) e78 A78 rfl (by decide) (by decide) (by decide) rfl at_52 rfl ?_
    refine s_astoreN B X78 (pc' := 54) (Ls' := #[.val (.int i0), .val (.ref o66), .val (.int (4 : Int32)), .val (.ref w_GREATER), .unset, .unset, .unset]) at_53 rfl rfl rfl ?_
    refine s_aloadN B X78 (pc' := 55) at_54 rfl rfl rfl ?_
    obtain ⟨S_EQUAL, E_EQUAL, S_NOT_EQUAL, E_NOT_EQUAL, S_LESS, E_LESS, S_LESS_OR_EQUAL, E_LESS_OR_EQUAL, S_GREATER, E_GREATER, S_GREATER_OR_EQUAL, E_GREATER_OR_EQUAL, F_EQUAL_ordinal, F_LESS_OR_EQUAL_ordinal, F_NOT_EQUAL_ordinal, F_LESS_ordinal, F_GREATER_OR_EQUAL_ordinal, F_GREATER_ordinal⟩ := id F78
    refine p_virtual B X78 (y := mn0) (pc' := 58) (argsL := []) (under := []) (W := 0) e78 (tw17 hw) (tw18 hw) (tw20 hw) (tw19 hw) (tw21 hw) (tw3 hw) (by decide) (rm1_16 l Z a0 hw  w_EQUAL w_NOT_EQUAL w_LESS w_LESS_OR_EQUAL w_GREATER w_GREATER_OR_EQUAL h78 F78 ) E_GREATER (lenOf pd_0 rfl) rfl rfl (by decide) (by decide) rfl rfl (by decide) (by decide) rfl at_55 rfl (fun T79 X79 e79 => ?_)
    show Go p e below _ (T79.setTop (mkF m 58 #[.val (.int i0), .val (.ref o66), .val (.int (4 : Int32)), .val (.ref w_GREATER), .unset, .unset, .unset] [(.int (0 : Int32))]))
    refine s_istore B X79 (pc' := 60) (Ls' := #[.val (.int i0), .val (.ref o66), .val (.int (4 : Int32)), .val (.ref w_GREATER), .val (.int (0 : Int32)), .unset, .unset]) at_58 rfl rfl ?_
    refine s_iloadN B X79 (pc' := 61) at_60 rfl rfl ?_
    refine s_iconst B X79 (pc' := 62) (v := (2 : Int32)) at_61 rfl rfl ?_
    refine s_icmpY B X79 (pc' := 69) at_62 (by decide) (by decide) (by decide) ?_
    refine s_iconst B X79 (pc' := 70) (v := (0 : Int32)) at_69 rfl rfl ?_
    refine s_istore B X79 (pc' := 72) (Ls' := #[.val (.int i0), .val (.ref o66), .val (.int (4 : Int32)), .val (.ref w_GREATER), .val (.int (0 : Int32)), .val (.int (0 : Int32)), .unset]) at_70 rfl rfl ?_
    refine s_aloadN B X79 (pc' := 73) at_72 rfl rfl rfl ?_
    refine s_iconst B X79 (pc' := 74) (v := (1 : Int32)) at_73 rfl rfl ?_
    refine p_virtual B X79 (y := mn3) (pc' := 77) (argsL := [(.int (1 : Int32))]) (under := []) (W := 0) e79 (tw23 hw) (tw24 hw) (tw26 hw) (tw25 hw) (tw27 hw) (tw3 hw) (by decide) (rm2_17 l Z a0 hw  w_EQUAL w_NOT_EQUAL w_LESS w_LESS_OR_EQUAL w_GREATER w_GREATER_OR_EQUAL h78 F78 ) E_GREATER (lenOf pd_2 rfl) rfl rfl (by decide) (by decide) rfl rfl (by decide) (by decide) rfl at_74 rfl (fun T80 X80 e80 => ?_)
    show Go p e below _ (T80.setTop (mkF m 77 #[.val (.int i0), .val (.ref o66), .val (.int (4 : Int32)), .val (.ref w_GREATER), .val (.int (0 : Int32)), .val (.int (0 : Int32)), .unset] [(.int (1 : Int32))]))
    refine s_aloadN B X80 (pc' := 78) at_77 rfl rfl rfl ?_
    refine s_iconst B X80 (pc' := 79) (v := (-1 : Int32)) at_78 rfl rfl ?_
    refine p_virtual B X80 (y := mn3) (pc' := 82) (argsL := [(.int (-1 : Int32))]) (under := [(.int (1 : Int32))]) (W := 1) e80 (tw23 hw) (tw24 hw) (tw26 hw) (tw25 hw) (tw27 hw) (tw3 hw) (by decide) (rm2_19 l Z a0 hw  w_EQUAL w_NOT_EQUAL w_LESS w_LESS_OR_EQUAL w_GREATER w_GREATER_OR_EQUAL h78 F78 ) E_GREATER (lenOf pd_2 rfl) rfl rfl (by decide) (by decide) rfl rfl (by decide) (by decide) rfl at_79 rfl (fun T81 X81 e81 => ?_)
    show Go p e below _ (T81.setTop (mkF m 82 #[.val (.int i0), .val (.ref o66), .val (.int (4 : Int32)), .val (.ref w_GREATER), .val (.int (0 : Int32)), .val (.int (0 : Int32)), .unset] [(.int (0 : Int32)), (.int (1 : Int32))]))
    refine s_icmpY B X81 (pc' := 89) at_82 (by decide) (by decide) (by decide) ?_
    refine s_iconst B X81 (pc' := 90) (v := (0 : Int32)) at_89 rfl rfl ?_
    refine s_istore B X81 (pc' := 92) (Ls' := #[.val (.int i0), .val (.ref o66), .val (.int (4 : Int32)), .val (.ref w_GREATER), .val (.int (0 : Int32)), .val (.int (0 : Int32)), .val (.int (0 : Int32))]) at_90 rfl rfl ?_
    refine s_iload B X81 (pc' := 94) at_92 rfl rfl ?_
    refine s_iload B X81 (pc' := 96) at_94 rfl rfl ?_
    refine s_icmpN B X81 (pc' := 99) at_96 (by decide) rfl ?_
    refine s_iload B X81 (pc' := 101) at_99 rfl rfl ?_
    refine s_iload B X81 (pc' := 103) at_101 rfl rfl ?_
    refine s_icmpN B X81 (pc' := 106) at_103 (by decide) rfl ?_
    refine s_iconst B X81 (pc' := 107) (v := (1 : Int32)) at_106 rfl rfl ?_
    refine s_goto B X81 (pc' := 111) at_107 (by decide) (by decide) ?_
    exact r_nar B X81 (t := .boolean) (by simp) rfl at_111 ⟨rfl, N78⟩ (by decide) (by decide)
  · refine s_bipush B X0 (pc' := 2) (v := (6 : Int32)) at_0 rfl rfl ?_
    refine s_newR B X0 (pc' := 5) (N := 6) (cap := 6) e0 (tw0 hw) (tw1 hw) (by decide) (by decide) (by decide) (by decide) (by decide) (by decide) at_2 rfl (fun T82 h82 o82 k82 g82 X82 e82 E82 A82 V82 => ?_)
    have ge_o82 : Z.heap.size ≤ o82 := g82 ▸ old_le (Old.start Z)
    replace A82 : Ary Z h82 o82 k82 (.object "com/example/upmob/upmob/Operator") 6 (lst [.null, .null, .null, .null, .null, .null] .null) := A82.congr (own_rep 6)
    have O82 := ((Old.start Z)).ext E82
    have F82 := OwnF.ext O82.2 F0
    show Go p e below _ (T82.setTop (mkF m 5 #[.val (.int i0), .unset, .unset, .unset, .unset, .unset, .unset] [(.ref o82)]))
    refine s_dup B X82 (pc' := 6) at_5 rfl rfl ?_
    refine s_iconst B X82 (pc' := 7) (v := (0 : Int32)) at_6 rfl rfl ?_
    obtain ⟨S_EQUAL, E_EQUAL, S_NOT_EQUAL, E_NOT_EQUAL, S_LESS, E_LESS, S_LESS_OR_EQUAL, E_LESS_OR_EQUAL, S_GREATER, E_GREATER, S_GREATER_OR_EQUAL, E_GREATER_OR_EQUAL, F_EQUAL_ordinal, F_LESS_OR_EQUAL_ordinal, F_NOT_EQUAL_ordinal, F_LESS_ordinal, F_GREATER_OR_EQUAL_ordinal, F_GREATER_ordinal⟩ := id F82
    refine s_getS B X82 (pc' := 10) e82 (tw2 hw) Via.refl S_EQUAL at_7 rfl (fun T83 X83 e83 => ?_)
    refine s_stR B X83 (pc' := 11) (jn := 0) e83 A82 rfl (Ary.sto A82 V82 (Ins.self E_EQUAL)) (by decide) (by decide) (by decide) at_10 rfl (fun T84 h84 X84 e84 W84 A84 => ?_)
    replace A84 := A84.full (show 0 < 6 by decide) (L' := [(.ref w_EQUAL), .null, .null, .null, .null, .null]) rfl
    have N84 := Fr.snoc X84 (Fr.nil _) ge_o82
    have O84 := (O82).wr W84 ge_o82
    have F84 := OwnF.ext O84.2 F0
    show Go p e below _ (T84.setTop (mkF m 11 #[.val (.int i0), .unset, .unset, .unset, .unset, .unset, .unset] [(.ref o82)]))
    refine s_dup B X84 (pc' := 12) at_11 rfl rfl ?_
    refine s_iconst B X84 (pc' := 13) (v := (1 : Int32)) at_12 rfl rfl ?_
    obtain ⟨S_EQUAL, E_EQUAL, S_NOT_EQUAL, E_NOT_EQUAL, S_LESS, E_LESS, S_LESS_OR_EQUAL, E_LESS_OR_EQUAL, S_GREATER, E_GREATER, S_GREATER_OR_EQUAL, E_GREATER_OR_EQUAL, F_EQUAL_ordinal, F_LESS_OR_EQUAL_ordinal, F_NOT_EQUAL_ordinal, F_LESS_ordinal, F_GREATER_OR_EQUAL_ordinal, F_GREATER_ordinal⟩ := id F84
    refine s_getS B X84 (pc' := 16) e84 (tw6 hw) Via.refl S_NOT_EQUAL at_13 rfl (fun T85 X85 e85 => ?_)
    refine s_stR B X85 (pc' := 17) (jn := 1) e85 A84 rfl (Ary.sto A84 V82 (Ins.self E_NOT_EQUAL)) (by decide) (by decide) (by decide) at_16 rfl (fun T86 h86 X86 e86 W86 A86 => ?_)
    replace A86 := A86.full (show 1 < 6 by decide) (L' := [(.ref w_EQUAL), (.ref w_NOT_EQUAL), .null, .null, .null, .null]) rfl
    have N86 := Fr.snoc X86 N84 ge_o82
    have O86 := (O84).wr W86 ge_o82
    have F86 := OwnF.ext O86.2 F0
    show Go p e below _ (T86.setTop (mkF m 17 #[.val (.int i0), .unset, .unset, .unset, .unset, .unset, .unset] [(.ref o82)]))
    refine s_dup B X86 (pc' := 18) at_17 rfl rfl ?_
    refine s_iconst B X86 (pc' := 19) (v := (2 : Int32)) at_18 rfl rfl ?_
    obtain ⟨S_EQUAL, E_EQUAL, S_NOT_EQUAL, E_NOT_EQUAL, S_LESS, E_LESS, S_LESS_OR_EQUAL, E_LESS_OR_EQUAL, S_GREATER, E_GREATER, S_GREATER_OR_EQUAL, E_GREATER_OR_EQUAL, F_EQUAL_ordinal, F_LESS_OR_EQUAL_ordinal, F_NOT_EQUAL_ordinal, F_LESS_ordinal, F_GREATER_OR_EQUAL_ordinal, F_GREATER_ordinal⟩ := id F86
    refine s_getS B X86 (pc' := 22) e86 (tw8 hw) Via.refl S_LESS at_19 rfl (fun T87 X87 e87 => ?_)
    refine s_stR B X87 (pc' := 23) (jn := 2) e87 A86 rfl (Ary.sto A86 V82 (Ins.self E_LESS)) (by decide) (by decide) (by decide) at_22 rfl (fun T88 h88 X88 e88 W88 A88 => ?_)
    replace A88 := A88.full (show 2 < 6 by decide) (L' := [(.ref w_EQUAL), (.ref w_NOT_EQUAL), (.ref w_LESS), .null, .null, .null]) rfl
    have N88 := Fr.snoc X88 N86 ge_o82
    have O88 := (O86).wr W88 ge_o82
    have F88 := OwnF.ext O88.2 F0
    show Go p e below _ (T88.setTop (mkF m 23 #[.val (.int i0), .unset, .unset, .unset, .unset, .unset, .unset] [(.ref o82)]))
    refine s_dup B X88 (pc' := 24) at_23 rfl rfl ?_
    refine s_iconst B X88 (pc' := 25) (v := (3 : Int32)) at_24 rfl rfl ?_
    obtain ⟨S_EQUAL, E_EQUAL, S_NOT_EQUAL, E_NOT_EQUAL, S_LESS, E_LESS, S_LESS_OR_EQUAL, E_LESS_OR_EQUAL, S_GREATER, E_GREATER, S_GREATER_OR_EQUAL, E_GREATER_OR_EQUAL, F_EQUAL_ordinal, F_LESS_OR_EQUAL_ordinal, F_NOT_EQUAL_ordinal, F_LESS_ordinal, F_GREATER_OR_EQUAL_ordinal, F_GREATER_ordinal⟩ := id F88
    refine s_getS B X88 (pc' := 28) e88 (tw10 hw) Via.refl S_LESS_OR_EQUAL at_25 rfl (fun T89 X89 e89 => ?_)
    refine s_stR B X89 (pc' := 29) (jn := 3) e89 A88 rfl (Ary.sto A88 V82 (Ins.self E_LESS_OR_EQUAL)) (by decide) (by decide) (by decide) at_28 rfl (fun T90 h90 X90 e90 W90 A90 => ?_)
    replace A90 := A90.full (show 3 < 6 by decide) (L' := [(.ref w_EQUAL), (.ref w_NOT_EQUAL), (.ref w_LESS), (.ref w_LESS_OR_EQUAL), .null, .null]) rfl
    have N90 := Fr.snoc X90 N88 ge_o82
    have O90 := (O88).wr W90 ge_o82
    have F90 := OwnF.ext O90.2 F0
    show Go p e below _ (T90.setTop (mkF m 29 #[.val (.int i0), .unset, .unset, .unset, .unset, .unset, .unset] [(.ref o82)]))
    refine s_dup B X90 (pc' := 30) at_29 rfl rfl ?_
    refine s_iconst B X90 (pc' := 31) (v := (4 : Int32)) at_30 rfl rfl ?_
    obtain ⟨S_EQUAL, E_EQUAL, S_NOT_EQUAL, E_NOT_EQUAL, S_LESS, E_LESS, S_LESS_OR_EQUAL, E_LESS_OR_EQUAL, S_GREATER, E_GREATER, S_GREATER_OR_EQUAL, E_GREATER_OR_EQUAL, F_EQUAL_ordinal, F_LESS_OR_EQUAL_ordinal, F_NOT_EQUAL_ordinal, F_LESS_ordinal, F_GREATER_OR_EQUAL_ordinal, F_GREATER_ordinal⟩ := id F90
    refine s_getS B X90 (pc' := 34) e90 (tw12 hw) Via.refl S_GREATER at_31 rfl (fun T91 X91 e91 => ?_)
    refine s_stR B X91 (pc' := 35) (jn := 4) e91 A90 rfl (Ary.sto A90 V82 (Ins.self E_GREATER)) (by decide) (by decide) (by decide) at_34 rfl (fun T92 h92 X92 e92 W92 A92 => ?_)
    replace A92 := A92.full (show 4 < 6 by decide) (L' := [(.ref w_EQUAL), (.ref w_NOT_EQUAL), (.ref w_LESS), (.ref w_LESS_OR_EQUAL), (.ref w_GREATER), .null]) rfl
    have N92 := Fr.snoc X92 N90 ge_o82
    have O92 := (O90).wr W92 ge_o82
    have F92 := OwnF.ext O92.2 F0
    show Go p e below _ (T92.setTop (mkF m 35 #[.val (.int i0), .unset, .unset, .unset, .unset, .unset, .unset] [(.ref o82)]))
    refine s_dup B X92 (pc' := 36) at_35 rfl rfl ?_
    refine s_iconst B X92 (pc' := 37) (v := (5 : Int32)) at_36 rfl rfl ?_
    obtain ⟨S_EQUAL, E_EQUAL, S_NOT_EQUAL, E_NOT_EQUAL, S_LESS, E_LESS, S_LESS_OR_EQUAL, E_LESS_OR_EQUAL, S_GREATER, E_GREATER, S_GREATER_OR_EQUAL, E_GREATER_OR_EQUAL, F_EQUAL_ordinal, F_LESS_OR_EQUAL_ordinal, F_NOT_EQUAL_ordinal, F_LESS_ordinal, F_GREATER_OR_EQUAL_ordinal, F_GREATER_ordinal⟩ := id F92
    refine s_getS B X92 (pc' := 40) e92 (tw14 hw) Via.refl S_GREATER_OR_EQUAL at_37 rfl (fun T93 X93 e93 => ?_)
    refine s_stR B X93 (pc' := 41) (jn := 5) e93 A92 rfl (Ary.sto A92 V82 (Ins.self E_GREATER_OR_EQUAL)) (by decide) (by decide) (by decide) at_40 rfl (fun T94 h94 X94 e94 W94 A94 => ?_)
    replace A94 := A94.full (show 5 < 6 by decide) (L' := [(.ref w_EQUAL), (.ref w_NOT_EQUAL), (.ref w_LESS), (.ref w_LESS_OR_EQUAL), (.ref w_GREATER), (.ref w_GREATER_OR_EQUAL)]) rfl
    have N94 := Fr.snoc X94 N92 ge_o82
    have O94 := (O92).wr W94 ge_o82
    have F94 := OwnF.ext O94.2 F0
    show Go p e below _ (T94.setTop (mkF m 41 #[.val (.int i0), .unset, .unset, .unset, .unset, .unset, .unset] [(.ref o82)]))
    refine s_astoreN B X94 (pc' := 42) (Ls' := #[.val (.int i0), .val (.ref o82), .unset, .unset, .unset, .unset, .unset]) at_41 rfl rfl rfl ?_
    refine s_iloadN B X94 (pc' := 43) at_42 rfl rfl ?_
    refine s_ldc B X94 (pc' := 45) (v := (2147483647 : Int32)) (tw16 hw) at_43 rfl ?_
    refine s_iand B X94 (pc' := 46) (v := (i0 &&& (2147483647 : Int32))) at_45 rfl rfl ?_
    refine s_bipush B X94 (pc' := 48) (v := (6 : Int32)) at_46 rfl rfl ?_
    refine s_irem B X94 (pc' := 49) (v := (5 : Int32)) at_48 (hv1) (by decide) rfl ?_
    refine s_istoreN B X94 (pc' := 50) (Ls' := #[.val (.int i0), .val (.ref o82), .val (.int (5 : Int32)), .unset, .unset, .unset, .unset]) at_49 rfl rfl ?_
    refine s_aloadN B X94 (pc' := 51) at_50 rfl rfl rfl ?_
    refine s_iloadN B X94 (pc' := 52) at_51 rfl rfl ?_
    refine s_ldR B X94 (pc' := 53) (jn := 5) (v := (.ref w_GREATER_OR_EQUAL)) e94 A94 rfl (by decide) (by decide) (by decide) rfl at_52 rfl ?_
    refine s_astoreN B X94 (pc' := 54) (Ls' := #[.val (.int i0), .val (.ref o82), .val (.int (5 : Int32)), .val (.ref w_GREATER_OR_EQUAL), .unset, .unset, .unset]) at_53 rfl rfl rfl ?_
    refine s_aloadN B X94 (pc' := 55) at_54 rfl rfl rfl ?_
    obtain ⟨S_EQUAL, E_EQUAL, S_NOT_EQUAL, E_NOT_EQUAL, S_LESS, E_LESS, S_LESS_OR_EQUAL, E_LESS_OR_EQUAL, S_GREATER, E_GREATER, S_GREATER_OR_EQUAL, E_GREATER_OR_EQUAL, F_EQUAL_ordinal, F_LESS_OR_EQUAL_ordinal, F_NOT_EQUAL_ordinal, F_LESS_ordinal, F_GREATER_OR_EQUAL_ordinal, F_GREATER_ordinal⟩ := id F94
    refine p_virtual B X94 (y := mn0) (pc' := 58) (argsL := []) (under := []) (W := 0) e94 (tw17 hw) (tw18 hw) (tw20 hw) (tw19 hw) (tw21 hw) (tw3 hw) (by decide) (rm1_20 l Z a0 hw  w_EQUAL w_NOT_EQUAL w_LESS w_LESS_OR_EQUAL w_GREATER w_GREATER_OR_EQUAL h94 F94 ) E_GREATER_OR_EQUAL (lenOf pd_0 rfl) rfl rfl (by decide) (by decide) rfl rfl (by decide) (by decide) rfl at_55 rfl (fun T95 X95 e95 => ?_)
    show Go p e below _ (T95.setTop (mkF m 58 #[.val (.int i0), .val (.ref o82), .val (.int (5 : Int32)), .val (.ref w_GREATER_OR_EQUAL), .unset, .unset, .unset] [(.int (0 : Int32))]))
    refine s_istore B X95 (pc' := 60) (Ls' := #[.val (.int i0), .val (.ref o82), .val (.int (5 : Int32)), .val (.ref w_GREATER_OR_EQUAL), .val (.int (0 : Int32)), .unset, .unset]) at_58 rfl rfl ?_
    refine s_iloadN B X95 (pc' := 61) at_60 rfl rfl ?_
    refine s_iconst B X95 (pc' := 62) (v := (2 : Int32)) at_61 rfl rfl ?_
    refine s_icmpY B X95 (pc' := 69) at_62 (by decide) (by decide) (by decide) ?_
    refine s_iconst B X95 (pc' := 70) (v := (0 : Int32)) at_69 rfl rfl ?_
    refine s_istore B X95 (pc' := 72) (Ls' := #[.val (.int i0), .val (.ref o82), .val (.int (5 : Int32)), .val (.ref w_GREATER_OR_EQUAL), .val (.int (0 : Int32)), .val (.int (0 : Int32)), .unset]) at_70 rfl rfl ?_
    refine s_aloadN B X95 (pc' := 73) at_72 rfl rfl rfl ?_
    refine s_iconst B X95 (pc' := 74) (v := (1 : Int32)) at_73 rfl rfl ?_
    refine p_virtual B X95 (y := mn3) (pc' := 77) (argsL := [(.int (1 : Int32))]) (under := []) (W := 0) e95 (tw23 hw) (tw24 hw) (tw26 hw) (tw25 hw) (tw27 hw) (tw3 hw) (by decide) (rm2_21 l Z a0 hw  w_EQUAL w_NOT_EQUAL w_LESS w_LESS_OR_EQUAL w_GREATER w_GREATER_OR_EQUAL h94 F94 ) E_GREATER_OR_EQUAL (lenOf pd_2 rfl) rfl rfl (by decide) (by decide) rfl rfl (by decide) (by decide) rfl at_74 rfl (fun T96 X96 e96 => ?_)
    show Go p e below _ (T96.setTop (mkF m 77 #[.val (.int i0), .val (.ref o82), .val (.int (5 : Int32)), .val (.ref w_GREATER_OR_EQUAL), .val (.int (0 : Int32)), .val (.int (0 : Int32)), .unset] [(.int (1 : Int32))]))
    refine s_aloadN B X96 (pc' := 78) at_77 rfl rfl rfl ?_
    refine s_iconst B X96 (pc' := 79) (v := (-1 : Int32)) at_78 rfl rfl ?_
    refine p_virtual B X96 (y := mn3) (pc' := 82) (argsL := [(.int (-1 : Int32))]) (under := [(.int (1 : Int32))]) (W := 1) e96 (tw23 hw) (tw24 hw) (tw26 hw) (tw25 hw) (tw27 hw) (tw3 hw) (by decide) (rm2_23 l Z a0 hw  w_EQUAL w_NOT_EQUAL w_LESS w_LESS_OR_EQUAL w_GREATER w_GREATER_OR_EQUAL h94 F94 ) E_GREATER_OR_EQUAL (lenOf pd_2 rfl) rfl rfl (by decide) (by decide) rfl rfl (by decide) (by decide) rfl at_79 rfl (fun T97 X97 e97 => ?_)
    show Go p e below _ (T97.setTop (mkF m 82 #[.val (.int i0), .val (.ref o82), .val (.int (5 : Int32)), .val (.ref w_GREATER_OR_EQUAL), .val (.int (0 : Int32)), .val (.int (0 : Int32)), .unset] [(.int (0 : Int32)), (.int (1 : Int32))]))
    refine s_icmpY B X97 (pc' := 89) at_82 (by decide) (by decide) (by decide) ?_
    refine s_iconst B X97 (pc' := 90) (v := (0 : Int32)) at_89 rfl rfl ?_
    refine s_istore B X97 (pc' := 92) (Ls' := #[.val (.int i0), .val (.ref o82), .val (.int (5 : Int32)), .val (.ref w_GREATER_OR_EQUAL), .val (.int (0 : Int32)), .val (.int (0 : Int32)), .val (.int (0 : Int32))]) at_90 rfl rfl ?_
    refine s_iload B X97 (pc' := 94) at_92 rfl rfl ?_
    refine s_iload B X97 (pc' := 96) at_94 rfl rfl ?_
    refine s_icmpN B X97 (pc' := 99) at_96 (by decide) rfl ?_
    refine s_iload B X97 (pc' := 101) at_99 rfl rfl ?_
    refine s_iload B X97 (pc' := 103) at_101 rfl rfl ?_
    refine s_icmpN B X97 (pc' := 106) at_103 (by decide) rfl ?_
    refine s_iconst B X97 (pc' := 107) (v := (1 : Int32)) at_106 rfl rfl ?_
    refine s_goto B X97 (pc' := 111) at_107 (by decide) (by decide) ?_
    exact r_nar B X97 (t := .boolean) (by simp) rfl at_111 ⟨rfl, N94⟩ (by decide) (by decide)
set_option maxRecDepth 65536 in
set_option maxHeartbeats 40000000 in
theorem comes_1 {Post : Tables → Env → Array Value → State → Outcome → State → Prop} (hpost : ∀ tb e args s v u, (limb_1_1.after args s (.returned v) u = true ∧ limb_1_2.after args s (.returned v) u = true ∧ True) → FrameEnd s (.returned v) u (Jvm.fieldLocs frame_1_writes args s ++ Jvm.arrayLocs frame_1_arrays args s ++ Jvm.staticLocs frame_1_statics s) 16 128 → Post tb e args s (.returned v) u) :
    ArmFor flags0 classFile x code maxLocals ret World_1 tables_1 room_1 Calls_1 rest_1 Pre_1 Post := by
  intro l hfl _ _ p e ha hc hk s m args below hf hA hF happ hP
  obtain ⟨hcalls, hrest, hpre⟩ := hP
  obtain ⟨-, -, -, hnamed, -, -, -, hat⟩ := (Spec.applies_iff hf).mp happ
  obtain ⟨hg, hn⟩ := and_e (Cond.before_iff.mp (show (Jvm.Cond.and given_1 narrow_1).before args s = true from hpre))
  obtain ⟨h1, hg⟩ := and_e hg
  obtain ⟨w0, rfl⟩ : ∃ w0 : Value, args = #[w0] := by
    have hs : args.size = 1 := by simpa [Cond.value, given_1] using h1
    obtain ⟨L⟩ := args
    match L, hs with
    | [w0], _ => exact ⟨w0, rfl⟩
  have hw := fun d (hd : d ∈ tables_1) => atoms_spec (ws := Jvm.Cond.code x code maxLocals ret :: tables_1) hat d (List.mem_cons_of_mem _ hd)
  have hfit : Fit s := fun {y c} hc i hi => by
    obtain ⟨ha, rfl⟩ := Array.getElem?_eq_some_iff.mp hc
    have q := List.all_eq_true.mp ((Array.all_eq_true_iff_forall_mem.mp hF) _ (Array.getElem_mem ha)) i (List.mem_range.mpr hi)
    simpa [Array.getElem?_eq_getElem hi] using q
  have hg0 := hg
  obtain ⟨i0, ei0⟩ := is_v hg0
  obtain rfl : w0 = (.int i0) := Option.some.inj ei0
  obtain ⟨hn0, hn⟩ := and_e hn
  obtain ⟨hn1, hn⟩ := and_e hn
  obtain ⟨hn2, hn⟩ := and_e hn
  obtain ⟨hn3, hn⟩ := and_e hn
  obtain ⟨hn4, hn⟩ := and_e hn
  obtain ⟨hn5, hn⟩ := and_e hn
  obtain ⟨hn6, hn⟩ := and_e hn
  obtain ⟨hn7, hn⟩ := and_e hn
  obtain ⟨hn8, hn⟩ := and_e hn
  obtain ⟨hn9, hn⟩ := and_e hn
  obtain ⟨hn10, hn⟩ := and_e hn
  have hn11 := hn
  obtain ⟨w_EQUAL, v_EQUAL⟩ := exa_v hn0
  have S_EQUAL := Sta.start v_EQUAL (Or.inr ⟨(tw3 hw), (tw4 hw)⟩)
  have E_EQUAL := Exa.start v_EQUAL hn0
  obtain ⟨w_NOT_EQUAL, v_NOT_EQUAL⟩ := exa_v hn1
  have S_NOT_EQUAL := Sta.start v_NOT_EQUAL (Or.inr ⟨(tw3 hw), (tw7 hw)⟩)
  have E_NOT_EQUAL := Exa.start v_NOT_EQUAL hn1
  obtain ⟨w_LESS, v_LESS⟩ := exa_v hn2
  have S_LESS := Sta.start v_LESS (Or.inr ⟨(tw3 hw), (tw9 hw)⟩)
  have E_LESS := Exa.start v_LESS hn2
  obtain ⟨w_LESS_OR_EQUAL, v_LESS_OR_EQUAL⟩ := exa_v hn3
  have S_LESS_OR_EQUAL := Sta.start v_LESS_OR_EQUAL (Or.inr ⟨(tw3 hw), (tw11 hw)⟩)
  have E_LESS_OR_EQUAL := Exa.start v_LESS_OR_EQUAL hn3
  obtain ⟨w_GREATER, v_GREATER⟩ := exa_v hn4
  have S_GREATER := Sta.start v_GREATER (Or.inr ⟨(tw3 hw), (tw13 hw)⟩)
  have E_GREATER := Exa.start v_GREATER hn4
  obtain ⟨w_GREATER_OR_EQUAL, v_GREATER_OR_EQUAL⟩ := exa_v hn5
  have S_GREATER_OR_EQUAL := Sta.start v_GREATER_OR_EQUAL (Or.inr ⟨(tw3 hw), (tw15 hw)⟩)
  have E_GREATER_OR_EQUAL := Exa.start v_GREATER_OR_EQUAL hn5
  have F_EQUAL_ordinal := Fld.start ((fld_at v_EQUAL).symm.trans (eqI_v hn6))
  have F_LESS_OR_EQUAL_ordinal := Fld.start ((fld_at v_LESS_OR_EQUAL).symm.trans (eqI_v hn7))
  have F_NOT_EQUAL_ordinal := Fld.start ((fld_at v_NOT_EQUAL).symm.trans (eqI_v hn8))
  have F_LESS_ordinal := Fld.start ((fld_at v_LESS).symm.trans (eqI_v hn9))
  have F_GREATER_OR_EQUAL_ordinal := Fld.start ((fld_at v_GREATER_OR_EQUAL).symm.trans (eqI_v hn10))
  have F_GREATER_ordinal := Fld.start ((fld_at v_GREATER).symm.trans (eqI_v hn11))
  obtain ⟨n, o, h1, h2, h3, _, L, rfl, ⟨rfl, N⟩, hq⟩ := rm_law l s _ hw i0 w_EQUAL w_NOT_EQUAL w_LESS w_LESS_OR_EQUAL w_GREATER w_GREATER_OR_EQUAL ⟨S_EQUAL, E_EQUAL, S_NOT_EQUAL, E_NOT_EQUAL, S_LESS, E_LESS, S_LESS_OR_EQUAL, E_LESS_OR_EQUAL, S_GREATER, E_GREATER, S_GREATER_OR_EQUAL, E_GREATER_OR_EQUAL, F_EQUAL_ordinal, F_LESS_OR_EQUAL_ordinal, F_NOT_EQUAL_ordinal, F_LESS_ordinal, F_GREATER_OR_EQUAL_ordinal, F_GREATER_ordinal⟩ p e ha hc hk s m _ below hf ((Spec.applies_iff_loose hf).mp happ).1 ⟨rfl, State.Warmed39.refl s, rfl⟩ trivial
  refine ⟨n, _, h1, h2, h3, hpost _ _ _ _ _ _ ⟨Cond.after_iff.mpr rfl, Cond.after_iff.mpr (eq_i res_at (Term.int_eval (1)) rfl), trivial⟩ ⟨hq.1, hq.2.1, (hq.2.2.sift fun y hy => Or.inr (N y hy)).mono (by decide) (by decide)⟩⟩
theorem main_1_1 : Claimed_1_1 := comes_1 fun _ _ _ _ _ _ h hF => ⟨h.1, hF⟩
theorem main_1_2 : Claimed_1_2 := comes_1 fun _ _ _ _ _ _ h hF => ⟨h.2.1, hF⟩
end Jvm.Pilot.@@N@@
namespace Jvm.Pilot.@@N@@
open Jvm Jvm.ClassFile Sem Op Lib Jvm.Free Jvm.Stand Jvm.Pilot.@@N@@.Jvm.D
/-! MADE BY PROGRAM (witnessworld.py) out of the Statement's table words and the real class files: 13 classes; the members and pool entries that the words name. The judged class is class 1, her method 1. -/
namespace start1
open Jvm.ClassFile
def u (s : String) : CpInfo := .utf8 (stringToUtf16 s)
/-- a pool by its gaps: so many unusable entries, then the entry; so many at the end -/
def gap : Nat → List CpInfo → List CpInfo
  | 0, r => r
  | n + 1, r => .unusable :: gap n r
def poolList (es : List (Nat × CpInfo)) (last : Nat) : List CpInfo := es.foldr (fun e r => gap e.1 (e.2 :: r)) (gap last [])
def pool (es : List (Nat × CpInfo)) (last : Nat) : Array CpInfo := ⟨poolList es last⟩
def fileOf (pool : Array CpInfo) (this : Nat) (attrs : Array Attribute := #[]) (ms : Array MethodInfo := #[]) (fl : Nat := 33) (sup : Nat := 0) (ifs : Array Nat := #[]) (fds : Array FieldInfo := #[]) : ClassFile where
  minorVersion := 0
  majorVersion := 65
  constantPool := pool
  accessFlags := fl
  thisClass := this
  superClass := sup
  interfaces := ifs
  fields := fds
  methods := ms
  attributes := attrs
def plain (name : String) (sup : Option ClassId) : Class where
  name := name
  kind := .ordinary
  loader := none
  accessFlags := 33
  super := sup
  interfaces := #[]
  cf := none
  fields := #[]
  methods := #[]
  instanceTypes := #[]
  staticTypes := #[]
  resolved := #[]
  callSites := []
  init := .initialized
  statics := none
  mirror := none

def pool0 : Array CpInfo := pool [(5, u "<init>"), (0, u "()V"), (1, .class_ 10), (1, u "java/lang/Object")] 113

def k0m0 : Method := { name := "<init>", desc := "()V", sig := { parameters := [], returnType := none }, accessFlags := 1, code := none }
/-- java/lang/Object -/
def k0 : Class := { plain "java/lang/Object" none with
  accessFlags := 33
  interfaces := #[]
  cf := some (fileOf pool0 8 #[] #[{ accessFlags := 1, nameIndex := 5, descriptorIndex := 6, attributes := #[] }] 33 0 #[] #[])
  fields := #[]
  methods := #[k0m0]
  instanceTypes := #[]
  staticTypes := #[]
  resolved := Array.replicate 124 none
  statics := none }

def pool1 : Array CpInfo := pool [(2, .class_ 4), (1, u "java/lang/Object"), (0, u "<init>"), (0, u "()V"), (0, .class_ 8), (0, u "com/example/upmob/upmob/Operator"), (0, .fieldref 7 10), (0, .nameAndType 11 12), (0, u "EQUAL"), (0, u "Lcom/example/upmob/upmob/Operator;"), (0, .fieldref 7 14), (0, .nameAndType 15 12), (0, u "NOT_EQUAL"), (0, .fieldref 7 17), (0, .nameAndType 18 12), (0, u "LESS"), (0, .fieldref 7 20), (0, .nameAndType 21 12), (0, u "LESS_OR_EQUAL"), (0, .fieldref 7 23), (0, .nameAndType 24 12), (0, u "GREATER"), (0, .fieldref 7 26), (0, .nameAndType 27 12), (0, u "GREATER_OR_EQUAL"), (0, .integer 2147483647), (0, .methodref 7 30), (0, .nameAndType 31 32), (0, u "isEquality"), (0, u "()Z"), (0, .methodref 7 34), (0, .nameAndType 35 36), (0, u "holds"), (0, u "(I)Z"), (0, .class_ 38), (0, u "com/example/upmob/upmob/OperatorIsEqualityPinLaw"), (2, u "law")] 5

def k1m0 : Method := { name := "<init>", desc := "()V", sig := { parameters := [], returnType := none }, accessFlags := 1, code := none }
def k1c1 : Code := { maxStack := 4, maxLocals := 7, code := code, exceptionTable := #[], attributes := #[] }
def k1m1 : Method := { name := "law", desc := "(I)Z", sig := { parameters := [.int], returnType := some .boolean }, accessFlags := 9, code := some k1c1 }
/-- com/example/upmob/upmob/OperatorIsEqualityPinLaw -/
def k1 : Class := { plain "com/example/upmob/upmob/OperatorIsEqualityPinLaw" (some 0) with
  accessFlags := 49
  interfaces := #[]
  cf := some (fileOf pool1 37 #[] #[{ accessFlags := 1, nameIndex := 5, descriptorIndex := 6, attributes := #[] }, { accessFlags := 9, nameIndex := 41, descriptorIndex := 36, attributes := #[] }] 49 2 #[] #[])
  fields := #[]
  methods := #[k1m0, k1m1]
  instanceTypes := #[]
  staticTypes := #[]
  resolved := Array.replicate 47 none
  statics := none }

def pool2 : Array CpInfo := pool [(1, .class_ 2), (0, u "java/lang/constant/Constable"), (0, .class_ 4), (0, u "java/lang/Object")] 6

/-- java/lang/constant/Constable -/
def k2 : Class := { plain "java/lang/constant/Constable" (some 0) with
  accessFlags := 1537
  interfaces := #[]
  cf := some (fileOf pool2 1 #[] #[] 1537 3 #[] #[])
  fields := #[]
  methods := #[]
  instanceTypes := #[]
  staticTypes := #[]
  resolved := Array.replicate 11 none
  statics := none }

def pool3 : Array CpInfo := pool [(1, .class_ 2), (0, u "java/lang/Comparable"), (0, .class_ 4), (0, u "java/lang/Object")] 7

/-- java/lang/Comparable -/
def k3 : Class := { plain "java/lang/Comparable" (some 0) with
  accessFlags := 1537
  interfaces := #[]
  cf := some (fileOf pool3 1 #[] #[] 1537 3 #[] #[])
  fields := #[]
  methods := #[]
  instanceTypes := #[]
  staticTypes := #[]
  resolved := Array.replicate 12 none
  statics := none }

def pool4 : Array CpInfo := pool [(1, .class_ 2), (0, u "java/io/Serializable"), (0, .class_ 4), (0, u "java/lang/Object")] 2

/-- java/io/Serializable -/
def k4 : Class := { plain "java/io/Serializable" (some 0) with
  accessFlags := 1537
  interfaces := #[]
  cf := some (fileOf pool4 1 #[] #[] 1537 3 #[] #[])
  fields := #[]
  methods := #[]
  instanceTypes := #[]
  staticTypes := #[]
  resolved := Array.replicate 7 none
  statics := none }

def pool5 : Array CpInfo := pool [(2, .class_ 4), (1, u "java/lang/Enum"), (0, u "name"), (0, u "Ljava/lang/String;"), (0, .fieldref 2 8), (0, .nameAndType 9 10), (0, u "ordinal"), (0, u "I"), (1, .class_ 14), (1, u "java/lang/Object"), (4, u "hash"), (86, .class_ 108), (1, u "java/lang/Enum$EnumDesc"), (2, .class_ 112), (0, u "java/lang/constant/Constable"), (0, .class_ 114), (0, u "java/lang/Comparable"), (0, .class_ 116), (0, u "java/io/Serializable"), (9, u "()I")] 77

def k5c0 : Code := { maxStack := 1, maxLocals := 1, code := jdk_37_method_2_code, exceptionTable := #[], attributes := #[] }
def k5m0 : Method := { name := "ordinal", desc := "()I", sig := { parameters := [], returnType := some .int }, accessFlags := 17, code := some k5c0 }
/-- java/lang/Enum -/
def k5 : Class := { plain "java/lang/Enum" (some 0) with
  accessFlags := 1057
  interfaces := #[2, 3, 4]
  cf := some (fileOf pool5 2 #[.nestMembers #[106]] #[{ accessFlags := 17, nameIndex := 9, descriptorIndex := 126, attributes := #[] }] 1057 12 #[111, 113, 115] #[{ accessFlags := 18, nameIndex := 5, descriptorIndex := 6, attributes := #[] }, { accessFlags := 18, nameIndex := 9, descriptorIndex := 10, attributes := #[] }, { accessFlags := 2, nameIndex := 19, descriptorIndex := 10, attributes := #[] }])
  fields := #[{ name := "name", type := (.object "java/lang/String"), accessFlags := 18, slot := 0, constantValue := 0 }, { name := "ordinal", type := .int, accessFlags := 18, slot := 1, constantValue := 0 }, { name := "hash", type := .int, accessFlags := 2, slot := 2, constantValue := 0 }]
  methods := #[k5m0]
  instanceTypes := #[(.object "java/lang/String"), .int, .int]
  staticTypes := #[]
  resolved := Array.replicate 204 none
  statics := none }

def pool6 : Array CpInfo := pool [(1, .class_ 2), (0, u "com/example/upmob/upmob/Operator"), (0, .fieldref 1 4), (0, .nameAndType 5 6), (0, u "EQUAL"), (0, u "Lcom/example/upmob/upmob/Operator;"), (0, .fieldref 1 8), (0, .nameAndType 9 6), (0, u "NOT_EQUAL"), (2, u "LESS"), (2, u "LESS_OR_EQUAL"), (2, u "GREATER"), (2, u "GREATER_OR_EQUAL"), (2, u "$VALUES"), (0, u "[Lcom/example/upmob/upmob/Operator;"), (6, .class_ 34), (1, u "java/lang/Enum"), (8, u "symbol"), (0, u "Ljava/lang/String;"), (0, .methodref 1 46), (0, .nameAndType 47 48), (0, u "ordinal"), (0, u "()I"), (49, u "holds"), (0, u "(I)Z"), (1, u "isEquality"), (0, u "()Z")] 7

def k6c0 : Code := { maxStack := 4, maxLocals := 3, code := prog_23_method_5_code, exceptionTable := #[], attributes := #[] }
def k6m0 : Method := { name := "holds", desc := "(I)Z", sig := { parameters := [.int], returnType := some .boolean }, accessFlags := 0, code := some k6c0 }
def k6c1 : Code := { maxStack := 2, maxLocals := 1, code := prog_23_method_6_code, exceptionTable := #[], attributes := #[] }
def k6m1 : Method := { name := "isEquality", desc := "()Z", sig := { parameters := [], returnType := some .boolean }, accessFlags := 0, code := some k6c1 }
/-- com/example/upmob/upmob/Operator -/
def k6 : Class := { plain "com/example/upmob/upmob/Operator" (some 5) with
  accessFlags := 16432
  interfaces := #[]
  cf := some (fileOf pool6 1 #[] #[{ accessFlags := 0, nameIndex := 98, descriptorIndex := 99, attributes := #[] }, { accessFlags := 0, nameIndex := 101, descriptorIndex := 102, attributes := #[] }] 16432 32 #[] #[{ accessFlags := 16409, nameIndex := 5, descriptorIndex := 6, attributes := #[] }, { accessFlags := 16409, nameIndex := 9, descriptorIndex := 6, attributes := #[] }, { accessFlags := 16409, nameIndex := 12, descriptorIndex := 6, attributes := #[] }, { accessFlags := 16409, nameIndex := 15, descriptorIndex := 6, attributes := #[] }, { accessFlags := 16409, nameIndex := 18, descriptorIndex := 6, attributes := #[] }, { accessFlags := 16409, nameIndex := 21, descriptorIndex := 6, attributes := #[] }, { accessFlags := 18, nameIndex := 43, descriptorIndex := 44, attributes := #[] }, { accessFlags := 4122, nameIndex := 24, descriptorIndex := 25, attributes := #[] }])
  fields := #[{ name := "EQUAL", type := (.object "com/example/upmob/upmob/Operator"), accessFlags := 16409, slot := 0, constantValue := 0 }, { name := "NOT_EQUAL", type := (.object "com/example/upmob/upmob/Operator"), accessFlags := 16409, slot := 1, constantValue := 0 }, { name := "LESS", type := (.object "com/example/upmob/upmob/Operator"), accessFlags := 16409, slot := 2, constantValue := 0 }, { name := "LESS_OR_EQUAL", type := (.object "com/example/upmob/upmob/Operator"), accessFlags := 16409, slot := 3, constantValue := 0 }, { name := "GREATER", type := (.object "com/example/upmob/upmob/Operator"), accessFlags := 16409, slot := 4, constantValue := 0 }, { name := "GREATER_OR_EQUAL", type := (.object "com/example/upmob/upmob/Operator"), accessFlags := 16409, slot := 5, constantValue := 0 }, { name := "symbol", type := (.object "java/lang/String"), accessFlags := 18, slot := 3, constantValue := 0 }, { name := "$VALUES", type := (.array (.object "com/example/upmob/upmob/Operator")), accessFlags := 4122, slot := 6, constantValue := 0 }]
  methods := #[k6m0, k6m1]
  instanceTypes := #[(.object "java/lang/String"), .int, .int, (.object "java/lang/String")]
  staticTypes := #[(.object "com/example/upmob/upmob/Operator"), (.object "com/example/upmob/upmob/Operator"), (.object "com/example/upmob/upmob/Operator"), (.object "com/example/upmob/upmob/Operator"), (.object "com/example/upmob/upmob/Operator"), (.object "com/example/upmob/upmob/Operator"), (.array (.object "com/example/upmob/upmob/Operator"))]
  resolved := Array.replicate 110 none
  statics := some 0 }

def pool7 : Array CpInfo := pool [(1, u "java/lang/Cloneable"), (0, .class_ 1), (0, u "java/lang/Object"), (0, .class_ 3)] 3

/-- java/lang/Cloneable -/
def k7 : Class := { plain "java/lang/Cloneable" (some 0) with
  accessFlags := 1537
  interfaces := #[]
  cf := some (fileOf pool7 2 #[] #[] 1537 4 #[] #[])
  fields := #[]
  methods := #[]
  instanceTypes := #[]
  staticTypes := #[]
  resolved := Array.replicate 8 none
  statics := none }

/-- the primitive byte -/
def k8 : Class := { plain "byte" none with kind := .primitive 'B', accessFlags := 0x411 }
/-- [B -/
def k9 : Class := { plain "[B" (some 0) with kind := .array 8 .byte, interfaces := #[7, 4], accessFlags := 1041 }

/-- the primitive int -/
def k10 : Class := { plain "int" none with kind := .primitive 'I', accessFlags := 0x411 }
/-- [I -/
def k11 : Class := { plain "[I" (some 0) with kind := .array 10 .int, interfaces := #[7, 4], accessFlags := 1041 }

/-- [Lcom/example/upmob/upmob/Operator; -/
def k12 : Class := { plain "[Lcom/example/upmob/upmob/Operator;" (some 0) with kind := .array 6 (.object "com/example/upmob/upmob/Operator"), interfaces := #[7, 4], accessFlags := 1041 }

def heap : Heap := #[{ cls := 6, slots := #[.ref 1, .ref 2, .ref 3, .ref 4, .ref 5, .ref 6, .null], vm := .statics 6 },
  { cls := 6, slots := #[.null, .int 0, .int 0, .null], vm := .none },
  { cls := 6, slots := #[.null, .int 1, .int 0, .null], vm := .none },
  { cls := 6, slots := #[.null, .int 2, .int 0, .null], vm := .none },
  { cls := 6, slots := #[.null, .int 3, .int 0, .null], vm := .none },
  { cls := 6, slots := #[.null, .int 4, .int 0, .null], vm := .none },
  { cls := 6, slots := #[.null, .int 5, .int 0, .null], vm := .none }]
def classes : Array Class := #[k0, k1, k2, k3, k4, k5, k6, k7, k8, k9, k10, k11, k12]
def interned : List (Array UInt16 × Addr) := []
def slotsUsed : Nat := 31
def theMethod : MethodId := ⟨1, 1⟩
def args0 : Array Value := #[.int 5]
def aboutOver (below : List Frame) : State where
  vm := { classes := classes, interned := interned.toArray }
  heap := heap
  slotsUsed := slotsUsed
  threads := #[{ frames := .invoking theMethod args0 :: below }]
def below0 : List Frame := [.native { method := ⟨0, 0⟩, args := #[] }]
def about1 : State := aboutOver below0
def p0 : Program := .bare "" "" ""
def e0 : Env := launch0.env 0 0 0
theorem w_frames : about1.frames = Frame.invoking theMethod args0 :: below0 := rfl
set_option maxRecDepth 65536 in
theorem w_args : argsFit about1.vm theMethod args0 = true := by decide +kernel
set_option maxRecDepth 65536 in
theorem w_heap : heapFits about1 = true := by decide +kernel
set_option maxRecDepth 65536 in
theorem w_runnable : about1.curStatus? = some .runnable := by decide +kernel
set_option maxRecDepth 65536 in
theorem w_alone : about1.alone = true := by decide +kernel
set_option maxRecDepth 65536 in
theorem w_named : about1.methodNamed? x = some theMethod := by decide +kernel
set_option maxRecDepth 65536 in
theorem w_hears : about1.hears theMethod below0 = true := by decide +kernel
set_option maxRecDepth 65536 in
theorem w_ripe : about1.ripe theMethod args0 below0 = true := by decide +kernel
theorem w_running : about1.status = .running := rfl
set_option maxRecDepth 65536 in
theorem w_room : about1.hasRoom e0.platform room_1 = true :=
  launch0.hasRoom_least _ room_1 (by decide +kernel) (by decide +kernel) (by decide +kernel) (by decide +kernel) (by decide +kernel) (by decide +kernel)
theorem allAtoms_all (ts : List Jvm.Cond) (a : Array Jvm.Value) (st : Jvm.State) : (allAtoms ts).before a st = ts.all (fun c => c.before a st) := by
  induction ts with
  | nil => rfl
  | cons c t ih =>
    show (Jvm.Cond.and c (allAtoms t)).before a st = _
    rw [Jvm.Cond.before_and, ih, List.all_cons]
def words1 : List Jvm.Cond := Jvm.Cond.code x code maxLocals ret :: tables_1
/-- a 'code' word, met by the world's own term for the bytes: nothing is compared byte by byte -/
theorem code_word {y : MethodName} {bytes : ByteArray} {mx : Nat} {rt : Option FieldType} {a : Array Value} {s : State} {m : MethodId} {meth : Method} {c : Code} (h1 : s.methodNamed? y = some m) (h2 : s.vm.method? m = some meth) (h3 : meth.code = some c) (h4 : c.code = bytes)
    (h5 : (c.maxLocals == mx && c.exceptionTable.isEmpty && decide (c.maxStack ≤ mostOperands) && decide (meth.sig.returnType = rt) && !meth.locks && decide (parseMethodDescriptor y.desc = some meth.sig)) = true) : (Jvm.Cond.code y bytes mx rt).before a s = true := by
  simp only [Bool.and_eq_true, beq_iff_eq, Bool.not_eq_true', decide_eq_true_eq] at h5
  obtain ⟨⟨⟨⟨⟨g1, g2⟩, g3⟩, g4⟩, g5⟩, g6⟩ := h5
  simp [Cond.before, Cond.holds, Cond.value, h1, h2, h3, h4, g1, g2, g3, g4, g5, g6]
def isCode : Jvm.Cond → Bool
  | .code _ _ _ _ => true
  | _ => false
theorem all_split {L : List Jvm.Cond} {P : Jvm.Cond → Bool} (h1 : L.all (fun c => isCode c || P c) = true) (h2 : ∀ c ∈ L.filter isCode, P c = true) : L.all P = true := by
  refine List.all_eq_true.mpr fun c hc => ?_
  have h := List.all_eq_true.mp h1 c hc
  rcases Bool.eq_false_or_eq_true (isCode c) with hi | hi
  · exact h2 c (List.mem_filter.mpr ⟨hc, hi⟩)
  · simpa [hi] using h
set_option maxRecDepth 65536 in
theorem w_c0 : (Jvm.Cond.code x code maxLocals ret).before args0 about1 = true := code_word (m := ⟨1, 1⟩) (meth := k1m1) (c := k1c1) (by decide +kernel) rfl rfl rfl (by decide +kernel)
set_option maxRecDepth 65536 in
theorem w_c1 : (Jvm.Cond.code ({ cls := "com/example/upmob/upmob/Operator", name := "isEquality", desc := "()Z" } : Jvm.MethodName) prog_23_method_6_code (1 : Nat) (Option.some Jvm.ClassFile.FieldType.boolean)).before args0 about1 = true := code_word (m := ⟨6, 1⟩) (meth := k6m1) (c := k6c1) (by decide +kernel) rfl rfl rfl (by decide +kernel)
set_option maxRecDepth 65536 in
theorem w_c2 : (Jvm.Cond.code ({ cls := "com/example/upmob/upmob/Operator", name := "holds", desc := "(I)Z" } : Jvm.MethodName) prog_23_method_5_code (3 : Nat) (Option.some Jvm.ClassFile.FieldType.boolean)).before args0 about1 = true := code_word (m := ⟨6, 0⟩) (meth := k6m0) (c := k6c0) (by decide +kernel) rfl rfl rfl (by decide +kernel)
set_option maxRecDepth 65536 in
theorem w_c3 : (Jvm.Cond.code ({ cls := "java/lang/Enum", name := "ordinal", desc := "()I" } : Jvm.MethodName) jdk_37_method_2_code (1 : Nat) (Option.some Jvm.ClassFile.FieldType.int)).before args0 about1 = true := code_word (m := ⟨5, 0⟩) (meth := k5m0) (c := k5c0) (by decide +kernel) rfl rfl rfl (by decide +kernel)
def codes1 : List Jvm.Cond := [Jvm.Cond.code x code maxLocals ret, Jvm.Cond.code ({ cls := "com/example/upmob/upmob/Operator", name := "isEquality", desc := "()Z" } : Jvm.MethodName) prog_23_method_6_code (1 : Nat) (Option.some Jvm.ClassFile.FieldType.boolean), Jvm.Cond.code ({ cls := "com/example/upmob/upmob/Operator", name := "holds", desc := "(I)Z" } : Jvm.MethodName) prog_23_method_5_code (3 : Nat) (Option.some Jvm.ClassFile.FieldType.boolean), Jvm.Cond.code ({ cls := "java/lang/Enum", name := "ordinal", desc := "()I" } : Jvm.MethodName) jdk_37_method_2_code (1 : Nat) (Option.some Jvm.ClassFile.FieldType.int)]
set_option maxRecDepth 65536 in
theorem codes_eq : words1.filter isCode = codes1 := rfl
theorem w_codes : ∀ c ∈ words1.filter isCode, c.before args0 about1 = true := by
  rw [codes_eq]
  intro c hc
  simp only [codes1, List.mem_cons, List.not_mem_nil, or_false] at hc
  rcases hc with rfl | rfl | rfl | rfl
  · exact w_c0
  · exact w_c1
  · exact w_c2
  · exact w_c3
set_option maxRecDepth 65536 in
theorem w_t1 : (words1.take 24).all (fun c => isCode c || c.before args0 about1) = true := by decide +kernel
set_option maxRecDepth 65536 in
theorem w_t2 : (words1.drop 24).all (fun c => isCode c || c.before args0 about1) = true := by decide +kernel
theorem w_tables : (allAtoms (Jvm.Cond.code x code maxLocals ret :: tables_1)).before args0 about1 = true := by
  rw [allAtoms_all]
  show words1.all (fun c => c.before args0 about1) = true
  refine all_split ?_ w_codes
  rw [← List.take_append_drop 24 words1, List.all_append, w_t1, w_t2]
  rfl
set_option maxRecDepth 65536 in
theorem w_case : (Jvm.Cond.and given_1 narrow_1).before args0 about1 = true := by decide +kernel
theorem w_applies : (headSpec (Jvm.Cond.code x code maxLocals ret :: tables_1) room_1).applies x e0.platform about1 = true :=
  (Spec.applies_iff w_frames).mpr ⟨w_running, w_runnable, w_alone, w_named, w_hears, w_ripe, w_room, w_tables⟩
theorem atStart : AtStart classFile x code maxLocals ret World_1 tables_1 room_1 Calls_1 rest_1 Pre_1 launch0 p0 e0 about1 theMethod args0 below0 :=
  ⟨lists_1, trivial, launch0.admits_env _ _ _, launch0.least_env, fairChoices_fair.cas, fairChoices_fair.clock, w_frames, w_args, w_heap, w_applies, trivial, trivial, w_case⟩
end start1
theorem witness_1 : WitnessClaimed_1 := ⟨start1.p0, start1.e0, start1.about1, start1.theMethod, start1.args0, start1.below0, start1.atStart⟩
end Jvm.Pilot.@@N@@
