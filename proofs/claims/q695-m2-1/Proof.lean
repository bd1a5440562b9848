import JvmDerived
import JvmDerived.Pilot.@@N@@Statement
import JvmDerived.Pilot.@@N@@Code
set_option linter.unusedVariables false
set_option linter.unusedSimpArgs false

namespace Jvm.OwnKit
open Sem ClassFile Op Lib Jvm.Stand Jvm.Free Jvm.LawKit Jvm.RoadKit
section Kit
variable {p : Program} {l : Launch} {e : Env} {R : Room} {s : State} {m : MethodId} {args : Array Value} {below : List Frame} {meth : Method} {c : Code} {T : State} {locs : List Loc} {cells slots : Nat} {Z : State} {a0 : Array Value} {h : Heap} {own nm : String} {bytes : ByteArray} {maxL : Nat} {ret : Option FieldType} {P : Outcome → State → Prop} {pc pc' : Nat} {Ls Ls' : Array Slot} {rest : List Value}
/-- from here the run ends, and P holds of its end -/
def Go (p : Program) (e : Env) (below : List Frame) (P : Outcome → State → Prop) (T0 : State) : Prop := ∃ t o, Steps p.tables e below T0 t ∧ t.status = .running ∧ Ended t below o ∧ P o t
theorem Go.on {T1 T2 : State} (st : ∀ t, Steps p.tables e below T2 t → Steps p.tables e below T1 t) (k : Go p e below P T2) : Go p e below P T1 := by
  obtain ⟨t, o, h1, h2⟩ := k; exact ⟨t, o, st t h1, h2⟩
/-- what a walk knows of the method that it walks -/
def Ctx (p : Program) (s : State) (m : MethodId) (meth : Method) (c : Code) (Z : State) (own nm : String) (bytes : ByteArray) (maxL : Nat) (ret : Option FieldType) : Prop :=
  p.tables.exec = Jvm.exec ∧ c.code = bytes ∧ c.maxLocals = maxL ∧ s.vm.findClass own = some m.cls ∧ meth.name = nm ∧ meth.sig.returnType = ret ∧ meth.locks = false ∧ Z.Warmed39 s.vm
/-- what a body's end says -/
def Ends (s : State) (Q : Option Value → Heap → List Loc → Prop) (k n : Nat) (o : Outcome) (t : State) : Prop := ∃ v L, o = .returned v ∧ Q v t.heap L ∧ FrameEnd s o t L k n
/-- a contract: called with the arguments 'as' at the heap h0 it returns as Q says -/
abbrev OMeets (l : Launch) (Z : State) (y : MethodName) (bytes : ByteArray) (maxL : Nat) (ret : Option FieldType) (ws : List Jvm.Cond) (rm : Room) (as : Array Value) (h0 : Heap) (Q : Option Value → Heap → List Loc → Prop) : Prop :=
  MetFree l y (head1 (Jvm.Cond.code y bytes maxL ret :: ws) rm) (fun a U => a = as ∧ Z.Warmed39 U.vm ∧ U.heap = h0) (fun _ _ _ _ _ => True) (fun _ U o U' => ∃ v L, o = .returned v ∧ Q v U'.heap L ∧ FrameEnd U o U' L rm.cells rm.slots)
/-- it returns r, writes nothing and makes nothing -/
def PureQ (r : Option Value) (h0 : Heap) (v : Option Value) (h : Heap) (L : List Loc) : Prop := v = r ∧ L = [] ∧ h = h0
theorem OMeets.of {y : MethodName} {ws : List Jvm.Cond} {rm : Room} {as : Array Value} {h0 : Heap} {Q : Option Value → Heap → List Loc → Prop} (hpn : plainName y.cls = true) (ls : Array Slot) (hent : ∀ m, entryFrame m as maxL = mkF m 0 ls [])
    (body : ∀ p e s m below meth c s₁, Ctx p s m meth c Z y.cls y.name bytes maxL ret → Stand p l e rm s m as below meth c s₁ [] 0 0 → s₁.heap = h0 → Go p e below (Ends s Q rm.cells rm.slots) (s₁.setTop (mkF m 0 ls []))) : OMeets l Z y bytes maxL ret ws rm as h0 Q := by
  refine MetFree.of_bodySF (plainFor_of_name hpn) hisR ?_
  intro p e s m args below meth c s₁ Bd hml0 hP hK
  obtain ⟨rfl, hZ, hh⟩ := hP
  have e0 : s₁.heap = h0 := by rw [← hh, Bd.state]; rfl
  have X0 := Stand.of_body Bd
  have B : Ctx p s m meth c Z y.cls y.name bytes maxL ret := ⟨Bd.exec, Bd.bytes, hml0, findClass_of_methodNamed Bd.named, (name_of_methodNamed Bd.named Bd.method).1, Bd.returns, Bd.notSynchronized, hZ⟩
  obtain ⟨t, o, h1, h2, h3, h4⟩ := body p e s m below meth c s₁ B X0 e0
  exact ⟨t, o, castTop (hent m) h1, h2, h3, h4⟩
/-! the single steps -/

theorem s_iloadN (B : Ctx p s m meth c Z own nm bytes maxL ret) (X : Stand p l e R s m args below meth c T locs cells slots) {k0 : Fin 4} {v : Int32} (hd : decode bytes pc = .ok (.iload_n k0, 1)) (hl : Ls[k0.val]? = some (.val (.int v))) (hp : pc + 1 = pc') (k : Go p e below P (T.setTop (mkF m pc' Ls (.int v :: rest)))) : Go p e below P (T.setTop (mkF m pc Ls (rest))) := by
  subst hp; exact Go.on (fun t => XS.iloadN X.here B.1 rfl (hb B.2.1 hd) hl) k
theorem s_iload (B : Ctx p s m meth c Z own nm bytes maxL ret) (X : Stand p l e R s m args below meth c T locs cells slots) {k0 : Nat} {v : Int32} (hd : decode bytes pc = .ok (.iload k0, 2)) (hl : Ls[k0]? = some (.val (.int v))) (hp : pc + 2 = pc') (k : Go p e below P (T.setTop (mkF m pc' Ls (.int v :: rest)))) : Go p e below P (T.setTop (mkF m pc Ls (rest))) := by
  subst hp; exact Go.on (fun t => XS.iload X.here B.1 rfl (hb B.2.1 hd) hl) k
theorem s_istoreN (B : Ctx p s m meth c Z own nm bytes maxL ret) (X : Stand p l e R s m args below meth c T locs cells slots) {k0 : Fin 4} {v : Int32} (hd : decode bytes pc = .ok (.istore_n k0, 1)) (hl : storeLocals Ls k0.val (.int v) = some Ls') (hp : pc + 1 = pc') (k : Go p e below P (T.setTop (mkF m pc' Ls' (rest)))) : Go p e below P (T.setTop (mkF m pc Ls (.int v :: rest))) := by
  subst hp; exact Go.on (fun t => XS.istoreN X.here B.1 rfl (hb B.2.1 hd) rfl hl) k
theorem s_istore (B : Ctx p s m meth c Z own nm bytes maxL ret) (X : Stand p l e R s m args below meth c T locs cells slots) {k0 : Nat} {v : Int32} (hd : decode bytes pc = .ok (.istore k0, 2)) (hl : storeLocals Ls k0 (.int v) = some Ls') (hp : pc + 2 = pc') (k : Go p e below P (T.setTop (mkF m pc' Ls' (rest)))) : Go p e below P (T.setTop (mkF m pc Ls (.int v :: rest))) := by
  subst hp; exact Go.on (fun t => XS.istore X.here B.1 rfl (hb B.2.1 hd) rfl hl) k
theorem s_lloadN (B : Ctx p s m meth c Z own nm bytes maxL ret) (X : Stand p l e R s m args below meth c T locs cells slots) {k0 : Fin 4} {v : Int64} (hd : decode bytes pc = .ok (.lload_n k0, 1)) (hl : Ls[k0.val]? = some (.val (.long v))) (hp : pc + 1 = pc') (k : Go p e below P (T.setTop (mkF m pc' Ls (.long v :: rest)))) : Go p e below P (T.setTop (mkF m pc Ls (rest))) := by
  subst hp; exact Go.on (fun t => XS.lloadN X.here B.1 rfl (hb B.2.1 hd) hl) k
theorem s_lload (B : Ctx p s m meth c Z own nm bytes maxL ret) (X : Stand p l e R s m args below meth c T locs cells slots) {k0 : Nat} {v : Int64} (hd : decode bytes pc = .ok (.lload k0, 2)) (hl : Ls[k0]? = some (.val (.long v))) (hp : pc + 2 = pc') (k : Go p e below P (T.setTop (mkF m pc' Ls (.long v :: rest)))) : Go p e below P (T.setTop (mkF m pc Ls (rest))) := by
  subst hp; exact Go.on (fun t => XS.lload X.here B.1 rfl (hb B.2.1 hd) hl) k
theorem s_lstoreN (B : Ctx p s m meth c Z own nm bytes maxL ret) (X : Stand p l e R s m args below meth c T locs cells slots) {k0 : Fin 4} {v : Int64} (hd : decode bytes pc = .ok (.lstore_n k0, 1)) (hl : storeLocals Ls k0.val (.long v) = some Ls') (hp : pc + 1 = pc') (k : Go p e below P (T.setTop (mkF m pc' Ls' (rest)))) : Go p e below P (T.setTop (mkF m pc Ls (.long v :: rest))) := by
  subst hp; exact Go.on (fun t => XS.lstoreN X.here B.1 rfl (hb B.2.1 hd) rfl hl) k
theorem s_lstore (B : Ctx p s m meth c Z own nm bytes maxL ret) (X : Stand p l e R s m args below meth c T locs cells slots) {k0 : Nat} {v : Int64} (hd : decode bytes pc = .ok (.lstore k0, 2)) (hl : storeLocals Ls k0 (.long v) = some Ls') (hp : pc + 2 = pc') (k : Go p e below P (T.setTop (mkF m pc' Ls' (rest)))) : Go p e below P (T.setTop (mkF m pc Ls (.long v :: rest))) := by
  subst hp; exact Go.on (fun t => XS.lstore X.here B.1 rfl (hb B.2.1 hd) rfl hl) k
theorem s_aloadN (B : Ctx p s m meth c Z own nm bytes maxL ret) (X : Stand p l e R s m args below meth c T locs cells slots) {k0 : Fin 4} {v : Value} (hd : decode bytes pc = .ok (.aload_n k0, 1)) (hl : Ls[k0.val]? = some (.val v)) (hv : v.isRef = true) (hp : pc + 1 = pc') (k : Go p e below P (T.setTop (mkF m pc' Ls (v :: rest)))) : Go p e below P (T.setTop (mkF m pc Ls (rest))) := by
  subst hp; exact Go.on (fun t => XS.aloadN X.here B.1 rfl (hb B.2.1 hd) hl hv) k
theorem s_aload (B : Ctx p s m meth c Z own nm bytes maxL ret) (X : Stand p l e R s m args below meth c T locs cells slots) {k0 : Nat} {v : Value} (hd : decode bytes pc = .ok (.aload k0, 2)) (hl : Ls[k0]? = some (.val v)) (hv : v.isRef = true) (hp : pc + 2 = pc') (k : Go p e below P (T.setTop (mkF m pc' Ls (v :: rest)))) : Go p e below P (T.setTop (mkF m pc Ls (rest))) := by
  subst hp; exact Go.on (fun t => XS.aload X.here B.1 rfl (hb B.2.1 hd) hl hv) k
theorem s_astoreN (B : Ctx p s m meth c Z own nm bytes maxL ret) (X : Stand p l e R s m args below meth c T locs cells slots) {k0 : Fin 4} {v : Value} (hd : decode bytes pc = .ok (.astore_n k0, 1)) (hv : v.isRef = true) (hl : storeLocals Ls k0.val v = some Ls') (hp : pc + 1 = pc') (k : Go p e below P (T.setTop (mkF m pc' Ls' (rest)))) : Go p e below P (T.setTop (mkF m pc Ls (v :: rest))) := by
  subst hp; exact Go.on (fun t => XS.astoreN X.here B.1 rfl (hb B.2.1 hd) rfl hv hl) k
theorem s_astore (B : Ctx p s m meth c Z own nm bytes maxL ret) (X : Stand p l e R s m args below meth c T locs cells slots) {k0 : Nat} {v : Value} (hd : decode bytes pc = .ok (.astore k0, 2)) (hv : v.isRef = true) (hl : storeLocals Ls k0 v = some Ls') (hp : pc + 2 = pc') (k : Go p e below P (T.setTop (mkF m pc' Ls' (rest)))) : Go p e below P (T.setTop (mkF m pc Ls (v :: rest))) := by
  subst hp; exact Go.on (fun t => XS.astore X.here B.1 rfl (hb B.2.1 hd) rfl hv hl) k
theorem s_iconst (B : Ctx p s m meth c Z own nm bytes maxL ret) (X : Stand p l e R s m args below meth c T locs cells slots) {i : Int} {v : Int32} (hd : decode bytes pc = .ok (.iconst i, 1)) (hv : Int32.ofInt i = v) (hp : pc + 1 = pc') (k : Go p e below P (T.setTop (mkF m pc' Ls (.int v :: rest)))) : Go p e below P (T.setTop (mkF m pc Ls (rest))) := by
  subst hp; subst hv; exact Go.on (fun t => XS.iconst X.here B.1 rfl (hb B.2.1 hd)) k
theorem s_bipush (B : Ctx p s m meth c Z own nm bytes maxL ret) (X : Stand p l e R s m args below meth c T locs cells slots) {i : Int} {v : Int32} (hd : decode bytes pc = .ok (.bipush i, 2)) (hv : (Int8.ofInt i).toInt32 = v) (hp : pc + 2 = pc') (k : Go p e below P (T.setTop (mkF m pc' Ls (.int v :: rest)))) : Go p e below P (T.setTop (mkF m pc Ls (rest))) := by
  subst hp; subst hv; exact Go.on (fun t => XS.bipush X.here B.1 rfl (hb B.2.1 hd)) k
theorem s_sipush (B : Ctx p s m meth c Z own nm bytes maxL ret) (X : Stand p l e R s m args below meth c T locs cells slots) {i : Int} {v : Int32} (hd : decode bytes pc = .ok (.sipush i, 3)) (hv : (Int16.ofInt i).toInt32 = v) (hp : pc + 3 = pc') (k : Go p e below P (T.setTop (mkF m pc' Ls (.int v :: rest)))) : Go p e below P (T.setTop (mkF m pc Ls (rest))) := by
  subst hp; subst hv; exact Go.on (fun t => XS.sipush X.here B.1 rfl (hb B.2.1 hd)) k
theorem s_lconst (B : Ctx p s m meth c Z own nm bytes maxL ret) (X : Stand p l e R s m args below meth c T locs cells slots) {i : Fin 2} {v : Int64} (hd : decode bytes pc = .ok (.lconst i, 1)) (hv : Int64.ofNat i = v) (hp : pc + 1 = pc') (k : Go p e below P (T.setTop (mkF m pc' Ls (.long v :: rest)))) : Go p e below P (T.setTop (mkF m pc Ls (rest))) := by
  subst hp; subst hv; exact Go.on (fun t => XS.lconst X.here B.1 rfl (hb B.2.1 hd)) k
theorem s_aconst_null (B : Ctx p s m meth c Z own nm bytes maxL ret) (X : Stand p l e R s m args below meth c T locs cells slots)  (hd : decode bytes pc = .ok (.aconst_null, 1))  (hp : pc + 1 = pc') (k : Go p e below P (T.setTop (mkF m pc' Ls (.null :: rest)))) : Go p e below P (T.setTop (mkF m pc Ls (rest))) := by
  subst hp; exact Go.on (fun t => XS.aconstNull X.here B.1 rfl (hb B.2.1 hd)) k
theorem s_iadd (B : Ctx p s m meth c Z own nm bytes maxL ret) (X : Stand p l e R s m args below meth c T locs cells slots) {x : Int32} {y : Int32} {v : Int32} (hd : decode bytes pc = .ok (.iadd, 1)) (hv : x + y = v)  (hp : pc + 1 = pc') (k : Go p e below P (T.setTop (mkF m pc' Ls (.int v :: rest)))) : Go p e below P (T.setTop (mkF m pc Ls (.int y :: .int x :: rest))) := by
  subst hp; subst hv; exact Go.on (fun t => XS.iadd X.here B.1 rfl (hb B.2.1 hd) rfl ) k
theorem s_isub (B : Ctx p s m meth c Z own nm bytes maxL ret) (X : Stand p l e R s m args below meth c T locs cells slots) {x : Int32} {y : Int32} {v : Int32} (hd : decode bytes pc = .ok (.isub, 1)) (hv : x - y = v)  (hp : pc + 1 = pc') (k : Go p e below P (T.setTop (mkF m pc' Ls (.int v :: rest)))) : Go p e below P (T.setTop (mkF m pc Ls (.int y :: .int x :: rest))) := by
  subst hp; subst hv; exact Go.on (fun t => XS.isub X.here B.1 rfl (hb B.2.1 hd) rfl ) k
theorem s_imul (B : Ctx p s m meth c Z own nm bytes maxL ret) (X : Stand p l e R s m args below meth c T locs cells slots) {x : Int32} {y : Int32} {v : Int32} (hd : decode bytes pc = .ok (.imul, 1)) (hv : x * y = v)  (hp : pc + 1 = pc') (k : Go p e below P (T.setTop (mkF m pc' Ls (.int v :: rest)))) : Go p e below P (T.setTop (mkF m pc Ls (.int y :: .int x :: rest))) := by
  subst hp; subst hv; exact Go.on (fun t => XS.imul X.here B.1 rfl (hb B.2.1 hd) rfl ) k
theorem s_iand (B : Ctx p s m meth c Z own nm bytes maxL ret) (X : Stand p l e R s m args below meth c T locs cells slots) {x : Int32} {y : Int32} {v : Int32} (hd : decode bytes pc = .ok (.iand, 1)) (hv : x &&& y = v)  (hp : pc + 1 = pc') (k : Go p e below P (T.setTop (mkF m pc' Ls (.int v :: rest)))) : Go p e below P (T.setTop (mkF m pc Ls (.int y :: .int x :: rest))) := by
  subst hp; subst hv; exact Go.on (fun t => XS.iand X.here B.1 rfl (hb B.2.1 hd) rfl ) k
theorem s_ior (B : Ctx p s m meth c Z own nm bytes maxL ret) (X : Stand p l e R s m args below meth c T locs cells slots) {x : Int32} {y : Int32} {v : Int32} (hd : decode bytes pc = .ok (.ior, 1)) (hv : x ||| y = v)  (hp : pc + 1 = pc') (k : Go p e below P (T.setTop (mkF m pc' Ls (.int v :: rest)))) : Go p e below P (T.setTop (mkF m pc Ls (.int y :: .int x :: rest))) := by
  subst hp; subst hv; exact Go.on (fun t => XS.ior X.here B.1 rfl (hb B.2.1 hd) rfl ) k
theorem s_ixor (B : Ctx p s m meth c Z own nm bytes maxL ret) (X : Stand p l e R s m args below meth c T locs cells slots) {x : Int32} {y : Int32} {v : Int32} (hd : decode bytes pc = .ok (.ixor, 1)) (hv : x ^^^ y = v)  (hp : pc + 1 = pc') (k : Go p e below P (T.setTop (mkF m pc' Ls (.int v :: rest)))) : Go p e below P (T.setTop (mkF m pc Ls (.int y :: .int x :: rest))) := by
  subst hp; subst hv; exact Go.on (fun t => XS.ixor X.here B.1 rfl (hb B.2.1 hd) rfl ) k
theorem s_ladd (B : Ctx p s m meth c Z own nm bytes maxL ret) (X : Stand p l e R s m args below meth c T locs cells slots) {x : Int64} {y : Int64} {v : Int64} (hd : decode bytes pc = .ok (.ladd, 1)) (hv : x + y = v)  (hp : pc + 1 = pc') (k : Go p e below P (T.setTop (mkF m pc' Ls (.long v :: rest)))) : Go p e below P (T.setTop (mkF m pc Ls (.long y :: .long x :: rest))) := by
  subst hp; subst hv; exact Go.on (fun t => XS.ladd X.here B.1 rfl (hb B.2.1 hd) rfl ) k
theorem s_lsub (B : Ctx p s m meth c Z own nm bytes maxL ret) (X : Stand p l e R s m args below meth c T locs cells slots) {x : Int64} {y : Int64} {v : Int64} (hd : decode bytes pc = .ok (.lsub, 1)) (hv : x - y = v)  (hp : pc + 1 = pc') (k : Go p e below P (T.setTop (mkF m pc' Ls (.long v :: rest)))) : Go p e below P (T.setTop (mkF m pc Ls (.long y :: .long x :: rest))) := by
  subst hp; subst hv; exact Go.on (fun t => XS.lsub X.here B.1 rfl (hb B.2.1 hd) rfl ) k
theorem s_lmul (B : Ctx p s m meth c Z own nm bytes maxL ret) (X : Stand p l e R s m args below meth c T locs cells slots) {x : Int64} {y : Int64} {v : Int64} (hd : decode bytes pc = .ok (.lmul, 1)) (hv : x * y = v)  (hp : pc + 1 = pc') (k : Go p e below P (T.setTop (mkF m pc' Ls (.long v :: rest)))) : Go p e below P (T.setTop (mkF m pc Ls (.long y :: .long x :: rest))) := by
  subst hp; subst hv; exact Go.on (fun t => XS.lmul X.here B.1 rfl (hb B.2.1 hd) rfl ) k
theorem s_land (B : Ctx p s m meth c Z own nm bytes maxL ret) (X : Stand p l e R s m args below meth c T locs cells slots) {x : Int64} {y : Int64} {v : Int64} (hd : decode bytes pc = .ok (.land, 1)) (hv : x &&& y = v)  (hp : pc + 1 = pc') (k : Go p e below P (T.setTop (mkF m pc' Ls (.long v :: rest)))) : Go p e below P (T.setTop (mkF m pc Ls (.long y :: .long x :: rest))) := by
  subst hp; subst hv; exact Go.on (fun t => XS.land X.here B.1 rfl (hb B.2.1 hd) rfl ) k
theorem s_lor (B : Ctx p s m meth c Z own nm bytes maxL ret) (X : Stand p l e R s m args below meth c T locs cells slots) {x : Int64} {y : Int64} {v : Int64} (hd : decode bytes pc = .ok (.lor, 1)) (hv : x ||| y = v)  (hp : pc + 1 = pc') (k : Go p e below P (T.setTop (mkF m pc' Ls (.long v :: rest)))) : Go p e below P (T.setTop (mkF m pc Ls (.long y :: .long x :: rest))) := by
  subst hp; subst hv; exact Go.on (fun t => XS.lor X.here B.1 rfl (hb B.2.1 hd) rfl ) k
theorem s_lxor (B : Ctx p s m meth c Z own nm bytes maxL ret) (X : Stand p l e R s m args below meth c T locs cells slots) {x : Int64} {y : Int64} {v : Int64} (hd : decode bytes pc = .ok (.lxor, 1)) (hv : x ^^^ y = v)  (hp : pc + 1 = pc') (k : Go p e below P (T.setTop (mkF m pc' Ls (.long v :: rest)))) : Go p e below P (T.setTop (mkF m pc Ls (.long y :: .long x :: rest))) := by
  subst hp; subst hv; exact Go.on (fun t => XS.lxor X.here B.1 rfl (hb B.2.1 hd) rfl ) k
theorem s_idiv (B : Ctx p s m meth c Z own nm bytes maxL ret) (X : Stand p l e R s m args below meth c T locs cells slots) {x : Int32} {y : Int32} {v : Int32} (hd : decode bytes pc = .ok (.idiv, 1)) (hv : x / y = v) (hy : y ≠ 0) (hp : pc + 1 = pc') (k : Go p e below P (T.setTop (mkF m pc' Ls (.int v :: rest)))) : Go p e below P (T.setTop (mkF m pc Ls (.int y :: .int x :: rest))) := by
  subst hp; subst hv; exact Go.on (fun t => XS.idiv X.here B.1 rfl (hb B.2.1 hd) rfl hy) k
theorem s_ldiv (B : Ctx p s m meth c Z own nm bytes maxL ret) (X : Stand p l e R s m args below meth c T locs cells slots) {x : Int64} {y : Int64} {v : Int64} (hd : decode bytes pc = .ok (.ldiv, 1)) (hv : x / y = v) (hy : y ≠ 0) (hp : pc + 1 = pc') (k : Go p e below P (T.setTop (mkF m pc' Ls (.long v :: rest)))) : Go p e below P (T.setTop (mkF m pc Ls (.long y :: .long x :: rest))) := by
  subst hp; subst hv; exact Go.on (fun t => XS.ldiv X.here B.1 rfl (hb B.2.1 hd) rfl hy) k
theorem s_irem (B : Ctx p s m meth c Z own nm bytes maxL ret) (X : Stand p l e R s m args below meth c T locs cells slots) {x y v : Int32} (hd : decode bytes pc = .ok (.irem, 1)) (hv : x % y = v) (hy : y ≠ 0) (hp : pc + 1 = pc') (k : Go p e below P (T.setTop (mkF m pc' Ls (.int v :: rest)))) : Go p e below P (T.setTop (mkF m pc Ls (.int y :: .int x :: rest))) := by
  subst hp; subst hv; exact Go.on (fun t => iremM X B.1 rfl (hb B.2.1 hd) rfl hy) k
theorem s_ishl (B : Ctx p s m meth c Z own nm bytes maxL ret) (X : Stand p l e R s m args below meth c T locs cells slots) {x : Int32} {y : Int32} {v : Int32} (hd : decode bytes pc = .ok (.ishl, 1)) (hv : x <<< (y &&& 31) = v)  (hp : pc + 1 = pc') (k : Go p e below P (T.setTop (mkF m pc' Ls (.int v :: rest)))) : Go p e below P (T.setTop (mkF m pc Ls (.int y :: .int x :: rest))) := by
  subst hp; subst hv; exact Go.on (fun t => XS.ishl X.here B.1 rfl (hb B.2.1 hd) rfl ) k
theorem s_ishr (B : Ctx p s m meth c Z own nm bytes maxL ret) (X : Stand p l e R s m args below meth c T locs cells slots) {x : Int32} {y : Int32} {v : Int32} (hd : decode bytes pc = .ok (.ishr, 1)) (hv : x >>> (y &&& 31) = v)  (hp : pc + 1 = pc') (k : Go p e below P (T.setTop (mkF m pc' Ls (.int v :: rest)))) : Go p e below P (T.setTop (mkF m pc Ls (.int y :: .int x :: rest))) := by
  subst hp; subst hv; exact Go.on (fun t => XS.ishr X.here B.1 rfl (hb B.2.1 hd) rfl ) k
theorem s_iushr (B : Ctx p s m meth c Z own nm bytes maxL ret) (X : Stand p l e R s m args below meth c T locs cells slots) {x : Int32} {y : Int32} {v : Int32} (hd : decode bytes pc = .ok (.iushr, 1)) (hv : (x.toUInt32 >>> (y &&& 31).toUInt32).toInt32 = v)  (hp : pc + 1 = pc') (k : Go p e below P (T.setTop (mkF m pc' Ls (.int v :: rest)))) : Go p e below P (T.setTop (mkF m pc Ls (.int y :: .int x :: rest))) := by
  subst hp; subst hv; exact Go.on (fun t => XS.iushr X.here B.1 rfl (hb B.2.1 hd) rfl ) k
theorem s_lshl (B : Ctx p s m meth c Z own nm bytes maxL ret) (X : Stand p l e R s m args below meth c T locs cells slots) {x : Int64} {y : Int32} {v : Int64} (hd : decode bytes pc = .ok (.lshl, 1)) (hv : x <<< (y &&& 0x3f).toInt64 = v)  (hp : pc + 1 = pc') (k : Go p e below P (T.setTop (mkF m pc' Ls (.long v :: rest)))) : Go p e below P (T.setTop (mkF m pc Ls (.int y :: .long x :: rest))) := by
  subst hp; subst hv; exact Go.on (fun t => XS.lshl X.here B.1 rfl (hb B.2.1 hd) rfl ) k
theorem s_lshr (B : Ctx p s m meth c Z own nm bytes maxL ret) (X : Stand p l e R s m args below meth c T locs cells slots) {x : Int64} {y : Int32} {v : Int64} (hd : decode bytes pc = .ok (.lshr, 1)) (hv : x >>> (y &&& 0x3f).toInt64 = v)  (hp : pc + 1 = pc') (k : Go p e below P (T.setTop (mkF m pc' Ls (.long v :: rest)))) : Go p e below P (T.setTop (mkF m pc Ls (.int y :: .long x :: rest))) := by
  subst hp; subst hv; exact Go.on (fun t => XS.lshr X.here B.1 rfl (hb B.2.1 hd) rfl ) k
theorem s_lushr (B : Ctx p s m meth c Z own nm bytes maxL ret) (X : Stand p l e R s m args below meth c T locs cells slots) {x : Int64} {y : Int32} {v : Int64} (hd : decode bytes pc = .ok (.lushr, 1)) (hv : (x.toUInt64 >>> (y &&& 0x3f).toInt64.toUInt64).toInt64 = v)  (hp : pc + 1 = pc') (k : Go p e below P (T.setTop (mkF m pc' Ls (.long v :: rest)))) : Go p e below P (T.setTop (mkF m pc Ls (.int y :: .long x :: rest))) := by
  subst hp; subst hv; exact Go.on (fun t => XS.lushr X.here B.1 rfl (hb B.2.1 hd) rfl ) k
theorem s_i2b (B : Ctx p s m meth c Z own nm bytes maxL ret) (X : Stand p l e R s m args below meth c T locs cells slots) {x : Int32} {v : Int32} (hd : decode bytes pc = .ok (.i2b, 1)) (hv : x.toInt8.toInt32 = v) (hp : pc + 1 = pc') (k : Go p e below P (T.setTop (mkF m pc' Ls (.int v :: rest)))) : Go p e below P (T.setTop (mkF m pc Ls (.int x :: rest))) := by
  subst hp; subst hv; exact Go.on (fun t => XS.i2b X.here B.1 rfl (hb B.2.1 hd) rfl) k
theorem s_i2c (B : Ctx p s m meth c Z own nm bytes maxL ret) (X : Stand p l e R s m args below meth c T locs cells slots) {x : Int32} {v : Int32} (hd : decode bytes pc = .ok (.i2c, 1)) (hv : x.toUInt32.toUInt16.toUInt32.toInt32 = v) (hp : pc + 1 = pc') (k : Go p e below P (T.setTop (mkF m pc' Ls (.int v :: rest)))) : Go p e below P (T.setTop (mkF m pc Ls (.int x :: rest))) := by
  subst hp; subst hv; exact Go.on (fun t => XS.i2c X.here B.1 rfl (hb B.2.1 hd) rfl) k
theorem s_i2s (B : Ctx p s m meth c Z own nm bytes maxL ret) (X : Stand p l e R s m args below meth c T locs cells slots) {x : Int32} {v : Int32} (hd : decode bytes pc = .ok (.i2s, 1)) (hv : x.toInt16.toInt32 = v) (hp : pc + 1 = pc') (k : Go p e below P (T.setTop (mkF m pc' Ls (.int v :: rest)))) : Go p e below P (T.setTop (mkF m pc Ls (.int x :: rest))) := by
  subst hp; subst hv; exact Go.on (fun t => XS.i2s X.here B.1 rfl (hb B.2.1 hd) rfl) k
theorem s_i2l (B : Ctx p s m meth c Z own nm bytes maxL ret) (X : Stand p l e R s m args below meth c T locs cells slots) {x : Int32} {v : Int64} (hd : decode bytes pc = .ok (.i2l, 1)) (hv : x.toInt64 = v) (hp : pc + 1 = pc') (k : Go p e below P (T.setTop (mkF m pc' Ls (.long v :: rest)))) : Go p e below P (T.setTop (mkF m pc Ls (.int x :: rest))) := by
  subst hp; subst hv; exact Go.on (fun t => XS.i2l X.here B.1 rfl (hb B.2.1 hd) rfl) k
theorem s_l2i (B : Ctx p s m meth c Z own nm bytes maxL ret) (X : Stand p l e R s m args below meth c T locs cells slots) {x : Int64} {v : Int32} (hd : decode bytes pc = .ok (.l2i, 1)) (hv : x.toInt32 = v) (hp : pc + 1 = pc') (k : Go p e below P (T.setTop (mkF m pc' Ls (.int v :: rest)))) : Go p e below P (T.setTop (mkF m pc Ls (.long x :: rest))) := by
  subst hp; subst hv; exact Go.on (fun t => XS.l2i X.here B.1 rfl (hb B.2.1 hd) rfl) k
theorem s_ineg (B : Ctx p s m meth c Z own nm bytes maxL ret) (X : Stand p l e R s m args below meth c T locs cells slots) {x : Int32} {v : Int32} (hd : decode bytes pc = .ok (.ineg, 1)) (hv : -x = v) (hp : pc + 1 = pc') (k : Go p e below P (T.setTop (mkF m pc' Ls (.int v :: rest)))) : Go p e below P (T.setTop (mkF m pc Ls (.int x :: rest))) := by
  subst hp; subst hv; exact Go.on (fun t => XS.ineg X.here B.1 rfl (hb B.2.1 hd) rfl) k
theorem s_lneg (B : Ctx p s m meth c Z own nm bytes maxL ret) (X : Stand p l e R s m args below meth c T locs cells slots) {x : Int64} {v : Int64} (hd : decode bytes pc = .ok (.lneg, 1)) (hv : -x = v) (hp : pc + 1 = pc') (k : Go p e below P (T.setTop (mkF m pc' Ls (.long v :: rest)))) : Go p e below P (T.setTop (mkF m pc Ls (.long x :: rest))) := by
  subst hp; subst hv; exact Go.on (fun t => XS.lneg X.here B.1 rfl (hb B.2.1 hd) rfl) k
theorem s_lcmp (B : Ctx p s m meth c Z own nm bytes maxL ret) (X : Stand p l e R s m args below meth c T locs cells slots) {x y : Int64} (hd : decode bytes pc = .ok (.lcmp, 1))  (hp : pc + 1 = pc') (k : Go p e below P (T.setTop (mkF m pc' Ls (.int (lcmpW x y) :: rest)))) : Go p e below P (T.setTop (mkF m pc Ls (.long y :: .long x :: rest))) := by
  subst hp; exact Go.on (fun t => XS.lcmp X.here B.1 rfl (hb B.2.1 hd) rfl) k
theorem s_dup (B : Ctx p s m meth c Z own nm bytes maxL ret) (X : Stand p l e R s m args below meth c T locs cells slots) {v : Value} (hd : decode bytes pc = .ok (.dup, 1)) (hc : v.category = 1) (hp : pc + 1 = pc') (k : Go p e below P (T.setTop (mkF m pc' Ls (v :: v :: rest)))) : Go p e below P (T.setTop (mkF m pc Ls (v :: rest))) := by
  subst hp; exact Go.on (fun t => XS.dup X.here B.1 rfl (hb B.2.1 hd) rfl hc) k
theorem s_pop (B : Ctx p s m meth c Z own nm bytes maxL ret) (X : Stand p l e R s m args below meth c T locs cells slots) {v : Value} (hd : decode bytes pc = .ok (.pop, 1)) (hc : v.category = 1) (hp : pc + 1 = pc') (k : Go p e below P (T.setTop (mkF m pc' Ls (rest)))) : Go p e below P (T.setTop (mkF m pc Ls (v :: rest))) := by
  subst hp; exact Go.on (fun t => XS.pop X.here B.1 rfl (hb B.2.1 hd) rfl hc) k
theorem s_swap (B : Ctx p s m meth c Z own nm bytes maxL ret) (X : Stand p l e R s m args below meth c T locs cells slots) {v w : Value} (hd : decode bytes pc = .ok (.swap, 1)) (hc : v.category = 1) (hc2 : w.category = 1) (hp : pc + 1 = pc') (k : Go p e below P (T.setTop (mkF m pc' Ls (w :: v :: rest)))) : Go p e below P (T.setTop (mkF m pc Ls (v :: w :: rest))) := by
  subst hp; exact Go.on (fun t => XS.swap X.here B.1 rfl (hb B.2.1 hd) rfl hc hc2) k
theorem s_dup_x1 (B : Ctx p s m meth c Z own nm bytes maxL ret) (X : Stand p l e R s m args below meth c T locs cells slots) {v w : Value} (hd : decode bytes pc = .ok (.dup_x1, 1)) (hc : v.category = 1) (hc2 : w.category = 1) (hp : pc + 1 = pc') (k : Go p e below P (T.setTop (mkF m pc' Ls (v :: w :: v :: rest)))) : Go p e below P (T.setTop (mkF m pc Ls (v :: w :: rest))) := by
  subst hp; exact Go.on (fun t => XS.dupX1 X.here B.1 rfl (hb B.2.1 hd) rfl hc hc2) k
theorem s_dup2 (B : Ctx p s m meth c Z own nm bytes maxL ret) (X : Stand p l e R s m args below meth c T locs cells slots) {v w : Value} (hd : decode bytes pc = .ok (.dup2, 1)) (hc : v.category = 1) (hc2 : w.category = 1) (hp : pc + 1 = pc') (k : Go p e below P (T.setTop (mkF m pc' Ls (v :: w :: v :: w :: rest)))) : Go p e below P (T.setTop (mkF m pc Ls (v :: w :: rest))) := by
  subst hp; exact Go.on (fun t => XT.dup2 X.here B.1 rfl (hb B.2.1 hd) rfl hc hc2) k
theorem s_iinc (B : Ctx p s m meth c Z own nm bytes maxL ret) (X : Stand p l e R s m args below meth c T locs cells slots) {k0 : Nat} {i : Int} {x v : Int32} (hd : decode bytes pc = .ok (.iinc k0 i, 3)) (hl : Ls[k0]? = some (.val (.int x))) (hv : x + Int32.ofInt i = v) (hl' : storeLocals Ls k0 (.int v) = some Ls') (hp : pc + 3 = pc') (k : Go p e below P (T.setTop (mkF m pc' Ls' (rest)))) : Go p e below P (T.setTop (mkF m pc Ls (rest))) := by
  subst hp; subst hv; exact Go.on (fun t => XS.iinc X.here B.1 rfl (hb B.2.1 hd) hl hl') k
theorem s_goto (B : Ctx p s m meth c Z own nm bytes maxL ret) (X : Stand p l e R s m args below meth c T locs cells slots)  {o : Int} (hd : decode bytes pc = .ok (.goto o, 3))  (ho : 0 ≤ (pc : Int) + o) (hp : ((pc : Int) + o).toNat = pc') (k : Go p e below P (T.setTop (mkF m pc' Ls (rest)))) : Go p e below P (T.setTop (mkF m pc Ls (rest))) := Go.on (fun t => XS.goto X.here B.1 rfl rfl (hb B.2.1 hd) ho hp) k
theorem s_ifY (B : Ctx p s m meth c Z own nm bytes maxL ret) (X : Stand p l e R s m args below meth c T locs cells slots) {cd : ClassFile.Cond} {x : Int32} {o : Int} (hd : decode bytes pc = .ok (.ifCond cd o, 3)) (hc : ifCond.holds cd x = true) (ho : 0 ≤ (pc : Int) + o) (hp : ((pc : Int) + o).toNat = pc') (k : Go p e below P (T.setTop (mkF m pc' Ls (rest)))) : Go p e below P (T.setTop (mkF m pc Ls (.int x :: rest))) := Go.on (fun t => XS.ifYes X.here B.1 rfl rfl (hb B.2.1 hd) rfl hc ho hp) k
theorem s_ifN (B : Ctx p s m meth c Z own nm bytes maxL ret) (X : Stand p l e R s m args below meth c T locs cells slots) {cd : ClassFile.Cond} {x : Int32} {o : Int} (hd : decode bytes pc = .ok (.ifCond cd o, 3)) (hc : ifCond.holds cd x = false) (hp : pc + 3 = pc') (k : Go p e below P (T.setTop (mkF m pc' Ls (rest)))) : Go p e below P (T.setTop (mkF m pc Ls (.int x :: rest))) := by
  subst hp; exact Go.on (fun t => XS.ifNo X.here B.1 rfl (hb B.2.1 hd) rfl hc) k
theorem s_icmpY (B : Ctx p s m meth c Z own nm bytes maxL ret) (X : Stand p l e R s m args below meth c T locs cells slots) {cd : ClassFile.Cond} {x y : Int32} {o : Int} (hd : decode bytes pc = .ok (.if_icmp cd o, 3)) (hc : if_icmp.holds cd x y = true) (ho : 0 ≤ (pc : Int) + o) (hp : ((pc : Int) + o).toNat = pc') (k : Go p e below P (T.setTop (mkF m pc' Ls (rest)))) : Go p e below P (T.setTop (mkF m pc Ls (.int y :: .int x :: rest))) := Go.on (fun t => XS.icmpYes X.here B.1 rfl rfl (hb B.2.1 hd) rfl hc ho hp) k
theorem s_icmpN (B : Ctx p s m meth c Z own nm bytes maxL ret) (X : Stand p l e R s m args below meth c T locs cells slots) {cd : ClassFile.Cond} {x y : Int32} {o : Int} (hd : decode bytes pc = .ok (.if_icmp cd o, 3)) (hc : if_icmp.holds cd x y = false) (hp : pc + 3 = pc') (k : Go p e below P (T.setTop (mkF m pc' Ls (rest)))) : Go p e below P (T.setTop (mkF m pc Ls (.int y :: .int x :: rest))) := by
  subst hp; exact Go.on (fun t => XS.icmpNo X.here B.1 rfl (hb B.2.1 hd) rfl hc) k
theorem s_ifnullY (B : Ctx p s m meth c Z own nm bytes maxL ret) (X : Stand p l e R s m args below meth c T locs cells slots)  {o : Int} (hd : decode bytes pc = .ok (.ifnull o, 3))  (ho : 0 ≤ (pc : Int) + o) (hp : ((pc : Int) + o).toNat = pc') (k : Go p e below P (T.setTop (mkF m pc' Ls (rest)))) : Go p e below P (T.setTop (mkF m pc Ls (.null :: rest))) := Go.on (fun t => XS.ifnullYes X.here B.1 rfl rfl (hb B.2.1 hd) rfl ho hp) k
theorem s_ifnullN (B : Ctx p s m meth c Z own nm bytes maxL ret) (X : Stand p l e R s m args below meth c T locs cells slots) {b : Addr} {o : Int} (hd : decode bytes pc = .ok (.ifnull o, 3))  (hp : pc + 3 = pc') (k : Go p e below P (T.setTop (mkF m pc' Ls (rest)))) : Go p e below P (T.setTop (mkF m pc Ls (.ref b :: rest))) := by
  subst hp; exact Go.on (fun t => XS.ifnullNo X.here B.1 rfl (hb B.2.1 hd) rfl) k
theorem s_ifnonnullY (B : Ctx p s m meth c Z own nm bytes maxL ret) (X : Stand p l e R s m args below meth c T locs cells slots) {b : Addr} {o : Int} (hd : decode bytes pc = .ok (.ifnonnull o, 3))  (ho : 0 ≤ (pc : Int) + o) (hp : ((pc : Int) + o).toNat = pc') (k : Go p e below P (T.setTop (mkF m pc' Ls (rest)))) : Go p e below P (T.setTop (mkF m pc Ls (.ref b :: rest))) := Go.on (fun t => XS.ifnonnullYes X.here B.1 rfl rfl (hb B.2.1 hd) rfl ho hp) k
theorem s_ifnonnullN (B : Ctx p s m meth c Z own nm bytes maxL ret) (X : Stand p l e R s m args below meth c T locs cells slots)  {o : Int} (hd : decode bytes pc = .ok (.ifnonnull o, 3))  (hp : pc + 3 = pc') (k : Go p e below P (T.setTop (mkF m pc' Ls (rest)))) : Go p e below P (T.setTop (mkF m pc Ls (.null :: rest))) := by
  subst hp; exact Go.on (fun t => XS.ifnonnullNo X.here B.1 rfl (hb B.2.1 hd) rfl) k
theorem b_icmp_eq (B : Ctx p s m meth c Z own nm bytes maxL ret) (X : Stand p l e R s m args below meth c T locs cells slots) {x y : Int32} {o : Int} {py pn : Nat} (hd : decode bytes pc = .ok (.if_icmp .eq o, 3)) (ho : 0 ≤ (pc : Int) + o) (hy : ((pc : Int) + o).toNat = py) (hn : pc + 3 = pn) (k1 : x = y → Go p e below P (T.setTop (mkF m py Ls (rest)))) (k2 : ¬ x = y → Go p e below P (T.setTop (mkF m pn Ls (rest)))) : Go p e below P (T.setTop (mkF m pc Ls (.int y :: .int x :: rest))) := by
  by_cases q : x = y
  · exact s_icmpY B X hd (teq q).1 ho hy (k1 q)
  · exact s_icmpN B X hd (feq q).1 hn (k2 q)
theorem b_if_eq (B : Ctx p s m meth c Z own nm bytes maxL ret) (X : Stand p l e R s m args below meth c T locs cells slots) {x : Int32} {o : Int} {py pn : Nat} (hd : decode bytes pc = .ok (.ifCond .eq o, 3)) (ho : 0 ≤ (pc : Int) + o) (hy : ((pc : Int) + o).toNat = py) (hn : pc + 3 = pn) (k1 : x = 0 → Go p e below P (T.setTop (mkF m py Ls (rest)))) (k2 : ¬ x = 0 → Go p e below P (T.setTop (mkF m pn Ls (rest)))) : Go p e below P (T.setTop (mkF m pc Ls (.int x :: rest))) := by
  by_cases q : x = 0
  · exact s_ifY B X hd ((if0 _ _).trans (teq q).1) ho hy (k1 q)
  · exact s_ifN B X hd ((if0 _ _).trans (feq q).1) hn (k2 q)
theorem b_icmp_ne (B : Ctx p s m meth c Z own nm bytes maxL ret) (X : Stand p l e R s m args below meth c T locs cells slots) {x y : Int32} {o : Int} {py pn : Nat} (hd : decode bytes pc = .ok (.if_icmp .ne o, 3)) (ho : 0 ≤ (pc : Int) + o) (hy : ((pc : Int) + o).toNat = py) (hn : pc + 3 = pn) (k1 : ¬ x = y → Go p e below P (T.setTop (mkF m py Ls (rest)))) (k2 : x = y → Go p e below P (T.setTop (mkF m pn Ls (rest)))) : Go p e below P (T.setTop (mkF m pc Ls (.int y :: .int x :: rest))) := by
  by_cases q : x = y
  · exact s_icmpN B X hd (teq q).2 hn (k2 q)
  · exact s_icmpY B X hd (feq q).2 ho hy (k1 q)
theorem b_if_ne (B : Ctx p s m meth c Z own nm bytes maxL ret) (X : Stand p l e R s m args below meth c T locs cells slots) {x : Int32} {o : Int} {py pn : Nat} (hd : decode bytes pc = .ok (.ifCond .ne o, 3)) (ho : 0 ≤ (pc : Int) + o) (hy : ((pc : Int) + o).toNat = py) (hn : pc + 3 = pn) (k1 : ¬ x = 0 → Go p e below P (T.setTop (mkF m py Ls (rest)))) (k2 : x = 0 → Go p e below P (T.setTop (mkF m pn Ls (rest)))) : Go p e below P (T.setTop (mkF m pc Ls (.int x :: rest))) := by
  by_cases q : x = 0
  · exact s_ifN B X hd ((if0 _ _).trans (teq q).2) hn (k2 q)
  · exact s_ifY B X hd ((if0 _ _).trans (feq q).2) ho hy (k1 q)
theorem b_icmp_lt (B : Ctx p s m meth c Z own nm bytes maxL ret) (X : Stand p l e R s m args below meth c T locs cells slots) {x y : Int32} {o : Int} {py pn : Nat} (hd : decode bytes pc = .ok (.if_icmp .lt o, 3)) (ho : 0 ≤ (pc : Int) + o) (hy : ((pc : Int) + o).toNat = py) (hn : pc + 3 = pn) (k1 : x < y → Go p e below P (T.setTop (mkF m py Ls (rest)))) (k2 : ¬ x < y → Go p e below P (T.setTop (mkF m pn Ls (rest)))) : Go p e below P (T.setTop (mkF m pc Ls (.int y :: .int x :: rest))) := by
  by_cases q : x < y
  · exact s_icmpY B X hd (tlt q).1 ho hy (k1 q)
  · exact s_icmpN B X hd (flt q).1 hn (k2 q)
theorem b_if_lt (B : Ctx p s m meth c Z own nm bytes maxL ret) (X : Stand p l e R s m args below meth c T locs cells slots) {x : Int32} {o : Int} {py pn : Nat} (hd : decode bytes pc = .ok (.ifCond .lt o, 3)) (ho : 0 ≤ (pc : Int) + o) (hy : ((pc : Int) + o).toNat = py) (hn : pc + 3 = pn) (k1 : x < 0 → Go p e below P (T.setTop (mkF m py Ls (rest)))) (k2 : ¬ x < 0 → Go p e below P (T.setTop (mkF m pn Ls (rest)))) : Go p e below P (T.setTop (mkF m pc Ls (.int x :: rest))) := by
  by_cases q : x < 0
  · exact s_ifY B X hd ((if0 _ _).trans (tlt q).1) ho hy (k1 q)
  · exact s_ifN B X hd ((if0 _ _).trans (flt q).1) hn (k2 q)
theorem b_icmp_ge (B : Ctx p s m meth c Z own nm bytes maxL ret) (X : Stand p l e R s m args below meth c T locs cells slots) {x y : Int32} {o : Int} {py pn : Nat} (hd : decode bytes pc = .ok (.if_icmp .ge o, 3)) (ho : 0 ≤ (pc : Int) + o) (hy : ((pc : Int) + o).toNat = py) (hn : pc + 3 = pn) (k1 : ¬ x < y → Go p e below P (T.setTop (mkF m py Ls (rest)))) (k2 : x < y → Go p e below P (T.setTop (mkF m pn Ls (rest)))) : Go p e below P (T.setTop (mkF m pc Ls (.int y :: .int x :: rest))) := by
  by_cases q : x < y
  · exact s_icmpN B X hd (tlt q).2.1 hn (k2 q)
  · exact s_icmpY B X hd (flt q).2.1 ho hy (k1 q)
theorem b_if_ge (B : Ctx p s m meth c Z own nm bytes maxL ret) (X : Stand p l e R s m args below meth c T locs cells slots) {x : Int32} {o : Int} {py pn : Nat} (hd : decode bytes pc = .ok (.ifCond .ge o, 3)) (ho : 0 ≤ (pc : Int) + o) (hy : ((pc : Int) + o).toNat = py) (hn : pc + 3 = pn) (k1 : ¬ x < 0 → Go p e below P (T.setTop (mkF m py Ls (rest)))) (k2 : x < 0 → Go p e below P (T.setTop (mkF m pn Ls (rest)))) : Go p e below P (T.setTop (mkF m pc Ls (.int x :: rest))) := by
  by_cases q : x < 0
  · exact s_ifN B X hd ((if0 _ _).trans (tlt q).2.1) hn (k2 q)
  · exact s_ifY B X hd ((if0 _ _).trans (flt q).2.1) ho hy (k1 q)
theorem b_icmp_gt (B : Ctx p s m meth c Z own nm bytes maxL ret) (X : Stand p l e R s m args below meth c T locs cells slots) {x y : Int32} {o : Int} {py pn : Nat} (hd : decode bytes pc = .ok (.if_icmp .gt o, 3)) (ho : 0 ≤ (pc : Int) + o) (hy : ((pc : Int) + o).toNat = py) (hn : pc + 3 = pn) (k1 : y < x → Go p e below P (T.setTop (mkF m py Ls (rest)))) (k2 : ¬ y < x → Go p e below P (T.setTop (mkF m pn Ls (rest)))) : Go p e below P (T.setTop (mkF m pc Ls (.int y :: .int x :: rest))) := by
  by_cases q : y < x
  · exact s_icmpY B X hd (tlt q).2.2.1 ho hy (k1 q)
  · exact s_icmpN B X hd (flt q).2.2.1 hn (k2 q)
theorem b_if_gt (B : Ctx p s m meth c Z own nm bytes maxL ret) (X : Stand p l e R s m args below meth c T locs cells slots) {x : Int32} {o : Int} {py pn : Nat} (hd : decode bytes pc = .ok (.ifCond .gt o, 3)) (ho : 0 ≤ (pc : Int) + o) (hy : ((pc : Int) + o).toNat = py) (hn : pc + 3 = pn) (k1 : 0 < x → Go p e below P (T.setTop (mkF m py Ls (rest)))) (k2 : ¬ 0 < x → Go p e below P (T.setTop (mkF m pn Ls (rest)))) : Go p e below P (T.setTop (mkF m pc Ls (.int x :: rest))) := by
  by_cases q : 0 < x
  · exact s_ifY B X hd ((if0 _ _).trans (tlt q).2.2.1) ho hy (k1 q)
  · exact s_ifN B X hd ((if0 _ _).trans (flt q).2.2.1) hn (k2 q)
theorem b_icmp_le (B : Ctx p s m meth c Z own nm bytes maxL ret) (X : Stand p l e R s m args below meth c T locs cells slots) {x y : Int32} {o : Int} {py pn : Nat} (hd : decode bytes pc = .ok (.if_icmp .le o, 3)) (ho : 0 ≤ (pc : Int) + o) (hy : ((pc : Int) + o).toNat = py) (hn : pc + 3 = pn) (k1 : ¬ y < x → Go p e below P (T.setTop (mkF m py Ls (rest)))) (k2 : y < x → Go p e below P (T.setTop (mkF m pn Ls (rest)))) : Go p e below P (T.setTop (mkF m pc Ls (.int y :: .int x :: rest))) := by
  by_cases q : y < x
  · exact s_icmpN B X hd (tlt q).2.2.2 hn (k2 q)
  · exact s_icmpY B X hd (flt q).2.2.2 ho hy (k1 q)
theorem b_if_le (B : Ctx p s m meth c Z own nm bytes maxL ret) (X : Stand p l e R s m args below meth c T locs cells slots) {x : Int32} {o : Int} {py pn : Nat} (hd : decode bytes pc = .ok (.ifCond .le o, 3)) (ho : 0 ≤ (pc : Int) + o) (hy : ((pc : Int) + o).toNat = py) (hn : pc + 3 = pn) (k1 : ¬ 0 < x → Go p e below P (T.setTop (mkF m py Ls (rest)))) (k2 : 0 < x → Go p e below P (T.setTop (mkF m pn Ls (rest)))) : Go p e below P (T.setTop (mkF m pc Ls (.int x :: rest))) := by
  by_cases q : 0 < x
  · exact s_ifN B X hd ((if0 _ _).trans (tlt q).2.2.2) hn (k2 q)
  · exact s_ifY B X hd ((if0 _ _).trans (flt q).2.2.2) ho hy (k1 q)
theorem b_lcmp_eq (B : Ctx p s m meth c Z own nm bytes maxL ret) (X : Stand p l e R s m args below meth c T locs cells slots) {x y : Int64} {pc0 : Nat} {o : Int} {py pn : Nat} (hd0 : decode bytes pc0 = .ok (.lcmp, 1)) (hp0 : pc0 + 1 = pc) (hd : decode bytes pc = .ok (.ifCond .eq o, 3)) (ho : 0 ≤ (pc : Int) + o) (hy : ((pc : Int) + o).toNat = py) (hn : pc + 3 = pn) (k1 : x = y → Go p e below P (T.setTop (mkF m py Ls (rest)))) (k2 : ¬ x = y → Go p e below P (T.setTop (mkF m pn Ls (rest)))) : Go p e below P (T.setTop (mkF m pc0 Ls (.long y :: .long x :: rest))) := by
  by_cases q : x = y
  · exact s_lcmp B X hd0 hp0 (s_ifY B X hd ((if0 _ _).trans (teq ((lw_eq x y).mpr q)).1) ho hy (k1 q))
  · exact s_lcmp B X hd0 hp0 (s_ifN B X hd ((if0 _ _).trans (feq (fun z => q ((lw_eq x y).mp z))).1) hn (k2 q))
theorem b_lcmp_ne (B : Ctx p s m meth c Z own nm bytes maxL ret) (X : Stand p l e R s m args below meth c T locs cells slots) {x y : Int64} {pc0 : Nat} {o : Int} {py pn : Nat} (hd0 : decode bytes pc0 = .ok (.lcmp, 1)) (hp0 : pc0 + 1 = pc) (hd : decode bytes pc = .ok (.ifCond .ne o, 3)) (ho : 0 ≤ (pc : Int) + o) (hy : ((pc : Int) + o).toNat = py) (hn : pc + 3 = pn) (k1 : ¬ x = y → Go p e below P (T.setTop (mkF m py Ls (rest)))) (k2 : x = y → Go p e below P (T.setTop (mkF m pn Ls (rest)))) : Go p e below P (T.setTop (mkF m pc0 Ls (.long y :: .long x :: rest))) := by
  by_cases q : x = y
  · exact s_lcmp B X hd0 hp0 (s_ifN B X hd ((if0 _ _).trans (teq ((lw_eq x y).mpr q)).2) hn (k2 q))
  · exact s_lcmp B X hd0 hp0 (s_ifY B X hd ((if0 _ _).trans (feq (fun z => q ((lw_eq x y).mp z))).2) ho hy (k1 q))
theorem b_lcmp_lt (B : Ctx p s m meth c Z own nm bytes maxL ret) (X : Stand p l e R s m args below meth c T locs cells slots) {x y : Int64} {pc0 : Nat} {o : Int} {py pn : Nat} (hd0 : decode bytes pc0 = .ok (.lcmp, 1)) (hp0 : pc0 + 1 = pc) (hd : decode bytes pc = .ok (.ifCond .lt o, 3)) (ho : 0 ≤ (pc : Int) + o) (hy : ((pc : Int) + o).toNat = py) (hn : pc + 3 = pn) (k1 : x < y → Go p e below P (T.setTop (mkF m py Ls (rest)))) (k2 : ¬ x < y → Go p e below P (T.setTop (mkF m pn Ls (rest)))) : Go p e below P (T.setTop (mkF m pc0 Ls (.long y :: .long x :: rest))) := by
  by_cases q : x < y
  · exact s_lcmp B X hd0 hp0 (s_ifY B X hd ((if0 _ _).trans (tlt ((lw_lt x y).mpr q)).1) ho hy (k1 q))
  · exact s_lcmp B X hd0 hp0 (s_ifN B X hd ((if0 _ _).trans (flt (fun z => q ((lw_lt x y).mp z))).1) hn (k2 q))
theorem b_lcmp_ge (B : Ctx p s m meth c Z own nm bytes maxL ret) (X : Stand p l e R s m args below meth c T locs cells slots) {x y : Int64} {pc0 : Nat} {o : Int} {py pn : Nat} (hd0 : decode bytes pc0 = .ok (.lcmp, 1)) (hp0 : pc0 + 1 = pc) (hd : decode bytes pc = .ok (.ifCond .ge o, 3)) (ho : 0 ≤ (pc : Int) + o) (hy : ((pc : Int) + o).toNat = py) (hn : pc + 3 = pn) (k1 : ¬ x < y → Go p e below P (T.setTop (mkF m py Ls (rest)))) (k2 : x < y → Go p e below P (T.setTop (mkF m pn Ls (rest)))) : Go p e below P (T.setTop (mkF m pc0 Ls (.long y :: .long x :: rest))) := by
  by_cases q : x < y
  · exact s_lcmp B X hd0 hp0 (s_ifN B X hd ((if0 _ _).trans (tlt ((lw_lt x y).mpr q)).2.1) hn (k2 q))
  · exact s_lcmp B X hd0 hp0 (s_ifY B X hd ((if0 _ _).trans (flt (fun z => q ((lw_lt x y).mp z))).2.1) ho hy (k1 q))
theorem b_lcmp_gt (B : Ctx p s m meth c Z own nm bytes maxL ret) (X : Stand p l e R s m args below meth c T locs cells slots) {x y : Int64} {pc0 : Nat} {o : Int} {py pn : Nat} (hd0 : decode bytes pc0 = .ok (.lcmp, 1)) (hp0 : pc0 + 1 = pc) (hd : decode bytes pc = .ok (.ifCond .gt o, 3)) (ho : 0 ≤ (pc : Int) + o) (hy : ((pc : Int) + o).toNat = py) (hn : pc + 3 = pn) (k1 : y < x → Go p e below P (T.setTop (mkF m py Ls (rest)))) (k2 : ¬ y < x → Go p e below P (T.setTop (mkF m pn Ls (rest)))) : Go p e below P (T.setTop (mkF m pc0 Ls (.long y :: .long x :: rest))) := by
  by_cases q : y < x
  · exact s_lcmp B X hd0 hp0 (s_ifY B X hd ((if0 _ _).trans (tlt ((lw_gt x y).mpr q)).2.2.1) ho hy (k1 q))
  · exact s_lcmp B X hd0 hp0 (s_ifN B X hd ((if0 _ _).trans (flt (fun z => q ((lw_gt x y).mp z))).2.2.1) hn (k2 q))
theorem b_lcmp_le (B : Ctx p s m meth c Z own nm bytes maxL ret) (X : Stand p l e R s m args below meth c T locs cells slots) {x y : Int64} {pc0 : Nat} {o : Int} {py pn : Nat} (hd0 : decode bytes pc0 = .ok (.lcmp, 1)) (hp0 : pc0 + 1 = pc) (hd : decode bytes pc = .ok (.ifCond .le o, 3)) (ho : 0 ≤ (pc : Int) + o) (hy : ((pc : Int) + o).toNat = py) (hn : pc + 3 = pn) (k1 : ¬ y < x → Go p e below P (T.setTop (mkF m py Ls (rest)))) (k2 : y < x → Go p e below P (T.setTop (mkF m pn Ls (rest)))) : Go p e below P (T.setTop (mkF m pc0 Ls (.long y :: .long x :: rest))) := by
  by_cases q : y < x
  · exact s_lcmp B X hd0 hp0 (s_ifN B X hd ((if0 _ _).trans (tlt ((lw_gt x y).mpr q)).2.2.2) hn (k2 q))
  · exact s_lcmp B X hd0 hp0 (s_ifY B X hd ((if0 _ _).trans (flt (fun z => q ((lw_gt x y).mp z))).2.2.2) ho hy (k1 q))
theorem b_acmp_eq (B : Ctx p s m meth c Z own nm bytes maxL ret) (X : Stand p l e R s m args below meth c T locs cells slots) {a b : Addr} {o : Int} {py pn : Nat} (hd : decode bytes pc = .ok (.if_acmp .eq o, 3)) (ho : 0 ≤ (pc : Int) + o) (hy : ((pc : Int) + o).toNat = py) (hn : pc + 3 = pn) (k1 : a = b → Go p e below P (T.setTop (mkF m py Ls (rest)))) (k2 : ¬ a = b → Go p e below P (T.setTop (mkF m pn Ls (rest)))) : Go p e below P (T.setTop (mkF m pc Ls (.ref b :: .ref a :: rest))) := by
  by_cases q : a = b
  · exact Go.on (fun t => Jvm.RoadKit.acmp X B.1 rfl rfl rfl (same := true) rfl (hb B.2.1 hd) rfl (decide_eq_true (congrArg Value.ref q)) ho (by simp [acV, hy])) (k1 q)
  · exact Go.on (fun t => Jvm.RoadKit.acmp X B.1 rfl rfl rfl (same := false) rfl (hb B.2.1 hd) rfl (decide_eq_false fun z => q (Value.ref.inj z)) ho (by simp [acV, hn])) (k2 q)
theorem b_acmp_ne (B : Ctx p s m meth c Z own nm bytes maxL ret) (X : Stand p l e R s m args below meth c T locs cells slots) {a b : Addr} {o : Int} {py pn : Nat} (hd : decode bytes pc = .ok (.if_acmp .ne o, 3)) (ho : 0 ≤ (pc : Int) + o) (hy : ((pc : Int) + o).toNat = py) (hn : pc + 3 = pn) (k1 : ¬ a = b → Go p e below P (T.setTop (mkF m py Ls (rest)))) (k2 : a = b → Go p e below P (T.setTop (mkF m pn Ls (rest)))) : Go p e below P (T.setTop (mkF m pc Ls (.ref b :: .ref a :: rest))) := by
  by_cases q : a = b
  · exact Go.on (fun t => Jvm.RoadKit.acmp X B.1 rfl rfl rfl (same := true) rfl (hb B.2.1 hd) rfl (decide_eq_true (congrArg Value.ref q)) ho (by simp [acV, hn])) (k2 q)
  · exact Go.on (fun t => Jvm.RoadKit.acmp X B.1 rfl rfl rfl (same := false) rfl (hb B.2.1 hd) rfl (decide_eq_false fun z => q (Value.ref.inj z)) ho (by simp [acV, hy])) (k1 q)
theorem b_ifnull (B : Ctx p s m meth c Z own nm bytes maxL ret) (X : Stand p l e R s m args below meth c T locs cells slots) {v : Value} {o : Int} {py pn : Nat} (hv : v.isRef = true) (hd : decode bytes pc = .ok (.ifnull o, 3)) (ho : 0 ≤ (pc : Int) + o) (hy : ((pc : Int) + o).toNat = py) (hn : pc + 3 = pn) (k1 : v = .null → Go p e below P (T.setTop (mkF m py Ls (rest)))) (k2 : ¬ v = .null → Go p e below P (T.setTop (mkF m pn Ls (rest)))) : Go p e below P (T.setTop (mkF m pc Ls (v :: rest))) := by
  rcases ref_cases hv with rfl | ⟨a, rfl⟩
  · exact s_ifnullY B X hd ho hy (k1 rfl)
  · exact s_ifnullN B X hd hn (k2 nofun)
theorem b_ifnonnull (B : Ctx p s m meth c Z own nm bytes maxL ret) (X : Stand p l e R s m args below meth c T locs cells slots) {v : Value} {o : Int} {py pn : Nat} (hv : v.isRef = true) (hd : decode bytes pc = .ok (.ifnonnull o, 3)) (ho : 0 ≤ (pc : Int) + o) (hy : ((pc : Int) + o).toNat = py) (hn : pc + 3 = pn) (k1 : ¬ v = .null → Go p e below P (T.setTop (mkF m py Ls (rest)))) (k2 : v = .null → Go p e below P (T.setTop (mkF m pn Ls (rest)))) : Go p e below P (T.setTop (mkF m pc Ls (v :: rest))) := by
  rcases ref_cases hv with rfl | ⟨a, rfl⟩
  · exact s_ifnonnullN B X hd hn (k2 rfl)
  · exact s_ifnonnullY B X hd ho hy (k1 nofun)
theorem s_ldc (B : Ctx p s m meth c Z own nm bytes maxL ret) (X : Stand p l e R s m args below meth c T locs cells slots) {i : Nat} {v : Int32} (w : (Jvm.Cond.constant own i v).before a0 Z = true) (hd : decode bytes pc = .ok (.ldc i, 2)) (hp : pc + 2 = pc') (k : Go p e below P (T.setTop (mkF m pc' Ls (.int v :: rest)))) : Go p e below P (T.setTop (mkF m pc Ls (rest))) := by
  subst hp; exact Go.on (fun t => X.ldcI B.1 B.2.2.2.1 (mv B.2.2.2.2.2.2.2 w) rfl (hb B.2.1 hd)) k
theorem s_ldc2 (B : Ctx p s m meth c Z own nm bytes maxL ret) (X : Stand p l e R s m args below meth c T locs cells slots) {i : Nat} {v : Int64} (w : (Jvm.Cond.constantLong own i v).before a0 Z = true) (hd : decode bytes pc = .ok (.ldc2_w i, 3)) (hp : pc + 3 = pc') (k : Go p e below P (T.setTop (mkF m pc' Ls (.long v :: rest)))) : Go p e below P (T.setTop (mkF m pc Ls (rest))) := by
  subst hp; exact Go.on (fun t => X.ldc2J B.1 B.2.2.2.1 (mv B.2.2.2.2.2.2.2 w) rfl (hb B.2.1 hd)) k
theorem s_getS (B : Ctx p s m meth c Z own nm bytes maxL ret) (X : Stand p l e R s m args below meth c T locs cells slots) {i : Nat} {R0 O n d : String} {v : Value} (eT : T.heap = h) (w : (Jvm.Cond.fieldLink own i R0 n d).before a0 Z = true) (via : Via Z R0 O n d) (F : Sta Z h O n d v) (hd : decode bytes pc = .ok (.getstatic i, 3)) (hp : pc + 3 = pc') (k : ∀ T', Stand p l e R s m args below meth c T' locs cells slots → T'.heap = h → Go p e below P (T'.setTop (mkF m pc' Ls (v :: rest)))) : Go p e below P (T.setTop (mkF m pc Ls (rest))) := by
  subst hp
  obtain ⟨T', X', e', st⟩ := getS X B.1 B.2.2.2.2.2.2.2 (host := "") B.2.2.2.1 w via eT F (g := mkF m pc Ls rest) rfl (hb B.2.1 hd)
  exact Go.on st (k T' X' e')
theorem s_getF (B : Ctx p s m meth c Z own nm bytes maxL ret) (X : Stand p l e R s m args below meth c T locs cells slots) {i : Nat} {R0 O n d host : String} {a : Addr} {v : Value} (eT : T.heap = h) (w : (Jvm.Cond.fieldLink own i R0 n d).before a0 Z = true ∨ (Jvm.Cond.fieldLinkNest own i R0 n d host).before a0 Z = true) (via : Via Z R0 O n d) (F : Fld Z h a O n d v) (hd : decode bytes pc = .ok (.getfield i, 3)) (hp : pc + 3 = pc') (k : ∀ T', Stand p l e R s m args below meth c T' locs cells slots → T'.heap = h → Go p e below P (T'.setTop (mkF m pc' Ls (v :: rest)))) : Go p e below P (T.setTop (mkF m pc Ls (.ref a :: rest))) := by
  subst hp
  obtain ⟨T', X', e', st⟩ := getF X B.1 B.2.2.2.2.2.2.2 B.2.2.2.1 w via eT F (g := mkF m pc Ls (.ref a :: rest)) rfl rfl (hb B.2.1 hd)
  exact Go.on st (k T' X' e')
theorem r_nar (B : Ctx p s m meth c Z own nm bytes maxL ret) (X : Stand p l e R s m args below meth c T locs cells slots) {Q : Option Value → Heap → List Loc → Prop} {kc kn : Nat} {z : Int32} {t : FieldType} (ht : t = .boolean ∨ t = .byte ∨ t = .char ∨ t = .short) (hr : ret = some t) (hd : decode bytes pc = .ok (.ireturn, 1)) (hq : Q (some (.int (nar t z))) T.heap locs) (hc : cells ≤ kc) (hs : slots ≤ kn) : Go p e below (Ends s Q kc kn) (T.setTop (mkF m pc Ls (.int z :: rest))) := by
  obtain ⟨fs, hl, hrun, hended, hW, hsame⟩ := X.leave (v := (some (.int (nar t z)))) (fun h => by rw [B.2.2.2.2.2.1, hr] at h; first | rfl | cases h) B.2.2.2.2.2.2.1
  exact ⟨_, _, retN X B.1 (by rw [B.2.2.2.2.2.1, hr]) ht (hb B.2.1 hd) hl, hrun, hended, _, _, rfl, hq, ⟨_, rfl⟩, hW, hsame.mono hc hs⟩
theorem r_int (B : Ctx p s m meth c Z own nm bytes maxL ret) (X : Stand p l e R s m args below meth c T locs cells slots) {Q : Option Value → Heap → List Loc → Prop} {kc kn : Nat} {z : Int32} (hr : ret = some .int) (hd : decode bytes pc = .ok (.ireturn, 1)) (hq : Q (some (.int z)) T.heap locs) (hc : cells ≤ kc) (hs : slots ≤ kn) : Go p e below (Ends s Q kc kn) (T.setTop (mkF m pc Ls (.int z :: rest))) := by
  obtain ⟨fs, hl, hrun, hended, hW, hsame⟩ := X.leave (v := (some (.int z))) (fun h => by rw [B.2.2.2.2.2.1, hr] at h; first | rfl | cases h) B.2.2.2.2.2.2.1
  exact ⟨_, _, retOut X B.1 (t := .int) (by rw [B.2.2.2.2.2.1, hr]) rfl (Or.inl ⟨rfl, Or.inl rfl, _, rfl⟩) (hb B.2.1 hd) hl, hrun, hended, _, _, rfl, hq, ⟨_, rfl⟩, hW, hsame.mono hc hs⟩
theorem r_long (B : Ctx p s m meth c Z own nm bytes maxL ret) (X : Stand p l e R s m args below meth c T locs cells slots) {Q : Option Value → Heap → List Loc → Prop} {kc kn : Nat} {z : Int64} (hr : ret = some .long) (hd : decode bytes pc = .ok (.lreturn, 1)) (hq : Q (some (.long z)) T.heap locs) (hc : cells ≤ kc) (hs : slots ≤ kn) : Go p e below (Ends s Q kc kn) (T.setTop (mkF m pc Ls (.long z :: rest))) := by
  obtain ⟨fs, hl, hrun, hended, hW, hsame⟩ := X.leave (v := (some (.long z))) (fun h => by rw [B.2.2.2.2.2.1, hr] at h; first | rfl | cases h) B.2.2.2.2.2.2.1
  exact ⟨_, _, retOut X B.1 (t := .long) (by rw [B.2.2.2.2.2.1, hr]) rfl (Or.inr (Or.inl ⟨rfl, rfl, _, rfl⟩)) (hb B.2.1 hd) hl, hrun, hended, _, _, rfl, hq, ⟨_, rfl⟩, hW, hsame.mono hc hs⟩
theorem r_ref (B : Ctx p s m meth c Z own nm bytes maxL ret) (X : Stand p l e R s m args below meth c T locs cells slots) {Q : Option Value → Heap → List Loc → Prop} {kc kn : Nat} {v : Value} {t : FieldType} (ht : t.isReference = true) (hn : narrow t v = v) (hv : v.isRef = true) (hr : ret = some t) (hd : decode bytes pc = .ok (.areturn, 1)) (hq : Q (some v) T.heap locs) (hc : cells ≤ kc) (hs : slots ≤ kn) : Go p e below (Ends s Q kc kn) (T.setTop (mkF m pc Ls (v :: rest))) := by
  obtain ⟨fs, hl, hrun, hended, hW, hsame⟩ := X.leave (v := (some v)) (fun h => by rw [B.2.2.2.2.2.1, hr] at h; first | rfl | cases h) B.2.2.2.2.2.2.1
  exact ⟨_, _, retOut X B.1 (t := t) (by rw [B.2.2.2.2.2.1, hr]) hn (Or.inr (Or.inr (Or.inr (Or.inr ⟨rfl, ht, hv⟩)))) (hb B.2.1 hd) hl, hrun, hended, _, _, rfl, hq, ⟨_, rfl⟩, hW, hsame.mono hc hs⟩
theorem r_void (B : Ctx p s m meth c Z own nm bytes maxL ret) (X : Stand p l e R s m args below meth c T locs cells slots) {Q : Option Value → Heap → List Loc → Prop} {kc kn : Nat} (hr : ret = none) (hd : decode bytes pc = .ok (.return_, 1)) (hq : Q none T.heap locs) (hc : cells ≤ kc) (hs : slots ≤ kn) : Go p e below (Ends s Q kc kn) (T.setTop (mkF m pc Ls [])) := by
  obtain ⟨fs, hl, hrun, hended, hW, hsame⟩ := X.leave (v := none) (fun _ => rfl) B.2.2.2.2.2.2.1
  exact ⟨_, _, X.returnOut B.1 (by rw [B.2.2.2.2.2.1, hr]) (hb B.2.1 hd) hl, hrun, hended, _, _, rfl, hq, ⟨_, rfl⟩, hW, hsame.mono hc hs⟩
theorem c_virtual (B : Ctx p s m meth c Z own nm bytes maxL ret) (X : Stand p l e R s m args below meth c T locs cells slots) {y : MethodName} {bs : ByteArray} {mx : Nat} {rt : Option FieldType} {rm : Room} {i W : Nat} {argsL under : List Value} {Q : Option Value → Heap → List Loc → Prop} {st : List Value} {C : String} {b : Addr} (eT : T.heap = h) (w1 : (Jvm.Cond.methodLink own i y).before a0 Z = true) (w2 : (Jvm.Cond.declares y).before a0 Z = true) (w3 : (Jvm.Cond.selects C y y).before a0 Z = true) (w4 : (Jvm.Cond.instanceMethod y).before a0 Z = true) (wc : (Jvm.Cond.code y bs mx rt).before a0 Z = true) (wz : (Jvm.Cond.initialized y.cls).before a0 Z = true) (hy : y.cls ≠ "java/lang/invoke/MethodHandle" ∧ y.cls ≠ "java/lang/invoke/VarHandle") (hM : OMeets l Z y bs mx rt [] rm (.ref b :: argsL).toArray h Q) (E : Exa Z h b C) (hlen : ∀ sig, parseMethodDescriptor y.desc = some sig → argsL.length = sig.parameters.length) (hst : st = argsL.reverse ++ .ref b :: under) (hW : (under.map fun v => v.category).sum = W) (hf : rm.frames + 1 ≤ R.frames) (hlo : W + (mx + 11) + rm.locals ≤ R.locals) (hce : cells + rm.cells ≤ R.cells) (hsl : slots + rm.slots ≤ R.slots) (hsz : Ls.size = maxL) (hd : decode bytes pc = .ok (.invokevirtual i, 3)) (hp : pc + 3 = pc') (k : ∀ v T' L, Stand p l e R s m args below meth c T' (locs ++ L) (cells + rm.cells) (slots + rm.slots) → Q v T'.heap L → Go p e below P (T'.setTop (mkF m pc' Ls (v.toList ++ under)))) : Go p e below P (T.setTop (mkF m pc Ls st)) := by
  subst hp hst
  obtain ⟨cq, kq, qa, qb, qc⟩ := isOf B.2.2.2.2.2.2.2 eT E
  obtain ⟨v, _, ⟨T', L', k', n'⟩, -, X', ⟨Lc, hQ, l', y', z'⟩, st'⟩ := X.virtualBack B.1 (y := y) B.2.2.2.1 (mvT B.2.2.2.2.2.2.2 w1) (mvT B.2.2.2.2.2.2.2 w2) (notFace_of_selects (args := #[]) (mvT B.2.2.2.2.2.2.2 w3)) (mvT B.2.2.2.2.2.2.2 w3) (mvT B.2.2.2.2.2.2.2 w4) hy (z := y) (backOf (W := W) hM B.2.2.2.2.2.2.2 wc wz hf hlo) qa qc (g := mkF m pc Ls (argsL.reverse ++ .ref b :: under)) rfl (by rw [B.2.2.1]; exact hsz) (Steps.refl _) (argsL := argsL) (rest := under) hlen rfl (by show 2 * 0 + _ ≤ _; rw [Nat.mul_zero, Nat.zero_add]; exact Nat.le_of_eq hW) (hb B.2.1 hd) (fun _ _ => ⟨rfl, eT, hce, hsl⟩)
  dsimp only [Pt.U, Pt.locs, Pt.cells, Pt.slots] at X' l' y' z' st' hQ
  subst l' y' z'
  exact Go.on (fun t q => st'.trans q) (k v T' Lc X' hQ)
theorem c_static (B : Ctx p s m meth c Z own nm bytes maxL ret) (X : Stand p l e R s m args below meth c T locs cells slots) {y : MethodName} {bs : ByteArray} {mx : Nat} {rt : Option FieldType} {rm : Room} {i W : Nat} {argsL under : List Value} {Q : Option Value → Heap → List Loc → Prop} {st : List Value} (eT : T.heap = h) (w1 : (Jvm.Cond.methodLink own i y).before a0 Z = true) (w2 : (Jvm.Cond.static y).before a0 Z = true) (wc : (Jvm.Cond.code y bs mx rt).before a0 Z = true) (wz : (Jvm.Cond.initialized y.cls).before a0 Z = true) (hy : y.cls ≠ "java/lang/invoke/MethodHandle" ∧ y.cls ≠ "java/lang/invoke/VarHandle") (hM : OMeets l Z y bs mx rt [] rm argsL.toArray h Q) (hlen : ∀ sig, parseMethodDescriptor y.desc = some sig → argsL.length = sig.parameters.length) (hst : st = argsL.reverse ++ under) (hW : (under.map fun v => v.category).sum = W) (hf : rm.frames + 1 ≤ R.frames) (hlo : W + (mx + 11) + rm.locals ≤ R.locals) (hce : cells + rm.cells ≤ R.cells) (hsl : slots + rm.slots ≤ R.slots) (hsz : Ls.size = maxL) (hd : decode bytes pc = .ok (.invokestatic i, 3)) (hp : pc + 3 = pc') (k : ∀ v T' L, Stand p l e R s m args below meth c T' (locs ++ L) (cells + rm.cells) (slots + rm.slots) → Q v T'.heap L → Go p e below P (T'.setTop (mkF m pc' Ls (v.toList ++ under)))) : Go p e below P (T.setTop (mkF m pc Ls st)) := by
  subst hp hst
  obtain ⟨v, _, ⟨T', L', k', n'⟩, -, X', ⟨Lc, hQ, l', y', z'⟩, st'⟩ := Jvm.LawKit.callS X B.1 (y := y) B.2.2.2.1 (mvT B.2.2.2.2.2.2.2 w1) (mvT B.2.2.2.2.2.2.2 w2) (mvT B.2.2.2.2.2.2.2 wz) (mvT B.2.2.2.2.2.2.2 wc) hy (backOf (W := W) hM B.2.2.2.2.2.2.2 wc wz hf hlo) (g := mkF m pc Ls (argsL.reverse ++ under)) rfl (by rw [B.2.2.1]; exact hsz) (argsL := argsL) (rest := under) hlen rfl (by show 2 * 0 + _ ≤ _; rw [Nat.mul_zero, Nat.zero_add]; exact Nat.le_of_eq hW) (hb B.2.1 hd) (fun _ _ => ⟨rfl, eT, hce, hsl⟩)
  dsimp only [Pt.U, Pt.locs, Pt.cells, Pt.slots] at X' l' y' z' st' hQ
  subst l' y' z'
  exact Go.on st' (k v T' Lc X' hQ)
theorem c_init (B : Ctx p s m meth c Z own nm bytes maxL ret) (X : Stand p l e R s m args below meth c T locs cells slots) {y : MethodName} {bs : ByteArray} {mx : Nat} {rm : Room} {i W : Nat} {argsL under : List Value} {Q : Option Value → Heap → List Loc → Prop} {st : List Value} {b : Addr} (eT : T.heap = h) (hy1 : y.name = "<init>") (w1 : (Jvm.Cond.methodLink own i y).before a0 Z = true) (w2 : (Jvm.Cond.instanceMethod y).before a0 Z = true) (wc : (Jvm.Cond.code y bs mx none).before a0 Z = true) (wz : (Jvm.Cond.initialized y.cls).before a0 Z = true) (hy : y.cls ≠ "java/lang/invoke/MethodHandle" ∧ y.cls ≠ "java/lang/invoke/VarHandle") (hM : OMeets l Z y bs mx none [] rm (.ref b :: argsL).toArray h Q) (hlen : ∀ sig, parseMethodDescriptor y.desc = some sig → argsL.length = sig.parameters.length) (hst : st = argsL.reverse ++ .ref b :: under) (hW : (under.map fun v => v.category).sum = W) (hf : rm.frames + 1 ≤ R.frames) (hlo : W + (mx + 11) + rm.locals ≤ R.locals) (hce : cells + rm.cells ≤ R.cells) (hsl : slots + rm.slots ≤ R.slots) (hsz : Ls.size = maxL) (hd : decode bytes pc = .ok (.invokespecial i, 3)) (hp : pc + 3 = pc') (k : ∀ v T' L, Stand p l e R s m args below meth c T' (locs ++ L) (cells + rm.cells) (slots + rm.slots) → Q v T'.heap L → Go p e below P (T'.setTop (mkF m pc' Ls (v.toList ++ under)))) : Go p e below P (T.setTop (mkF m pc Ls st)) := by
  subst hp hst
  obtain ⟨v, _, ⟨T', L', k', n'⟩, -, X', ⟨Lc, hQ, l', y', z'⟩, st'⟩ := X.specialBack B.1 (y := y) hy1 B.2.2.2.1 (mvT B.2.2.2.2.2.2.2 w1) (mvT B.2.2.2.2.2.2.2 w2) (mvT B.2.2.2.2.2.2.2 wc) hy (backOf (W := W) hM B.2.2.2.2.2.2.2 wc wz hf hlo) (g := mkF m pc Ls (argsL.reverse ++ .ref b :: under)) rfl (by rw [B.2.2.1]; exact hsz) (Steps.refl _) (a := b) (argsL := argsL) (rest := under) hlen rfl (by show 2 * 0 + _ ≤ _; rw [Nat.mul_zero, Nat.zero_add]; exact Nat.le_of_eq hW) (hb B.2.1 hd) (fun _ _ => ⟨rfl, eT, hce, hsl⟩)
  dsimp only [Pt.U, Pt.locs, Pt.cells, Pt.slots] at X' l' y' z' st' hQ
  subst l' y' z'
  exact Go.on (fun t q => st'.trans q) (k v T' Lc X' hQ)
theorem p_virtual (B : Ctx p s m meth c Z own nm bytes maxL ret) (X : Stand p l e R s m args below meth c T locs cells slots) {y : MethodName} {bs : ByteArray} {mx : Nat} {rt : Option FieldType} {rm : Room} {i W : Nat} {argsL under : List Value} {st : List Value} {C : String} {b : Addr} {r : Option Value} (eT : T.heap = h) (w1 : (Jvm.Cond.methodLink own i y).before a0 Z = true) (w2 : (Jvm.Cond.declares y).before a0 Z = true) (w3 : (Jvm.Cond.selects C y y).before a0 Z = true) (w4 : (Jvm.Cond.instanceMethod y).before a0 Z = true) (wc : (Jvm.Cond.code y bs mx rt).before a0 Z = true) (wz : (Jvm.Cond.initialized y.cls).before a0 Z = true) (hy : y.cls ≠ "java/lang/invoke/MethodHandle" ∧ y.cls ≠ "java/lang/invoke/VarHandle") (hM : OMeets l Z y bs mx rt [] rm (.ref b :: argsL).toArray h (PureQ r h)) (E : Exa Z h b C) (hlen : ∀ sig, parseMethodDescriptor y.desc = some sig → argsL.length = sig.parameters.length) (hst : st = argsL.reverse ++ .ref b :: under) (hW : (under.map fun v => v.category).sum = W) (hf : rm.frames + 1 ≤ R.frames) (hlo : W + (mx + 11) + rm.locals ≤ R.locals) (hce : rm.cells = 0) (hsl : rm.slots = 0) (hc0 : cells ≤ R.cells) (hs0 : slots ≤ R.slots) (hsz : Ls.size = maxL) (hd : decode bytes pc = .ok (.invokevirtual i, 3)) (hp : pc + 3 = pc') (k : ∀ T', Stand p l e R s m args below meth c T' locs cells slots → T'.heap = h → Go p e below P (T'.setTop (mkF m pc' Ls (r.toList ++ under)))) : Go p e below P (T.setTop (mkF m pc Ls st)) := by
  refine c_virtual B X eT w1 w2 w3 w4 wc wz hy hM E hlen hst hW hf hlo (by omega) (by omega) hsz hd hp ?_
  intro v T' L X' hQ
  obtain ⟨rfl, rfl, e'⟩ := hQ
  rw [hce, hsl, List.append_nil] at X'
  exact k T' X' e'
theorem p_static (B : Ctx p s m meth c Z own nm bytes maxL ret) (X : Stand p l e R s m args below meth c T locs cells slots) {y : MethodName} {bs : ByteArray} {mx : Nat} {rt : Option FieldType} {rm : Room} {i W : Nat} {argsL under : List Value} {st : List Value}  {r : Option Value} (eT : T.heap = h) (w1 : (Jvm.Cond.methodLink own i y).before a0 Z = true) (w2 : (Jvm.Cond.static y).before a0 Z = true) (wc : (Jvm.Cond.code y bs mx rt).before a0 Z = true) (wz : (Jvm.Cond.initialized y.cls).before a0 Z = true) (hy : y.cls ≠ "java/lang/invoke/MethodHandle" ∧ y.cls ≠ "java/lang/invoke/VarHandle") (hM : OMeets l Z y bs mx rt [] rm argsL.toArray h (PureQ r h))  (hlen : ∀ sig, parseMethodDescriptor y.desc = some sig → argsL.length = sig.parameters.length) (hst : st = argsL.reverse ++ under) (hW : (under.map fun v => v.category).sum = W) (hf : rm.frames + 1 ≤ R.frames) (hlo : W + (mx + 11) + rm.locals ≤ R.locals) (hce : rm.cells = 0) (hsl : rm.slots = 0) (hc0 : cells ≤ R.cells) (hs0 : slots ≤ R.slots) (hsz : Ls.size = maxL) (hd : decode bytes pc = .ok (.invokestatic i, 3)) (hp : pc + 3 = pc') (k : ∀ T', Stand p l e R s m args below meth c T' locs cells slots → T'.heap = h → Go p e below P (T'.setTop (mkF m pc' Ls (r.toList ++ under)))) : Go p e below P (T.setTop (mkF m pc Ls st)) := by
  refine c_static B X eT w1 w2 wc wz hy hM hlen hst hW hf hlo (by omega) (by omega) hsz hd hp ?_
  intro v T' L X' hQ
  obtain ⟨rfl, rfl, e'⟩ := hQ
  rw [hce, hsl, List.append_nil] at X'
  exact k T' X' e'
theorem p_init (B : Ctx p s m meth c Z own nm bytes maxL ret) (X : Stand p l e R s m args below meth c T locs cells slots) {y : MethodName} {bs : ByteArray} {mx : Nat} {rm : Room} {i W : Nat} {argsL under : List Value} {st : List Value} {b : Addr} (eT : T.heap = h) (hy1 : y.name = "<init>") (w1 : (Jvm.Cond.methodLink own i y).before a0 Z = true) (w2 : (Jvm.Cond.instanceMethod y).before a0 Z = true) (wc : (Jvm.Cond.code y bs mx none).before a0 Z = true) (wz : (Jvm.Cond.initialized y.cls).before a0 Z = true) (hy : y.cls ≠ "java/lang/invoke/MethodHandle" ∧ y.cls ≠ "java/lang/invoke/VarHandle") (hM : OMeets l Z y bs mx none [] rm (.ref b :: argsL).toArray h (PureQ none h)) (hlen : ∀ sig, parseMethodDescriptor y.desc = some sig → argsL.length = sig.parameters.length) (hst : st = argsL.reverse ++ .ref b :: under) (hW : (under.map fun v => v.category).sum = W) (hf : rm.frames + 1 ≤ R.frames) (hlo : W + (mx + 11) + rm.locals ≤ R.locals) (hce : rm.cells = 0) (hsl : rm.slots = 0) (hc0 : cells ≤ R.cells) (hs0 : slots ≤ R.slots) (hsz : Ls.size = maxL) (hd : decode bytes pc = .ok (.invokespecial i, 3)) (hp : pc + 3 = pc') (k : ∀ T', Stand p l e R s m args below meth c T' locs cells slots → T'.heap = h → Go p e below P (T'.setTop (mkF m pc' Ls under))) : Go p e below P (T.setTop (mkF m pc Ls st)) := by
  refine c_init B X eT hy1 w1 w2 wc wz hy hM hlen hst hW hf hlo (by omega) (by omega) hsz hd hp ?_
  intro v T' L X' hQ
  obtain ⟨rfl, rfl, e'⟩ := hQ
  rw [hce, hsl, List.append_nil] at X'
  exact k T' X' e'
theorem c_virtualUp (B : Ctx p s m meth c Z own nm bytes maxL ret) (X : Stand p l e R s m args below meth c T locs cells slots) {y z : MethodName} {bs : ByteArray} {mx : Nat} {rt : Option FieldType} {rm : Room} {i W : Nat} {argsL under : List Value} {Q : Option Value → Heap → List Loc → Prop} {st : List Value} {C owner : String} {b : Addr} (eT : T.heap = h) (w1 : (Jvm.Cond.methodLink own i y).before a0 Z = true) (ws : (Jvm.Cond.sameMethod y.cls owner y.name y.desc).before a0 Z = true) (w2 : (Jvm.Cond.declares ⟨owner, y.name, y.desc⟩).before a0 Z = true) (w3 : (Jvm.Cond.selects C y z).before a0 Z = true) (w4 : (Jvm.Cond.instanceMethod z).before a0 Z = true) (wc : (Jvm.Cond.code z bs mx rt).before a0 Z = true) (wz : (Jvm.Cond.initialized z.cls).before a0 Z = true) (hy : owner ≠ "java/lang/invoke/MethodHandle" ∧ owner ≠ "java/lang/invoke/VarHandle") (hM : OMeets l Z z bs mx rt [] rm (.ref b :: argsL).toArray h Q) (E : Exa Z h b C) (hlen : ∀ sig, parseMethodDescriptor y.desc = some sig → argsL.length = sig.parameters.length) (hst : st = argsL.reverse ++ .ref b :: under) (hW : (under.map fun v => v.category).sum = W) (hf : rm.frames + 1 ≤ R.frames) (hlo : W + (mx + 11) + rm.locals ≤ R.locals) (hce : cells + rm.cells ≤ R.cells) (hsl : slots + rm.slots ≤ R.slots) (hsz : Ls.size = maxL) (hd : decode bytes pc = .ok (.invokevirtual i, 3)) (hp : pc + 3 = pc') (k : ∀ v T' L, Stand p l e R s m args below meth c T' (locs ++ L) (cells + rm.cells) (slots + rm.slots) → Q v T'.heap L → Go p e below P (T'.setTop (mkF m pc' Ls (v.toList ++ under)))) : Go p e below P (T.setTop (mkF m pc Ls st)) := by
  subst hp hst
  obtain ⟨cq, kq, qa, qb, qc⟩ := isOf B.2.2.2.2.2.2.2 eT E
  obtain ⟨v, _, ⟨T', L', k', n'⟩, -, X', ⟨Lc, hQ, l', y', z'⟩, st'⟩ := X.virtualBackUp B.1 (x := y) (y := z) B.2.2.2.1 (mvT B.2.2.2.2.2.2.2 w1) (mvT B.2.2.2.2.2.2.2 ws) (mvT B.2.2.2.2.2.2.2 w2) hy (mvT B.2.2.2.2.2.2.2 w3) (mvT B.2.2.2.2.2.2.2 w4) (backOf (W := W) hM B.2.2.2.2.2.2.2 wc wz hf hlo) qa qc (g := mkF m pc Ls (argsL.reverse ++ .ref b :: under)) rfl (by rw [B.2.2.1]; exact hsz) (Steps.refl _) (argsL := argsL) (rest := under) hlen rfl (by show 2 * 0 + _ ≤ _; rw [Nat.mul_zero, Nat.zero_add]; exact Nat.le_of_eq hW) (hb B.2.1 hd) (fun _ _ => ⟨rfl, eT, hce, hsl⟩)
  dsimp only [Pt.U, Pt.locs, Pt.cells, Pt.slots] at X' l' y' z' st' hQ
  subst l' y' z'
  exact Go.on (fun t q => st'.trans q) (k v T' Lc X' hQ)
theorem p_virtualUp (B : Ctx p s m meth c Z own nm bytes maxL ret) (X : Stand p l e R s m args below meth c T locs cells slots) {y z : MethodName} {bs : ByteArray} {mx : Nat} {rt : Option FieldType} {rm : Room} {i W : Nat} {argsL under : List Value} {st : List Value} {C owner : String} {b : Addr} {r : Option Value} (eT : T.heap = h) (w1 : (Jvm.Cond.methodLink own i y).before a0 Z = true) (ws : (Jvm.Cond.sameMethod y.cls owner y.name y.desc).before a0 Z = true) (w2 : (Jvm.Cond.declares ⟨owner, y.name, y.desc⟩).before a0 Z = true) (w3 : (Jvm.Cond.selects C y z).before a0 Z = true) (w4 : (Jvm.Cond.instanceMethod z).before a0 Z = true) (wc : (Jvm.Cond.code z bs mx rt).before a0 Z = true) (wz : (Jvm.Cond.initialized z.cls).before a0 Z = true) (hy : owner ≠ "java/lang/invoke/MethodHandle" ∧ owner ≠ "java/lang/invoke/VarHandle") (hM : OMeets l Z z bs mx rt [] rm (.ref b :: argsL).toArray h (PureQ r h)) (E : Exa Z h b C) (hlen : ∀ sig, parseMethodDescriptor y.desc = some sig → argsL.length = sig.parameters.length) (hst : st = argsL.reverse ++ .ref b :: under) (hW : (under.map fun v => v.category).sum = W) (hf : rm.frames + 1 ≤ R.frames) (hlo : W + (mx + 11) + rm.locals ≤ R.locals) (hce : rm.cells = 0) (hsl : rm.slots = 0) (hc0 : cells ≤ R.cells) (hs0 : slots ≤ R.slots) (hsz : Ls.size = maxL) (hd : decode bytes pc = .ok (.invokevirtual i, 3)) (hp : pc + 3 = pc') (k : ∀ T', Stand p l e R s m args below meth c T' locs cells slots → T'.heap = h → Go p e below P (T'.setTop (mkF m pc' Ls (r.toList ++ under)))) : Go p e below P (T.setTop (mkF m pc Ls st)) := by
  refine c_virtualUp B X eT w1 ws w2 w3 w4 wc wz hy hM E hlen hst hW hf hlo (by omega) (by omega) hsz hd hp ?_
  intro v T' L X' hQ
  obtain ⟨rfl, rfl, e'⟩ := hQ
  rw [hce, hsl, List.append_nil] at X'
  exact k T' X' e'
end Kit
end Jvm.OwnKit

namespace Jvm.OwnKit
open Sem ClassFile Op Lib Jvm.Stand Jvm.Free Jvm.LawKit Jvm.RoadKit
section Heap
variable {p : Program} {l : Launch} {e : Env} {R : Room} {s : State} {m : MethodId} {args : Array Value} {below : List Frame} {meth : Method} {c : Code} {T : State} {locs : List Loc} {cells slots : Nat} {Z : State} {a0 : Array Value} {h h' : Heap} {own nm : String} {bytes : ByteArray} {maxL : Nat} {ret : Option FieldType} {P : Outcome → State → Prop} {pc pc' : Nat} {Ls Ls' : Array Slot} {rest : List Value} {a b : Addr} {k : ClassId} {ty : FieldType} {n i : Nat} {f g : Nat → Value} {v w : Value} {sl : Nat} {ws : List Addr}
/-- an array at a: n places, place i holds f i -/
def Ary (Z : State) (h : Heap) (a : Addr) (k : ClassId) (ty : FieldType) (n : Nat) (f : Nat → Value) : Prop := ∃ c : Cell, Arr Z h a c ty ∧ c.cls = k ∧ c.slots.size = n ∧ n < 2 ^ 31 ∧ ∀ i, i < n → c.slots[i]? = some (f i)
def upd (f : Nat → Value) (j : Nat) (v : Value) : Nat → Value := fun i => if i = j then v else f i
def lst (L : List Value) (d : Value) : Nat → Value := fun i => L.getD i d
theorem Ary.lt (F : Ary Z h a k ty n f) : a < h.size := by obtain ⟨c, A, -⟩ := F; exact A.lt
theorem Ary.ext (E : Ext h h') (F : Ary Z h a k ty n f) : Ary Z h' a k ty n f := by obtain ⟨c, A, r⟩ := F; exact ⟨c, A.ext E, r⟩
theorem Ary.other (W : Wr h h' b sl v) (F : Ary Z h a k ty n f) (q : a ≠ b) : Ary Z h' a k ty n f := by obtain ⟨c, A, r⟩ := F; exact ⟨c, A.other W q, r⟩
theorem Ary.keep (F : Ary Z h a k ty n f) (K : Keep h h' ws) (q : a ∉ ws) : Ary Z h' a k ty n f := by obtain ⟨c, A, r⟩ := F; exact ⟨c, ⟨K.2.1 a c A.1 q, A.2⟩, r⟩
theorem Ary.congr (F : Ary Z h a k ty n f) (q : ∀ i, i < n → f i = g i) : Ary Z h a k ty n g := by obtain ⟨c, A, r1, r2, r3, r4⟩ := F; exact ⟨c, A, r1, r2, r3, fun i hi => by rw [r4 i hi, q i hi]⟩
theorem upd_lst {L : List Value} {d v : Value} {j : Nat} (hj : j < L.length) {L' : List Value} (e : L.set j v = L') : upd (lst L d) j v = lst L' d := by
  subst e; funext i
  simp only [upd, lst, List.getD_eq_getElem?_getD, List.getElem?_set]
  by_cases q : i = j
  · subst q; simp [hj]
  · simp [q, Ne.symm q]
theorem Ary.same {j : Nat} (W : Wr h h' a j v) (F : Ary Z h a k ty n f) : Ary Z h' a k ty n (upd f j v) := by
  obtain ⟨c, A, r1, r2, r3, r4⟩ := F
  obtain ⟨cell, w1, w2, w3, -⟩ := id W
  cases w1.symm.trans A.1
  refine ⟨_, A.same W, r1, by rw [sz_set]; exact r2, r3, fun i hi => ?_⟩
  by_cases q : i = j
  · subst q; simp [Cell.setSlot, upd, w3]
  · simp only [Cell.setSlot, upd, if_neg q]; rw [Array.getElem?_setIfInBounds_ne (Ne.symm q)]; exact r4 i hi
theorem Ary.of_new {x : Int32} {N : Nat} (A : Arr Z h a (newA k ty x) ty) (hx : ¬ x < 0) (hN : x.toNatClampNeg = N) : Ary Z h a k ty N (fun _ => defaultValue ty) := by
  subst hN
  refine ⟨_, A, rfl, sz_new _ _ _, (back32 hx).2, fun i hi => ?_⟩
  simp [newA, hi]
theorem Ary.of_rep (F : Ary Z h a k ty n (fun _ => v)) {L : List Value} (q : ∀ i, i < n → L.getD i v = v) : Ary Z h a k ty n (lst L v) := F.congr fun i hi => (q i hi).symm

theorem Ary.sto {C : String} {y : Addr} (F : Ary Z h a k ty n f) (O : Ovr Z k C) (I : Ins Z h y C true) : Sto Z h a (.ref y) := by obtain ⟨c, A, r, -⟩ := F; exact Sto.of A (r ▸ O) I
theorem Ary.full {L : List Value} {j : Nat} {L' : List Value} (F : Ary Z h a k ty n (upd (lst L w) j v)) (hj : j < L.length) (e : L.set j v = L') : Ary Z h a k ty n (lst L' w) := by rw [← upd_lst (d := w) hj e]; exact F
theorem Ary.stoA {C : String} {y : Addr} {t0 : FieldType} (F : Ary Z h a k ty n f) (O : OvrA Z k t0 C) (I : Ins Z h y C true) : Sto Z h a (.ref y) := by obtain ⟨c, A, r, -⟩ := F; exact Sto.ofVA A r O I
theorem old_le {n0 : Nat} (O : Old Z n0 h) : n0 ≤ h.size := O.1 ▸ O.2.1
theorem s_new (B : Ctx p s m meth c Z own nm bytes maxL ret) (X : Stand p l e R s m args below meth c T locs cells slots) {C : String} {i0 n0 : Nat} (eT : T.heap = h) (w : (Jvm.Cond.classLink own i0 C).before a0 Z = true) (wi : (Jvm.Cond.instantiable C n0).before a0 Z = true) (wz : (Jvm.Cond.initialized C).before a0 Z = true) (hc : cells + 1 ≤ R.cells) (hl : slots + n0 ≤ R.slots) (hd : decode bytes pc = .ok (.new i0, 3)) (hp : pc + 3 = pc') (k : ∀ T' h' a, a = h.size → Stand p l e R s m args below meth c T' locs (cells + 1) (slots + n0) → T'.heap = h' → Ext h h' → Exa Z h' a C → (∀ {O nm d : String} {ty : FieldType}, Laid Z a0 C O nm d → parseFieldDescriptor d = some ty → Fld Z h' a O nm d (defaultValue ty)) → Go p e below P (T'.setTop (mkF m pc' Ls (.ref a :: rest)))) : Go p e below P (T.setTop (mkF m pc Ls (rest))) := by
  subst hp
  obtain ⟨T', h', X', e', E, A, D, -, st⟩ := newO X B.1 B.2.2.2.2.2.2.2 B.2.2.2.1 w wi wz eT (g := mkF m pc Ls rest) rfl (hb B.2.1 hd) hc hl
  exact Go.on st (k T' h' _ rfl X' e' E A D)
theorem s_initO (B : Ctx p s m meth c Z own nm bytes maxL ret) (X : Stand p l e R s m args below meth c T locs cells slots) {i0 W : Nat} {a : Addr} (eT : T.heap = h) (w1 : (Jvm.Cond.methodLink own i0 Lib.objectInit).before a0 Z = true) (w2 : (Jvm.Cond.instanceMethod Lib.objectInit).before a0 Z = true) (w3 : (Jvm.Cond.code Lib.objectInit ⟨#[0xb1]⟩ 1 none).before a0 Z = true) (hW : (rest.map fun v => v.category).sum = W) (hf : 1 ≤ R.frames) (hl : W + 12 ≤ R.locals) (hsz : Ls.size = maxL) (hd : decode bytes pc = .ok (.invokespecial i0, 3)) (hp : pc + 3 = pc') (k : ∀ T', Stand p l e R s m args below meth c T' locs cells slots → T'.heap = h → Go p e below P (T'.setTop (mkF m pc' Ls (rest)))) : Go p e below P (T.setTop (mkF m pc Ls (.ref a :: rest))) := by
  subst hp
  obtain ⟨T', X', e', st⟩ := initO X B.1 B.2.2.2.2.2.2.2 B.2.2.2.1 w1 w2 w3 eT (g := mkF m pc Ls (.ref a :: rest)) rfl (by rw [B.2.2.1]; exact hsz) rfl (hb B.2.1 hd) hf (W := W) (by show 2 * 0 + _ ≤ _; rw [Nat.mul_zero, Nat.zero_add]; exact Nat.le_of_eq hW) hl
  exact Go.on st (k T' X' e')
theorem s_putF (B : Ctx p s m meth c Z own nm bytes maxL ret) (X : Stand p l e R s m args below meth c T locs cells slots) {i0 kk : Nat} {R0 O n d host C : String} {ty : FieldType} {a : Addr} {v old : Value} (eT : T.heap = h) (w : (Jvm.Cond.fieldLink own i0 R0 n d).before a0 Z = true ∨ (Jvm.Cond.fieldLinkNest own i0 R0 n d host).before a0 Z = true) (via : Via Z R0 O n d) (F : Fld Z h a O n d old) (E : Exa Z h a C) (L : (Jvm.Cond.lays C O n d).before a0 Z = true ∨ ((Jvm.Cond.laysFinal C O n d).before a0 Z = true ∧ own = O ∧ nm = "<init>")) (wi : (Jvm.Cond.instantiable C kk).before a0 Z = true) (hty : parseFieldDescriptor d = some ty) (hn : narrow ty v = v) (hf : fits ty v = true) (hd : decode bytes pc = .ok (.putfield i0, 3)) (hp : pc + 3 = pc') (k : ∀ T' h', Stand p l e R s m args below meth c T' (locs ++ [⟨a, Jvm.RoadKit.slotOf Z O n d⟩]) cells slots → T'.heap = h' → Wr h h' a (Jvm.RoadKit.slotOf Z O n d) v → Go p e below P (T'.setTop (mkF m pc' Ls (rest)))) : Go p e below P (T.setTop (mkF m pc Ls (v :: .ref a :: rest))) := by
  subst hp
  obtain ⟨T', h', X', e', W, st⟩ := putF X B.1 B.2.2.2.2.2.2.2 B.2.2.2.1 w via eT F E (L.imp id fun q => ⟨q.1, q.2.1, by rw [B.2.2.2.2.1]; exact q.2.2⟩) wi hty hn hf (g := mkF m pc Ls (v :: .ref a :: rest)) rfl rfl (hb B.2.1 hd)
  exact Go.on st (k T' h' X' e' W)
theorem s_putFN (B : Ctx p s m meth c Z own nm bytes maxL ret) (X : Stand p l e R s m args below meth c T locs cells slots) {i0 kk : Nat} {R0 O n d C : String} {ty : FieldType} {a : Addr} {v v' old : Value} (eT : T.heap = h) (w : (Jvm.Cond.fieldLink own i0 R0 n d).before a0 Z = true) (via : Via Z R0 O n d) (F : Fld Z h a O n d old) (E : Exa Z h a C) (L : (Jvm.Cond.lays C O n d).before a0 Z = true ∨ ((Jvm.Cond.laysFinal C O n d).before a0 Z = true ∧ own = O ∧ nm = "<init>")) (wi : (Jvm.Cond.instantiable C kk).before a0 Z = true) (hty : parseFieldDescriptor d = some ty) (hn : narrow ty v = v') (hf : fits ty v' = true) (hd : decode bytes pc = .ok (.putfield i0, 3)) (hp : pc + 3 = pc') (k : ∀ T' h', Stand p l e R s m args below meth c T' (locs ++ [⟨a, Jvm.RoadKit.slotOf Z O n d⟩]) cells slots → T'.heap = h' → Wr h h' a (Jvm.RoadKit.slotOf Z O n d) v' → Go p e below P (T'.setTop (mkF m pc' Ls (rest)))) : Go p e below P (T.setTop (mkF m pc Ls (v :: .ref a :: rest))) := by
  subst hp
  obtain ⟨T', h', X', e', W, st⟩ := putFN X B.1 B.2.2.2.2.2.2.2 B.2.2.2.1 w via eT F E (L.imp id fun q => ⟨q.1, q.2.1, by rw [B.2.2.2.2.1]; exact q.2.2⟩) wi hty hn hf (g := mkF m pc Ls (v :: .ref a :: rest)) rfl rfl (hb B.2.1 hd)
  exact Go.on st (k T' h' X' e' W)
theorem s_newP (B : Ctx p s m meth c Z own nm bytes maxL ret) (X : Stand p l e R s m args below meth c T locs cells slots) {aty : ArrayType} {x : Int32} {N : Nat} (eT : T.heap = h) (w : (Jvm.Cond.arrayClass (newarray.typeOf aty)).before a0 Z = true) (hn : ¬ x < 0) (hN : x.toNatClampNeg = N) {cap : Nat} (hcap : N ≤ cap) (hb8 : cap * 8 ≤ 536870912) (hc : cells + 1 ≤ R.cells) (hl : slots + cap ≤ R.slots) (hd : decode bytes pc = .ok (.newarray aty, 2)) (hp : pc + 2 = pc') (k : ∀ T' h' a kA, a = h.size → Stand p l e R s m args below meth c T' locs (cells + 1) (slots + cap) → T'.heap = h' → Ext h h' → Ary Z h' a kA (newarray.typeOf aty) N (fun _ => defaultValue (newarray.typeOf aty)) → Go p e below P (T'.setTop (mkF m pc' Ls (.ref a :: rest)))) : Go p e below P (T.setTop (mkF m pc Ls (.int x :: rest))) := by
  subst hp
  obtain ⟨T', h', cA, X', e', E, A, st⟩ := newP X B.1 B.2.2.2.2.2.2.2 w eT (g := mkF m pc Ls (.int x :: rest)) rfl (hb B.2.1 hd) rfl hn (cap := cap) (hN ▸ hcap) hb8 hc hl
  exact Go.on st (k T' h' _ cA rfl X' e' E (Ary.of_new A hn hN))
theorem s_newR (B : Ctx p s m meth c Z own nm bytes maxL ret) (X : Stand p l e R s m args below meth c T locs cells slots) {i0 : Nat} {C : String} {x : Int32} {N : Nat} (eT : T.heap = h) (w1 : (Jvm.Cond.classLink own i0 C).before a0 Z = true) (w2 : (Jvm.Cond.arrayOver (.object C)).before a0 Z = true) (hn : ¬ x < 0) (hN : x.toNatClampNeg = N) {cap : Nat} (hcap : N ≤ cap) (hb8 : cap * 8 ≤ 536870912) (hc : cells + 1 ≤ R.cells) (hl : slots + cap ≤ R.slots) (hd : decode bytes pc = .ok (.anewarray i0, 3)) (hp : pc + 3 = pc') (k : ∀ T' h' a kA, a = h.size → Stand p l e R s m args below meth c T' locs (cells + 1) (slots + cap) → T'.heap = h' → Ext h h' → Ary Z h' a kA (.object C) N (fun _ => .null) → Ovr Z kA C → Go p e below P (T'.setTop (mkF m pc' Ls (.ref a :: rest)))) : Go p e below P (T.setTop (mkF m pc Ls (.int x :: rest))) := by
  subst hp
  obtain ⟨T', h', cA, X', e', E, A, O, st⟩ := newR X B.1 B.2.2.2.2.2.2.2 B.2.2.2.1 w1 w2 eT (g := mkF m pc Ls (.int x :: rest)) rfl (hb B.2.1 hd) rfl hn (cap := cap) (hN ▸ hcap) hb8 hc hl
  exact Go.on st (k T' h' _ cA rfl X' e' E (Ary.of_new A hn hN) O)
theorem s_newRA (B : Ctx p s m meth c Z own nm bytes maxL ret) (X : Stand p l e R s m args below meth c T locs cells slots) {i0 : Nat} {C : String} {ty : FieldType} {x : Int32} {N : Nat} (eT : T.heap = h) (hC : (FieldType.array ty).toString = C) (w1 : (Jvm.Cond.classLink own i0 C).before a0 Z = true) (w2 : (Jvm.Cond.arrayOver (.array ty)).before a0 Z = true) (hn : ¬ x < 0) (hN : x.toNatClampNeg = N) {cap : Nat} (hcap : N ≤ cap) (hb8 : cap * 8 ≤ 536870912) (hc : cells + 1 ≤ R.cells) (hl : slots + cap ≤ R.slots) (hd : decode bytes pc = .ok (.anewarray i0, 3)) (hp : pc + 3 = pc') (k : ∀ T' h' a kA, a = h.size → Stand p l e R s m args below meth c T' locs (cells + 1) (slots + cap) → T'.heap = h' → Ext h h' → Ary Z h' a kA (.array ty) N (fun _ => .null) → OvrA Z kA ty C → Go p e below P (T'.setTop (mkF m pc' Ls (.ref a :: rest)))) : Go p e below P (T.setTop (mkF m pc Ls (.int x :: rest))) := by
  subst hp
  obtain ⟨T', h', cA, X', e', E, A, -, O, st⟩ := newRA X B.1 B.2.2.2.2.2.2.2 B.2.2.2.1 hC w1 w2 eT (g := mkF m pc Ls (.int x :: rest)) rfl (hb B.2.1 hd) rfl hn (cap := cap) (hN ▸ hcap) hb8 hc hl rfl
  exact Go.on st (k T' h' _ cA rfl X' e' E (Ary.of_new A hn hN) O)
theorem s_stI (B : Ctx p s m meth c Z own nm bytes maxL ret) (X : Stand p l e R s m args below meth c T locs cells slots) {a : Addr} {x : Int32} {j : Int32} {jn N : Nat} {f : Nat → Value} {kA : ClassId} (eT : T.heap = h) (A : Ary Z h a kA .int N f) (hj : ¬ j < 0) (hjn : j.toNatClampNeg = jn) (hlt : jn < N) (hd : decode bytes pc = .ok (.iastore, 1)) (hp : pc + 1 = pc') (k : ∀ T' h', Stand p l e R s m args below meth c T' (locs ++ [⟨a, jn⟩]) cells slots → T'.heap = h' → Wr h h' a jn (.int x) → Ary Z h' a kA .int N (upd f jn (.int x)) → Go p e below P (T'.setTop (mkF m pc' Ls (rest)))) : Go p e below P (T.setTop (mkF m pc Ls (.int x :: .int j :: .ref a :: rest))) := by
  subst hp
  subst hjn
  obtain ⟨cl, A1, q1, q2, q3, q4⟩ := id A
  obtain ⟨T', h', X', e', W, st⟩ := stI X B.1 B.2.2.2.2.2.2.2 eT A1 (j := j) (by rw [q2]; intro z; rcases z with z | z; exact hj z; omega) (g := mkF m pc Ls (.int x :: .int j :: .ref a :: rest)) rfl rfl (hb B.2.1 hd)
  exact Go.on st (k T' h' X' e' W (A.same W))
theorem s_stJ (B : Ctx p s m meth c Z own nm bytes maxL ret) (X : Stand p l e R s m args below meth c T locs cells slots) {a : Addr} {x : Int64} {j : Int32} {jn N : Nat} {f : Nat → Value} {kA : ClassId} (eT : T.heap = h) (A : Ary Z h a kA .long N f) (hj : ¬ j < 0) (hjn : j.toNatClampNeg = jn) (hlt : jn < N) (hd : decode bytes pc = .ok (.lastore, 1)) (hp : pc + 1 = pc') (k : ∀ T' h', Stand p l e R s m args below meth c T' (locs ++ [⟨a, jn⟩]) cells slots → T'.heap = h' → Wr h h' a jn (.long x) → Ary Z h' a kA .long N (upd f jn (.long x)) → Go p e below P (T'.setTop (mkF m pc' Ls (rest)))) : Go p e below P (T.setTop (mkF m pc Ls (.long x :: .int j :: .ref a :: rest))) := by
  subst hp
  subst hjn
  obtain ⟨cl, A1, q1, q2, q3, q4⟩ := id A
  obtain ⟨T', h', X', e', W, st⟩ := stJ X B.1 B.2.2.2.2.2.2.2 eT A1 (j := j) (by rw [q2]; intro z; rcases z with z | z; exact hj z; omega) (g := mkF m pc Ls (.long x :: .int j :: .ref a :: rest)) rfl rfl (hb B.2.1 hd)
  exact Go.on st (k T' h' X' e' W (A.same W))
theorem s_stB (B : Ctx p s m meth c Z own nm bytes maxL ret) (X : Stand p l e R s m args below meth c T locs cells slots) {a : Addr} {x : Int32} {j : Int32} {jn N : Nat} {f : Nat → Value} {kA : ClassId} (eT : T.heap = h) (A : Ary Z h a kA .byte N f) (hj : ¬ j < 0) (hjn : j.toNatClampNeg = jn) (hlt : jn < N) (hd : decode bytes pc = .ok (.bastore, 1)) (hp : pc + 1 = pc') (k : ∀ T' h', Stand p l e R s m args below meth c T' (locs ++ [⟨a, jn⟩]) cells slots → T'.heap = h' → Wr h h' a jn (.int (nar .byte x)) → Ary Z h' a kA .byte N (upd f jn (.int (nar .byte x))) → Go p e below P (T'.setTop (mkF m pc' Ls (rest)))) : Go p e below P (T.setTop (mkF m pc Ls (.int x :: .int j :: .ref a :: rest))) := by
  subst hp
  subst hjn
  obtain ⟨cl, A1, q1, q2, q3, q4⟩ := id A
  obtain ⟨T', h', X', e', W, st⟩ := stB X B.1 B.2.2.2.2.2.2.2 eT A1 (j := j) (by rw [q2]; intro z; rcases z with z | z; exact hj z; omega) (g := mkF m pc Ls (.int x :: .int j :: .ref a :: rest)) rfl rfl (hb B.2.1 hd)
  exact Go.on st (k T' h' X' e' W (A.same W))
theorem s_stZ (B : Ctx p s m meth c Z own nm bytes maxL ret) (X : Stand p l e R s m args below meth c T locs cells slots) {a : Addr} {x : Int32} {j : Int32} {jn N : Nat} {f : Nat → Value} {kA : ClassId} (eT : T.heap = h) (A : Ary Z h a kA .boolean N f) (hj : ¬ j < 0) (hjn : j.toNatClampNeg = jn) (hlt : jn < N) (hd : decode bytes pc = .ok (.bastore, 1)) (hp : pc + 1 = pc') (k : ∀ T' h', Stand p l e R s m args below meth c T' (locs ++ [⟨a, jn⟩]) cells slots → T'.heap = h' → Wr h h' a jn (.int (nar .boolean x)) → Ary Z h' a kA .boolean N (upd f jn (.int (nar .boolean x))) → Go p e below P (T'.setTop (mkF m pc' Ls (rest)))) : Go p e below P (T.setTop (mkF m pc Ls (.int x :: .int j :: .ref a :: rest))) := by
  subst hp
  subst hjn
  obtain ⟨cl, A1, q1, q2, q3, q4⟩ := id A
  obtain ⟨T', h', X', e', W, st⟩ := stZ X B.1 B.2.2.2.2.2.2.2 eT A1 (j := j) (by rw [q2]; intro z; rcases z with z | z; exact hj z; omega) (g := mkF m pc Ls (.int x :: .int j :: .ref a :: rest)) rfl rfl (hb B.2.1 hd)
  exact Go.on st (k T' h' X' e' W (A.same W))
theorem s_stC (B : Ctx p s m meth c Z own nm bytes maxL ret) (X : Stand p l e R s m args below meth c T locs cells slots) {a : Addr} {x : Int32} {j : Int32} {jn N : Nat} {f : Nat → Value} {kA : ClassId} (eT : T.heap = h) (A : Ary Z h a kA .char N f) (hj : ¬ j < 0) (hjn : j.toNatClampNeg = jn) (hlt : jn < N) (hd : decode bytes pc = .ok (.castore, 1)) (hp : pc + 1 = pc') (k : ∀ T' h', Stand p l e R s m args below meth c T' (locs ++ [⟨a, jn⟩]) cells slots → T'.heap = h' → Wr h h' a jn (.int (nar .char x)) → Ary Z h' a kA .char N (upd f jn (.int (nar .char x))) → Go p e below P (T'.setTop (mkF m pc' Ls (rest)))) : Go p e below P (T.setTop (mkF m pc Ls (.int x :: .int j :: .ref a :: rest))) := by
  subst hp
  subst hjn
  obtain ⟨cl, A1, q1, q2, q3, q4⟩ := id A
  obtain ⟨T', h', X', e', W, st⟩ := stC X B.1 B.2.2.2.2.2.2.2 eT A1 (j := j) (by rw [q2]; intro z; rcases z with z | z; exact hj z; omega) (g := mkF m pc Ls (.int x :: .int j :: .ref a :: rest)) rfl rfl (hb B.2.1 hd)
  exact Go.on st (k T' h' X' e' W (A.same W))
theorem s_stR (B : Ctx p s m meth c Z own nm bytes maxL ret) (X : Stand p l e R s m args below meth c T locs cells slots) {a : Addr} {v : Value} {ty : FieldType} {j : Int32} {jn N : Nat} {f : Nat → Value} {kA : ClassId} (eT : T.heap = h) (A : Ary Z h a kA ty N f) (hty : ty.isReference = true) (S : Sto Z h a v) (hj : ¬ j < 0) (hjn : j.toNatClampNeg = jn) (hlt : jn < N) (hd : decode bytes pc = .ok (.aastore, 1)) (hp : pc + 1 = pc') (k : ∀ T' h', Stand p l e R s m args below meth c T' (locs ++ [⟨a, jn⟩]) cells slots → T'.heap = h' → Wr h h' a jn v → Ary Z h' a kA ty N (upd f jn v) → Go p e below P (T'.setTop (mkF m pc' Ls (rest)))) : Go p e below P (T.setTop (mkF m pc Ls (v :: .int j :: .ref a :: rest))) := by
  subst hp
  subst hjn
  obtain ⟨cl, A1, q1, q2, q3, q4⟩ := id A
  obtain ⟨T', h', X', e', W, st⟩ := stR X B.1 B.2.2.2.2.2.2.2 eT A1 (j := j) (by rw [q2]; intro z; rcases z with z | z; exact hj z; omega) hty S (g := mkF m pc Ls (v :: .int j :: .ref a :: rest)) rfl rfl (hb B.2.1 hd)
  exact Go.on st (k T' h' X' e' W (A.same W))
theorem s_ldI (B : Ctx p s m meth c Z own nm bytes maxL ret) (X : Stand p l e R s m args below meth c T locs cells slots) {a : Addr} {v : Value} {j : Int32} {jn N : Nat} {f : Nat → Value} {kA : ClassId} (eT : T.heap = h) (A : Ary Z h a kA .int N f) (hj : ¬ j < 0) (hjn : j.toNatClampNeg = jn) (hlt : jn < N) (hv : f jn = v) (hd : decode bytes pc = .ok (.iaload, 1)) (hp : pc + 1 = pc') (k : Go p e below P (T.setTop (mkF m pc' Ls (v :: rest)))) : Go p e below P (T.setTop (mkF m pc Ls (.int j :: .ref a :: rest))) := by
  subst hp hjn hv
  obtain ⟨cl, A1, q1, q2, q3, q4⟩ := A
  exact Go.on (X.iaload B.1 (j := j) (by rw [eT]; exact A1.1) (State.isArrayOf_alike B.2.2.2.2.2.2.2.alike A1.2.1) A1.2.2 (by rw [q2]; intro z; rcases z with z | z; exact hj z; omega) (q4 _ hlt) (g := mkF m pc Ls (.int j :: .ref a :: rest)) rfl rfl (hb B.2.1 hd)) k
theorem s_ldJ (B : Ctx p s m meth c Z own nm bytes maxL ret) (X : Stand p l e R s m args below meth c T locs cells slots) {a : Addr} {v : Value} {j : Int32} {jn N : Nat} {f : Nat → Value} {kA : ClassId} (eT : T.heap = h) (A : Ary Z h a kA .long N f) (hj : ¬ j < 0) (hjn : j.toNatClampNeg = jn) (hlt : jn < N) (hv : f jn = v) (hd : decode bytes pc = .ok (.laload, 1)) (hp : pc + 1 = pc') (k : Go p e below P (T.setTop (mkF m pc' Ls (v :: rest)))) : Go p e below P (T.setTop (mkF m pc Ls (.int j :: .ref a :: rest))) := by
  subst hp hjn hv
  obtain ⟨cl, A1, q1, q2, q3, q4⟩ := A
  exact Go.on (X.laload B.1 (j := j) (by rw [eT]; exact A1.1) (State.isArrayOf_alike B.2.2.2.2.2.2.2.alike A1.2.1) A1.2.2 (by rw [q2]; intro z; rcases z with z | z; exact hj z; omega) (q4 _ hlt) (g := mkF m pc Ls (.int j :: .ref a :: rest)) rfl rfl (hb B.2.1 hd)) k
theorem s_ldB (B : Ctx p s m meth c Z own nm bytes maxL ret) (X : Stand p l e R s m args below meth c T locs cells slots) {a : Addr} {v : Value} {j : Int32} {jn N : Nat} {f : Nat → Value} {kA : ClassId} (eT : T.heap = h) (A : Ary Z h a kA .byte N f) (hj : ¬ j < 0) (hjn : j.toNatClampNeg = jn) (hlt : jn < N) (hv : f jn = v) (hd : decode bytes pc = .ok (.baload, 1)) (hp : pc + 1 = pc') (k : Go p e below P (T.setTop (mkF m pc' Ls (v :: rest)))) : Go p e below P (T.setTop (mkF m pc Ls (.int j :: .ref a :: rest))) := by
  subst hp hjn hv
  obtain ⟨cl, A1, q1, q2, q3, q4⟩ := A
  exact Go.on (X.baloadBytes B.1 (j := j) (by rw [eT]; exact A1.1) (State.isArrayOf_alike B.2.2.2.2.2.2.2.alike A1.2.1) A1.2.2 (by rw [q2]; intro z; rcases z with z | z; exact hj z; omega) (q4 _ hlt) (g := mkF m pc Ls (.int j :: .ref a :: rest)) rfl rfl (hb B.2.1 hd)) k
theorem s_ldZ (B : Ctx p s m meth c Z own nm bytes maxL ret) (X : Stand p l e R s m args below meth c T locs cells slots) {a : Addr} {v : Value} {j : Int32} {jn N : Nat} {f : Nat → Value} {kA : ClassId} (eT : T.heap = h) (A : Ary Z h a kA .boolean N f) (hj : ¬ j < 0) (hjn : j.toNatClampNeg = jn) (hlt : jn < N) (hv : f jn = v) (hd : decode bytes pc = .ok (.baload, 1)) (hp : pc + 1 = pc') (k : Go p e below P (T.setTop (mkF m pc' Ls (v :: rest)))) : Go p e below P (T.setTop (mkF m pc Ls (.int j :: .ref a :: rest))) := by
  subst hp hjn hv
  obtain ⟨cl, A1, q1, q2, q3, q4⟩ := A
  exact Go.on (X.baloadBooleans B.1 (j := j) (by rw [eT]; exact A1.1) (State.isArrayOf_alike B.2.2.2.2.2.2.2.alike A1.2.1) A1.2.2 (by rw [q2]; intro z; rcases z with z | z; exact hj z; omega) (q4 _ hlt) (g := mkF m pc Ls (.int j :: .ref a :: rest)) rfl rfl (hb B.2.1 hd)) k
theorem s_ldC (B : Ctx p s m meth c Z own nm bytes maxL ret) (X : Stand p l e R s m args below meth c T locs cells slots) {a : Addr} {v : Value} {j : Int32} {jn N : Nat} {f : Nat → Value} {kA : ClassId} (eT : T.heap = h) (A : Ary Z h a kA .char N f) (hj : ¬ j < 0) (hjn : j.toNatClampNeg = jn) (hlt : jn < N) (hv : f jn = v) (hd : decode bytes pc = .ok (.caload, 1)) (hp : pc + 1 = pc') (k : Go p e below P (T.setTop (mkF m pc' Ls (v :: rest)))) : Go p e below P (T.setTop (mkF m pc Ls (.int j :: .ref a :: rest))) := by
  subst hp hjn hv
  obtain ⟨cl, A1, q1, q2, q3, q4⟩ := A
  exact Go.on (X.caload B.1 (j := j) (by rw [eT]; exact A1.1) (State.isArrayOf_alike B.2.2.2.2.2.2.2.alike A1.2.1) A1.2.2 (by rw [q2]; intro z; rcases z with z | z; exact hj z; omega) (q4 _ hlt) (g := mkF m pc Ls (.int j :: .ref a :: rest)) rfl rfl (hb B.2.1 hd)) k
theorem s_ldR (B : Ctx p s m meth c Z own nm bytes maxL ret) (X : Stand p l e R s m args below meth c T locs cells slots) {a : Addr} {v : Value} {ty : FieldType} {j : Int32} {jn N : Nat} {f : Nat → Value} {kA : ClassId} (eT : T.heap = h) (A : Ary Z h a kA ty N f) (hty : ty.isReference = true) (hj : ¬ j < 0) (hjn : j.toNatClampNeg = jn) (hlt : jn < N) (hv : f jn = v) (hd : decode bytes pc = .ok (.aaload, 1)) (hp : pc + 1 = pc') (k : Go p e below P (T.setTop (mkF m pc' Ls (v :: rest)))) : Go p e below P (T.setTop (mkF m pc Ls (.int j :: .ref a :: rest))) := by
  subst hp hjn hv
  obtain ⟨cl, A1, q1, q2, q3, q4⟩ := A
  exact Go.on (X.aaload B.1 (j := j) (by rw [eT]; exact A1.1) (State.isArrayOf_alike B.2.2.2.2.2.2.2.alike A1.2.1) hty A1.2.2 (by rw [q2]; intro z; rcases z with z | z; exact hj z; omega) (q4 _ hlt) (g := mkF m pc Ls (.int j :: .ref a :: rest)) rfl rfl (hb B.2.1 hd)) k
theorem s_len (B : Ctx p s m meth c Z own nm bytes maxL ret) (X : Stand p l e R s m args below meth c T locs cells slots) {a : Addr} {v : Int32} {ty : FieldType} {N : Nat} {f : Nat → Value} {kA : ClassId} (eT : T.heap = h) (A : Ary Z h a kA ty N f) (hv : N.toInt32 = v) (hd : decode bytes pc = .ok (.arraylength, 1)) (hp : pc + 1 = pc') (k : Go p e below P (T.setTop (mkF m pc' Ls (.int v :: rest)))) : Go p e below P (T.setTop (mkF m pc Ls (.ref a :: rest))) := by
  subst hp hv
  obtain ⟨cl, A1, q1, q2, q3, q4⟩ := A
  subst q2
  exact Go.on (X.arraylength B.1 (by rw [eT]; exact A1.1) (State.isArrayOf_alike B.2.2.2.2.2.2.2.alike A1.2.1) (g := mkF m pc Ls (.ref a :: rest)) rfl rfl (hb B.2.1 hd)) k
theorem s_castY (B : Ctx p s m meth c Z own nm bytes maxL ret) (X : Stand p l e R s m args below meth c T locs cells slots) {i0 : Nat} {K : String} {a : Addr} (eT : T.heap = h) (w : (Jvm.Cond.classLink own i0 K).before a0 Z = true) (F : Ins Z h a K true) (hd : decode bytes pc = .ok (.checkcast i0, 3)) (hp : pc + 3 = pc') (k : ∀ T', Stand p l e R s m args below meth c T' locs cells slots → T'.heap = h → Go p e below P (T'.setTop (mkF m pc' Ls (.ref a :: rest)))) : Go p e below P (T.setTop (mkF m pc Ls (.ref a :: rest))) := by
  subst hp
  obtain ⟨T', X', e', st⟩ := castY X B.1 B.2.2.2.2.2.2.2 B.2.2.2.1 w eT F (g := mkF m pc Ls (.ref a :: rest)) rfl rfl (hb B.2.1 hd)
  exact Go.on st (k T' X' e')
theorem s_instY (B : Ctx p s m meth c Z own nm bytes maxL ret) (X : Stand p l e R s m args below meth c T locs cells slots) {i0 : Nat} {K : String} {a : Addr} (eT : T.heap = h) (w : (Jvm.Cond.classLink own i0 K).before a0 Z = true) (F : Ins Z h a K true) (hd : decode bytes pc = .ok (.instanceof i0, 3)) (hp : pc + 3 = pc') (k : ∀ T', Stand p l e R s m args below meth c T' locs cells slots → T'.heap = h → Go p e below P (T'.setTop (mkF m pc' Ls (.int 1 :: rest)))) : Go p e below P (T.setTop (mkF m pc Ls (.ref a :: rest))) := by
  subst hp
  obtain ⟨T', X', e', st⟩ := instY X B.1 B.2.2.2.2.2.2.2 B.2.2.2.1 w eT F (g := mkF m pc Ls (.ref a :: rest)) rfl rfl (hb B.2.1 hd)
  exact Go.on st (k T' X' e')
theorem s_tswIn (B : Ctx p s m meth c Z own nm bytes maxL ret) (X : Stand p l e R s m args below meth c T locs cells slots) {df lo hi : Int} {offs : Array Int} {len : Nat} {o : Int} {x : Int32} (hd : decode bytes pc = .ok (.tableswitch df lo hi offs, len)) (hin : ¬ (x.toInt < lo ∨ x.toInt > hi)) (hoff : offs[(x.toInt - lo).toNat]? = some o) (ho : 0 ≤ (pc : Int) + o) (hp : ((pc : Int) + o).toNat = pc') (k : Go p e below P (T.setTop (mkF m pc' Ls (rest)))) : Go p e below P (T.setTop (mkF m pc Ls (.int x :: rest))) := Go.on (fun t => XS.tswIn (g := mkF m pc Ls (.int x :: rest)) X.here B.1 rfl (pc0 := pc) rfl (hb B.2.1 hd) (i := x) (rest := rest) rfl hin hoff ho hp) k
theorem s_tswOut (B : Ctx p s m meth c Z own nm bytes maxL ret) (X : Stand p l e R s m args below meth c T locs cells slots) {df lo hi : Int} {offs : Array Int} {len : Nat} {x : Int32} (hd : decode bytes pc = .ok (.tableswitch df lo hi offs, len)) (hout : x.toInt < lo ∨ x.toInt > hi) (ho : 0 ≤ (pc : Int) + df) (hp : ((pc : Int) + df).toNat = pc') (k : Go p e below P (T.setTop (mkF m pc' Ls (rest)))) : Go p e below P (T.setTop (mkF m pc Ls (.int x :: rest))) := Go.on (fun t => XS.tswOut (g := mkF m pc Ls (.int x :: rest)) X.here B.1 rfl (pc0 := pc) rfl (hb B.2.1 hd) (i := x) (rest := rest) rfl hout ho hp) k
end Heap
end Jvm.OwnKit

namespace Jvm.OwnKit
open Sem ClassFile Op Lib Jvm.Stand Jvm.Free Jvm.LawKit Jvm.RoadKit
section Start
variable {args : Array Value} {s : State} {t u : Term}
theorem eqI_v {k : Int32} (h : (Jvm.Cond.eq t (.int k)).value args s none s [] = some true) : t.eval args s none [] s = some (.int k) := by
  cases ht : t.eval args s none [] s with
  | none => simp [Cond.value, ht] at h
  | some x => cases x <;> simp [Cond.value, ht, Term.eval] at h ⊢; exact h
theorem eqJ_v {k : Int64} (h : (Jvm.Cond.eq t (.long k)).value args s none s [] = some true) : t.eval args s none [] s = some (.long k) := by
  cases ht : t.eval args s none [] s with
  | none => simp [Cond.value, ht] at h
  | some x => cases x <;> simp [Cond.value, ht, Term.eval] at h ⊢; exact h
theorem eqR_v {a : Addr} (hu : u.eval args s none [] s = some (.ref a)) (h : (Jvm.Cond.eq t u).value args s none s [] = some true) : t.eval args s none [] s = some (.ref a) := by
  cases ht : t.eval args s none [] s with
  | none => simp [Cond.value, ht] at h
  | some x => cases x <;> simp [Cond.value, ht, hu] at h ⊢; exact h
end Start
end Jvm.OwnKit

namespace Jvm.Pilot.@@N@@
open Jvm Jvm.ClassFile Sem Op Lib Jvm.Free Jvm.Stand Jvm.LawKit Jvm.RoadKit Jvm.OwnKit Bundle Jvm.Pilot.@@N@@.Jvm.D
theorem tw0 {Z : State} {a0 : Array Value} (hw : ∀ d ∈ tables_1, d.before a0 Z = true) : (Jvm.Cond.classLink "com/example/upmob/upmob/OperatorHoldsPinLaw" (7 : Nat) "com/example/upmob/upmob/Operator").before a0 Z = true := hw _ (List.mem_of_getElem? (i := 0) rfl)
theorem tw1 {Z : State} {a0 : Array Value} (hw : ∀ d ∈ tables_1, d.before a0 Z = true) : (Jvm.Cond.arrayOver (Jvm.ClassFile.FieldType.object "com/example/upmob/upmob/Operator")).before a0 Z = true := hw _ (List.mem_of_getElem? (i := 1) rfl)
theorem tw2 {Z : State} {a0 : Array Value} (hw : ∀ d ∈ tables_1, d.before a0 Z = true) : (Jvm.Cond.fieldLink "com/example/upmob/upmob/OperatorHoldsPinLaw" (9 : Nat) "com/example/upmob/upmob/Operator" "EQUAL" "Lcom/example/upmob/upmob/Operator;").before a0 Z = true := hw _ (List.mem_of_getElem? (i := 2) rfl)
theorem tw3 {Z : State} {a0 : Array Value} (hw : ∀ d ∈ tables_1, d.before a0 Z = true) : (Jvm.Cond.initialized "com/example/upmob/upmob/Operator").before a0 Z = true := hw _ (List.mem_of_getElem? (i := 3) rfl)
theorem tw4 {Z : State} {a0 : Array Value} (hw : ∀ d ∈ tables_1, d.before a0 Z = true) : (Jvm.Cond.laysStatic "com/example/upmob/upmob/Operator" "EQUAL" "Lcom/example/upmob/upmob/Operator;").before a0 Z = true := hw _ (List.mem_of_getElem? (i := 4) rfl)
theorem tw6 {Z : State} {a0 : Array Value} (hw : ∀ d ∈ tables_1, d.before a0 Z = true) : (Jvm.Cond.fieldLink "com/example/upmob/upmob/OperatorHoldsPinLaw" (13 : Nat) "com/example/upmob/upmob/Operator" "NOT_EQUAL" "Lcom/example/upmob/upmob/Operator;").before a0 Z = true := hw _ (List.mem_of_getElem? (i := 6) rfl)
theorem tw7 {Z : State} {a0 : Array Value} (hw : ∀ d ∈ tables_1, d.before a0 Z = true) : (Jvm.Cond.laysStatic "com/example/upmob/upmob/Operator" "NOT_EQUAL" "Lcom/example/upmob/upmob/Operator;").before a0 Z = true := hw _ (List.mem_of_getElem? (i := 7) rfl)
theorem tw8 {Z : State} {a0 : Array Value} (hw : ∀ d ∈ tables_1, d.before a0 Z = true) : (Jvm.Cond.fieldLink "com/example/upmob/upmob/OperatorHoldsPinLaw" (16 : Nat) "com/example/upmob/upmob/Operator" "LESS" "Lcom/example/upmob/upmob/Operator;").before a0 Z = true := hw _ (List.mem_of_getElem? (i := 8) rfl)
theorem tw9 {Z : State} {a0 : Array Value} (hw : ∀ d ∈ tables_1, d.before a0 Z = true) : (Jvm.Cond.laysStatic "com/example/upmob/upmob/Operator" "LESS" "Lcom/example/upmob/upmob/Operator;").before a0 Z = true := hw _ (List.mem_of_getElem? (i := 9) rfl)
theorem tw10 {Z : State} {a0 : Array Value} (hw : ∀ d ∈ tables_1, d.before a0 Z = true) : (Jvm.Cond.fieldLink "com/example/upmob/upmob/OperatorHoldsPinLaw" (19 : Nat) "com/example/upmob/upmob/Operator" "LESS_OR_EQUAL" "Lcom/example/upmob/upmob/Operator;").before a0 Z = true := hw _ (List.mem_of_getElem? (i := 10) rfl)
theorem tw11 {Z : State} {a0 : Array Value} (hw : ∀ d ∈ tables_1, d.before a0 Z = true) : (Jvm.Cond.laysStatic "com/example/upmob/upmob/Operator" "LESS_OR_EQUAL" "Lcom/example/upmob/upmob/Operator;").before a0 Z = true := hw _ (List.mem_of_getElem? (i := 11) rfl)
theorem tw12 {Z : State} {a0 : Array Value} (hw : ∀ d ∈ tables_1, d.before a0 Z = true) : (Jvm.Cond.fieldLink "com/example/upmob/upmob/OperatorHoldsPinLaw" (22 : Nat) "com/example/upmob/upmob/Operator" "GREATER" "Lcom/example/upmob/upmob/Operator;").before a0 Z = true := hw _ (List.mem_of_getElem? (i := 12) rfl)
theorem tw13 {Z : State} {a0 : Array Value} (hw : ∀ d ∈ tables_1, d.before a0 Z = true) : (Jvm.Cond.laysStatic "com/example/upmob/upmob/Operator" "GREATER" "Lcom/example/upmob/upmob/Operator;").before a0 Z = true := hw _ (List.mem_of_getElem? (i := 13) rfl)
theorem tw14 {Z : State} {a0 : Array Value} (hw : ∀ d ∈ tables_1, d.before a0 Z = true) : (Jvm.Cond.fieldLink "com/example/upmob/upmob/OperatorHoldsPinLaw" (25 : Nat) "com/example/upmob/upmob/Operator" "GREATER_OR_EQUAL" "Lcom/example/upmob/upmob/Operator;").before a0 Z = true := hw _ (List.mem_of_getElem? (i := 14) rfl)
theorem tw15 {Z : State} {a0 : Array Value} (hw : ∀ d ∈ tables_1, d.before a0 Z = true) : (Jvm.Cond.laysStatic "com/example/upmob/upmob/Operator" "GREATER_OR_EQUAL" "Lcom/example/upmob/upmob/Operator;").before a0 Z = true := hw _ (List.mem_of_getElem? (i := 15) rfl)
theorem tw16 {Z : State} {a0 : Array Value} (hw : ∀ d ∈ tables_1, d.before a0 Z = true) : (Jvm.Cond.constant "com/example/upmob/upmob/OperatorHoldsPinLaw" (28 : Nat) (2147483647 : Int32)).before a0 Z = true := hw _ (List.mem_of_getElem? (i := 16) rfl)
theorem tw17 {Z : State} {a0 : Array Value} (hw : ∀ d ∈ tables_1, d.before a0 Z = true) : (Jvm.Cond.methodLink "com/example/upmob/upmob/OperatorHoldsPinLaw" (29 : Nat) ({ cls := "com/example/upmob/upmob/Operator", name := "holds", desc := "(I)Z" } : Jvm.MethodName)).before a0 Z = true := hw _ (List.mem_of_getElem? (i := 17) rfl)
theorem tw18 {Z : State} {a0 : Array Value} (hw : ∀ d ∈ tables_1, d.before a0 Z = true) : (Jvm.Cond.declares ({ cls := "com/example/upmob/upmob/Operator", name := "holds", desc := "(I)Z" } : Jvm.MethodName)).before a0 Z = true := hw _ (List.mem_of_getElem? (i := 18) rfl)
theorem tw19 {Z : State} {a0 : Array Value} (hw : ∀ d ∈ tables_1, d.before a0 Z = true) : (Jvm.Cond.instanceMethod ({ cls := "com/example/upmob/upmob/Operator", name := "holds", desc := "(I)Z" } : Jvm.MethodName)).before a0 Z = true := hw _ (List.mem_of_getElem? (i := 19) rfl)
theorem tw20 {Z : State} {a0 : Array Value} (hw : ∀ d ∈ tables_1, d.before a0 Z = true) : (Jvm.Cond.selects "com/example/upmob/upmob/Operator" ({ cls := "com/example/upmob/upmob/Operator", name := "holds", desc := "(I)Z" } : Jvm.MethodName) ({ cls := "com/example/upmob/upmob/Operator", name := "holds", desc := "(I)Z" } : Jvm.MethodName)).before a0 Z = true := hw _ (List.mem_of_getElem? (i := 20) rfl)
theorem tw21 {Z : State} {a0 : Array Value} (hw : ∀ d ∈ tables_1, d.before a0 Z = true) : (Jvm.Cond.code ({ cls := "com/example/upmob/upmob/Operator", name := "holds", desc := "(I)Z" } : Jvm.MethodName) prog_23_method_5_code (3 : Nat) (Option.some Jvm.ClassFile.FieldType.boolean)).before a0 Z = true := hw _ (List.mem_of_getElem? (i := 21) rfl)
theorem tw22 {Z : State} {a0 : Array Value} (hw : ∀ d ∈ tables_1, d.before a0 Z = true) : (Jvm.Cond.methodLink "com/example/upmob/upmob/Operator" (45 : Nat) ({ cls := "com/example/upmob/upmob/Operator", name := "ordinal", desc := "()I" } : Jvm.MethodName)).before a0 Z = true := hw _ (List.mem_of_getElem? (i := 22) rfl)
theorem tw23 {Z : State} {a0 : Array Value} (hw : ∀ d ∈ tables_1, d.before a0 Z = true) : (Jvm.Cond.sameMethod "com/example/upmob/upmob/Operator" "java/lang/Enum" "ordinal" "()I").before a0 Z = true := hw _ (List.mem_of_getElem? (i := 23) rfl)
theorem tw24 {Z : State} {a0 : Array Value} (hw : ∀ d ∈ tables_1, d.before a0 Z = true) : (Jvm.Cond.declares ({ cls := "java/lang/Enum", name := "ordinal", desc := "()I" } : Jvm.MethodName)).before a0 Z = true := hw _ (List.mem_of_getElem? (i := 24) rfl)
theorem tw25 {Z : State} {a0 : Array Value} (hw : ∀ d ∈ tables_1, d.before a0 Z = true) : (Jvm.Cond.instanceMethod ({ cls := "java/lang/Enum", name := "ordinal", desc := "()I" } : Jvm.MethodName)).before a0 Z = true := hw _ (List.mem_of_getElem? (i := 25) rfl)
theorem tw26 {Z : State} {a0 : Array Value} (hw : ∀ d ∈ tables_1, d.before a0 Z = true) : (Jvm.Cond.selects "com/example/upmob/upmob/Operator" ({ cls := "com/example/upmob/upmob/Operator", name := "ordinal", desc := "()I" } : Jvm.MethodName) ({ cls := "java/lang/Enum", name := "ordinal", desc := "()I" } : Jvm.MethodName)).before a0 Z = true := hw _ (List.mem_of_getElem? (i := 26) rfl)
theorem tw27 {Z : State} {a0 : Array Value} (hw : ∀ d ∈ tables_1, d.before a0 Z = true) : (Jvm.Cond.initialized "java/lang/Enum").before a0 Z = true := hw _ (List.mem_of_getElem? (i := 27) rfl)
theorem tw28 {Z : State} {a0 : Array Value} (hw : ∀ d ∈ tables_1, d.before a0 Z = true) : (Jvm.Cond.code ({ cls := "java/lang/Enum", name := "ordinal", desc := "()I" } : Jvm.MethodName) jdk_37_method_2_code (1 : Nat) (Option.some Jvm.ClassFile.FieldType.int)).before a0 Z = true := hw _ (List.mem_of_getElem? (i := 28) rfl)
theorem tw29 {Z : State} {a0 : Array Value} (hw : ∀ d ∈ tables_1, d.before a0 Z = true) : (Jvm.Cond.fieldLink "java/lang/Enum" (7 : Nat) "java/lang/Enum" "ordinal" "I").before a0 Z = true := hw _ (List.mem_of_getElem? (i := 29) rfl)
abbrev mn0 : MethodName := ⟨"java/lang/Enum", "ordinal", "()I"⟩
abbrev mn1 : MethodName := ⟨"com/example/upmob/upmob/Operator", "ordinal", "()I"⟩
abbrev mn2 : MethodName := ⟨"com/example/upmob/upmob/Operator", "holds", "(I)Z"⟩
theorem pd_1 : parseMethodDescriptor "(I)Z" = some ⟨[.int], some .boolean⟩ := by decide +kernel
theorem pd_0 : parseMethodDescriptor "()I" = some ⟨[], some .int⟩ := by decide +kernel
def OwnF (Z : State) (h : Heap) (w_EQUAL w_NOT_EQUAL w_LESS w_LESS_OR_EQUAL w_GREATER w_GREATER_OR_EQUAL : Addr) : Prop := Sta Z h "com/example/upmob/upmob/Operator" "EQUAL" "Lcom/example/upmob/upmob/Operator;" (.ref w_EQUAL) ∧
  Exa Z h w_EQUAL "com/example/upmob/upmob/Operator" ∧
  Sta Z h "com/example/upmob/upmob/Operator" "NOT_EQUAL" "Lcom/example/upmob/upmob/Operator;" (.ref w_NOT_EQUAL) ∧
  Exa Z h w_NOT_EQUAL "com/example/upmob/upmob/Operator" ∧
  Sta Z h "com/example/upmob/upmob/Operator" "LESS" "Lcom/example/upmob/upmob/Operator;" (.ref w_LESS) ∧
  Exa Z h w_LESS "com/example/upmob/upmob/Operator" ∧
  Sta Z h "com/example/upmob/upmob/Operator" "LESS_OR_EQUAL" "Lcom/example/upmob/upmob/Operator;" (.ref w_LESS_OR_EQUAL) ∧
  Exa Z h w_LESS_OR_EQUAL "com/example/upmob/upmob/Operator" ∧
  Sta Z h "com/example/upmob/upmob/Operator" "GREATER" "Lcom/example/upmob/upmob/Operator;" (.ref w_GREATER) ∧
  Exa Z h w_GREATER "com/example/upmob/upmob/Operator" ∧
  Sta Z h "com/example/upmob/upmob/Operator" "GREATER_OR_EQUAL" "Lcom/example/upmob/upmob/Operator;" (.ref w_GREATER_OR_EQUAL) ∧
  Exa Z h w_GREATER_OR_EQUAL "com/example/upmob/upmob/Operator" ∧
  Fld Z h w_EQUAL "java/lang/Enum" "ordinal" "I" (.int (0 : Int32)) ∧
  Fld Z h w_LESS "java/lang/Enum" "ordinal" "I" (.int (2 : Int32)) ∧
  Fld Z h w_NOT_EQUAL "java/lang/Enum" "ordinal" "I" (.int (1 : Int32)) ∧
  Fld Z h w_GREATER "java/lang/Enum" "ordinal" "I" (.int (4 : Int32)) ∧
  Fld Z h w_LESS_OR_EQUAL "java/lang/Enum" "ordinal" "I" (.int (3 : Int32)) ∧
  Fld Z h w_GREATER_OR_EQUAL "java/lang/Enum" "ordinal" "I" (.int (5 : Int32))
theorem OwnF.ext {Z : State} {h h' : Heap} {w_EQUAL w_NOT_EQUAL w_LESS w_LESS_OR_EQUAL w_GREATER w_GREATER_OR_EQUAL : Addr} (E : Ext h h') (F : OwnF Z h w_EQUAL w_NOT_EQUAL w_LESS w_LESS_OR_EQUAL w_GREATER w_GREATER_OR_EQUAL) : OwnF Z h' w_EQUAL w_NOT_EQUAL w_LESS w_LESS_OR_EQUAL w_GREATER w_GREATER_OR_EQUAL := by
  obtain ⟨S_EQUAL, E_EQUAL, S_NOT_EQUAL, E_NOT_EQUAL, S_LESS, E_LESS, S_LESS_OR_EQUAL, E_LESS_OR_EQUAL, S_GREATER, E_GREATER, S_GREATER_OR_EQUAL, E_GREATER_OR_EQUAL, F_EQUAL_ordinal, F_LESS_ordinal, F_NOT_EQUAL_ordinal, F_GREATER_ordinal, F_LESS_OR_EQUAL_ordinal, F_GREATER_OR_EQUAL_ordinal⟩ := F
  exact ⟨S_EQUAL.ext E, E_EQUAL.ext E, S_NOT_EQUAL.ext E, E_NOT_EQUAL.ext E, S_LESS.ext E, E_LESS.ext E, S_LESS_OR_EQUAL.ext E, E_LESS_OR_EQUAL.ext E, S_GREATER.ext E, E_GREATER.ext E, S_GREATER_OR_EQUAL.ext E, E_GREATER_OR_EQUAL.ext E, F_EQUAL_ordinal.ext E, F_LESS_ordinal.ext E, F_NOT_EQUAL_ordinal.ext E, F_GREATER_ordinal.ext E, F_LESS_OR_EQUAL_ordinal.ext E, F_GREATER_OR_EQUAL_ordinal.ext E⟩
theorem own_rng6 {v : Int32} (h0 : 0 ≤ v.toInt) (h1 : v.toInt < 6) : v = 0 ∨ v = 1 ∨ v = 2 ∨ v = 3 ∨ v = 4 ∨ v = 5 := by
  rcases (by omega : v.toInt = 0 ∨ v.toInt = 1 ∨ v.toInt = 2 ∨ v.toInt = 3 ∨ v.toInt = 4 ∨ v.toInt = 5) with h | h | h | h | h | h
  · exact Or.inl (Int32.toInt_inj.mp (h.trans (by decide)))
  · exact Or.inr (Or.inl (Int32.toInt_inj.mp (h.trans (by decide))))
  · exact Or.inr (Or.inr (Or.inl (Int32.toInt_inj.mp (h.trans (by decide)))))
  · exact Or.inr (Or.inr (Or.inr (Or.inl (Int32.toInt_inj.mp (h.trans (by decide))))))
  · exact Or.inr (Or.inr (Or.inr (Or.inr (Or.inl (Int32.toInt_inj.mp (h.trans (by decide)))))))
  · exact Or.inr (Or.inr (Or.inr (Or.inr (Or.inr ((Int32.toInt_inj.mp (h.trans (by decide))))))))
theorem own_rem6 (x : Int32) : (x &&& 2147483647) % 6 = 0 ∨ (x &&& 2147483647) % 6 = 1 ∨ (x &&& 2147483647) % 6 = 2 ∨ (x &&& 2147483647) % 6 = 3 ∨ (x &&& 2147483647) % 6 = 4 ∨ (x &&& 2147483647) % 6 = 5 := by
  have e := c_mask x 2147483647 31 (by decide) (by decide)
  have e2 := (c_irem (x &&& 2147483647) 6 6 (by decide)).1 (by rw [e]; omega)
  exact own_rng6 (by rw [e2]; omega) (by rw [e2]; omega)
theorem own_rep_aux {d : Value} : ∀ (N i : Nat), i < N → (List.replicate N d).getD i d = d := fun N i hi => by simp [List.getD_eq_getElem?_getD, List.getElem?_replicate, hi]
theorem own_rep {d : Value} (N : Nat) : ∀ i, i < N → (fun _ : Nat => d) i = lst (List.replicate N d) d i := fun i hi => (own_rep_aux N i hi).symm
theorem own_tri (x y : Int32) : (x < y ∧ ¬ y < x ∧ ¬ x = y) ∨ (¬ x < y ∧ ¬ y < x ∧ x = y) ∨ (¬ x < y ∧ y < x ∧ ¬ x = y) := by
  simp only [Int32.lt_iff_toInt_lt, ← Int32.toInt_inj]; omega
theorem d2_0 : decode jdk_37_method_2_code 0 = .ok (.aload_n 0, 1) := by decide +kernel
theorem d2_1 : decode jdk_37_method_2_code 1 = .ok (.getfield 7, 3) := by decide +kernel
theorem d2_4 : decode jdk_37_method_2_code 4 = .ok (.ireturn, 1) := by decide +kernel
theorem pn_rm2_1 : plainName "java/lang/Enum" = true := by first | (simp [plainName, overriddenIn]; done) | decide +kernel
set_option maxRecDepth 65536 in
set_option maxHeartbeats 40000000 in
theorem rm2_1 (l : Launch) (Z : State) (a0 : Array Value) (hw : ∀ d ∈ tables_1, d.before a0 Z = true)  (w_EQUAL w_NOT_EQUAL w_LESS w_LESS_OR_EQUAL w_GREATER w_GREATER_OR_EQUAL : Addr) (h0 : Heap) (F0 : OwnF Z h0 w_EQUAL w_NOT_EQUAL w_LESS w_LESS_OR_EQUAL w_GREATER w_GREATER_OR_EQUAL)  :
    OMeets l Z mn0 jdk_37_method_2_code 1 (some .int) [] ({ frames := 0, cells := 0, slots := 0, locals := 0 } : Room) #[(.ref w_EQUAL)] h0 (PureQ (some (.int (0 : Int32))) h0) := by
  refine OMeets.of pn_rm2_1 #[.val (.ref w_EQUAL)] (fun m => by first | rfl | (simp [entryFrame, mkF, argsToLocals, Value.category, maxLocals]; done)) ?_
  intro p e s m below meth c s₁ B X0 e0
  have F := F0
  obtain ⟨S_EQUAL, E_EQUAL, S_NOT_EQUAL, E_NOT_EQUAL, S_LESS, E_LESS, S_LESS_OR_EQUAL, E_LESS_OR_EQUAL, S_GREATER, E_GREATER, S_GREATER_OR_EQUAL, E_GREATER_OR_EQUAL, F_EQUAL_ordinal, F_LESS_ordinal, F_NOT_EQUAL_ordinal, F_GREATER_ordinal, F_LESS_OR_EQUAL_ordinal, F_GREATER_OR_EQUAL_ordinal⟩ := F
  refine s_aloadN B X0 (pc' := 1) d2_0 rfl rfl rfl ?_
  refine s_getF B X0 (pc' := 4) e0 (host := "") (Or.inl (tw29 hw)) Via.refl F_EQUAL_ordinal d2_1 rfl (fun T1 X1 e1 => ?_)
  exact r_int B X1 rfl d2_4 ⟨rfl, rfl, e1⟩ (by decide) (by decide)
theorem d1_0 : decode prog_23_method_5_code 0 = .ok (.aload_n 0, 1) := by decide +kernel
theorem d1_1 : decode prog_23_method_5_code 1 = .ok (.invokevirtual 45, 3) := by decide +kernel
theorem d1_4 : decode prog_23_method_5_code 4 = .ok (.tableswitch 40 0 5 #[50, 62, 74, 86, 98, 110], 40) := by decide +kernel
theorem d1_54 : decode prog_23_method_5_code 54 = .ok (.iload_n 1, 1) := by decide +kernel
theorem d1_55 : decode prog_23_method_5_code 55 = .ok (.ifCond .ne 7, 3) := by decide +kernel
theorem d1_62 : decode prog_23_method_5_code 62 = .ok (.iconst 0, 1) := by decide +kernel
theorem d1_63 : decode prog_23_method_5_code 63 = .ok (.goto 60, 3) := by decide +kernel
theorem d1_123 : decode prog_23_method_5_code 123 = .ok (.istore_n 2, 1) := by decide +kernel
theorem d1_124 : decode prog_23_method_5_code 124 = .ok (.iload_n 2, 1) := by decide +kernel
theorem d1_125 : decode prog_23_method_5_code 125 = .ok (.ireturn, 1) := by decide +kernel
theorem pn_rm1_0 : plainName "com/example/upmob/upmob/Operator" = true := by first | (simp [plainName, overriddenIn]; done) | decide +kernel
set_option maxRecDepth 65536 in
set_option maxHeartbeats 40000000 in
theorem rm1_0 (l : Launch) (Z : State) (a0 : Array Value) (hw : ∀ d ∈ tables_1, d.before a0 Z = true) (q1 : Int32) (w_EQUAL w_NOT_EQUAL w_LESS w_LESS_OR_EQUAL w_GREATER w_GREATER_OR_EQUAL : Addr) (h0 : Heap) (F0 : OwnF Z h0 w_EQUAL w_NOT_EQUAL w_LESS w_LESS_OR_EQUAL w_GREATER w_GREATER_OR_EQUAL) (hk0 : q1 < (0 : Int32)) (hk1 : ¬ (0 : Int32) < q1) (hk2 : ¬ q1 = (0 : Int32)) :
    OMeets l Z mn2 prog_23_method_5_code 3 (some .boolean) [] ({ frames := 1, cells := 0, slots := 0, locals := 12 } : Room) #[(.ref w_EQUAL), (.int q1)] h0 (PureQ (some (.int (0 : Int32))) h0) := by
  refine OMeets.of pn_rm1_0 #[.val (.ref w_EQUAL), .val (.int q1), .unset] (fun m => by first | rfl | (simp [entryFrame, mkF, argsToLocals, Value.category, maxLocals]; done)) ?_
  intro p e s m below meth c s₁ B X0 e0
  have F := F0
  obtain ⟨S_EQUAL, E_EQUAL, S_NOT_EQUAL, E_NOT_EQUAL, S_LESS, E_LESS, S_LESS_OR_EQUAL, E_LESS_OR_EQUAL, S_GREATER, E_GREATER, S_GREATER_OR_EQUAL, E_GREATER_OR_EQUAL, F_EQUAL_ordinal, F_LESS_ordinal, F_NOT_EQUAL_ordinal, F_GREATER_ordinal, F_LESS_OR_EQUAL_ordinal, F_GREATER_OR_EQUAL_ordinal⟩ := F
  refine s_aloadN B X0 (pc' := 1) d1_0 rfl rfl rfl ?_
  refine p_virtualUp B X0 (y := mn1) (z := mn0) (owner := "java/lang/Enum") (pc' := 4) (argsL := []) (under := []) (W := 0) e0 (tw22 hw) (tw23 hw) (tw24 hw) (tw26 hw) (tw25 hw) (tw28 hw) (tw27 hw) (by decide) (rm2_1 l Z a0 hw  w_EQUAL w_NOT_EQUAL w_LESS w_LESS_OR_EQUAL w_GREATER w_GREATER_OR_EQUAL h0 F0 ) E_EQUAL (lenOf pd_0 rfl) rfl rfl (by decide) (by decide) rfl rfl (by decide) (by decide) rfl d1_1 rfl (fun T1 X1 e1 => ?_)
  show Go p e below _ (T1.setTop (mkF m 4 #[.val (.ref w_EQUAL), .val (.int q1), .unset] [(.int (0 : Int32))]))
  refine s_tswIn B X1 (pc' := 54) (o := 50) d1_4 (by decide) rfl (by decide) (by decide) ?_
  refine s_iloadN B X1 (pc' := 55) d1_54 rfl rfl ?_
  refine b_if_ne B X1 (py := 62) (pn := 58) d1_55 (by decide) (by decide) rfl (fun _ => ?_) (fun q => absurd q hk2)
  refine s_iconst B X1 (pc' := 63) (v := (0 : Int32)) d1_62 rfl rfl ?_
  refine s_goto B X1 (pc' := 123) d1_63 (by decide) (by decide) ?_
  refine s_istoreN B X1 (pc' := 124) (Ls' := #[.val (.ref w_EQUAL), .val (.int q1), .val (.int (0 : Int32))]) d1_123 rfl rfl ?_
  refine s_iloadN B X1 (pc' := 125) d1_124 rfl rfl ?_
  exact r_nar B X1 (t := .boolean) (by simp) rfl d1_125 ⟨rfl, rfl, e1⟩ (by decide) (by decide)
theorem own_ne_w_NOT_EQUAL_w_EQUAL {Z : State} {h : Heap} {w_EQUAL w_NOT_EQUAL w_LESS w_LESS_OR_EQUAL w_GREATER w_GREATER_OR_EQUAL : Addr} (F : OwnF Z h w_EQUAL w_NOT_EQUAL w_LESS w_LESS_OR_EQUAL w_GREATER w_GREATER_OR_EQUAL) : ¬ w_NOT_EQUAL = w_EQUAL := by
  obtain ⟨S_EQUAL, E_EQUAL, S_NOT_EQUAL, E_NOT_EQUAL, S_LESS, E_LESS, S_LESS_OR_EQUAL, E_LESS_OR_EQUAL, S_GREATER, E_GREATER, S_GREATER_OR_EQUAL, E_GREATER_OR_EQUAL, F_EQUAL_ordinal, F_LESS_ordinal, F_NOT_EQUAL_ordinal, F_GREATER_ordinal, F_LESS_OR_EQUAL_ordinal, F_GREATER_OR_EQUAL_ordinal⟩ := F
  exact F_NOT_EQUAL_ordinal.ne F_EQUAL_ordinal (by decide)

theorem pn_rm2_3 : plainName "java/lang/Enum" = true := by first | (simp [plainName, overriddenIn]; done) | decide +kernel
set_option maxRecDepth 65536 in
set_option maxHeartbeats 40000000 in
theorem rm2_3 (l : Launch) (Z : State) (a0 : Array Value) (hw : ∀ d ∈ tables_1, d.before a0 Z = true)  (w_EQUAL w_NOT_EQUAL w_LESS w_LESS_OR_EQUAL w_GREATER w_GREATER_OR_EQUAL : Addr) (h0 : Heap) (F0 : OwnF Z h0 w_EQUAL w_NOT_EQUAL w_LESS w_LESS_OR_EQUAL w_GREATER w_GREATER_OR_EQUAL)  :
    OMeets l Z mn0 jdk_37_method_2_code 1 (some .int) [] ({ frames := 0, cells := 0, slots := 0, locals := 0 } : Room) #[(.ref w_NOT_EQUAL)] h0 (PureQ (some (.int (1 : Int32))) h0) := by
  refine OMeets.of pn_rm2_3 #[.val (.ref w_NOT_EQUAL)] (fun m => by first | rfl | (simp [entryFrame, mkF, argsToLocals, Value.category, maxLocals]; done)) ?_
  intro p e s m below meth c s₁ B X0 e0
  have F := F0
  obtain ⟨S_EQUAL, E_EQUAL, S_NOT_EQUAL, E_NOT_EQUAL, S_LESS, E_LESS, S_LESS_OR_EQUAL, E_LESS_OR_EQUAL, S_GREATER, E_GREATER, S_GREATER_OR_EQUAL, E_GREATER_OR_EQUAL, F_EQUAL_ordinal, F_LESS_ordinal, F_NOT_EQUAL_ordinal, F_GREATER_ordinal, F_LESS_OR_EQUAL_ordinal, F_GREATER_OR_EQUAL_ordinal⟩ := F
  refine s_aloadN B X0 (pc' := 1) d2_0 rfl rfl rfl ?_
  refine s_getF B X0 (pc' := 4) e0 (host := "") (Or.inl (tw29 hw)) Via.refl F_NOT_EQUAL_ordinal d2_1 rfl (fun T1 X1 e1 => ?_)
  exact r_int B X1 rfl d2_4 ⟨rfl, rfl, e1⟩ (by decide) (by decide)
theorem d1_66 : decode prog_23_method_5_code 66 = .ok (.iload_n 1, 1) := by decide +kernel
theorem d1_67 : decode prog_23_method_5_code 67 = .ok (.ifCond .eq 7, 3) := by decide +kernel
theorem d1_70 : decode prog_23_method_5_code 70 = .ok (.iconst 1, 1) := by decide +kernel
theorem d1_71 : decode prog_23_method_5_code 71 = .ok (.goto 52, 3) := by decide +kernel
theorem pn_rm1_2 : plainName "com/example/upmob/upmob/Operator" = true := by first | (simp [plainName, overriddenIn]; done) | decide +kernel
set_option maxRecDepth 65536 in
set_option maxHeartbeats 40000000 in
theorem rm1_2 (l : Launch) (Z : State) (a0 : Array Value) (hw : ∀ d ∈ tables_1, d.before a0 Z = true) (q1 : Int32) (w_EQUAL w_NOT_EQUAL w_LESS w_LESS_OR_EQUAL w_GREATER w_GREATER_OR_EQUAL : Addr) (h0 : Heap) (F0 : OwnF Z h0 w_EQUAL w_NOT_EQUAL w_LESS w_LESS_OR_EQUAL w_GREATER w_GREATER_OR_EQUAL) (hk0 : q1 < (0 : Int32)) (hk1 : ¬ (0 : Int32) < q1) (hk2 : ¬ q1 = (0 : Int32)) :
    OMeets l Z mn2 prog_23_method_5_code 3 (some .boolean) [] ({ frames := 1, cells := 0, slots := 0, locals := 12 } : Room) #[(.ref w_NOT_EQUAL), (.int q1)] h0 (PureQ (some (.int (1 : Int32))) h0) := by
  refine OMeets.of pn_rm1_2 #[.val (.ref w_NOT_EQUAL), .val (.int q1), .unset] (fun m => by first | rfl | (simp [entryFrame, mkF, argsToLocals, Value.category, maxLocals]; done)) ?_
  intro p e s m below meth c s₁ B X0 e0
  have F := F0
  obtain ⟨S_EQUAL, E_EQUAL, S_NOT_EQUAL, E_NOT_EQUAL, S_LESS, E_LESS, S_LESS_OR_EQUAL, E_LESS_OR_EQUAL, S_GREATER, E_GREATER, S_GREATER_OR_EQUAL, E_GREATER_OR_EQUAL, F_EQUAL_ordinal, F_LESS_ordinal, F_NOT_EQUAL_ordinal, F_GREATER_ordinal, F_LESS_OR_EQUAL_ordinal, F_GREATER_OR_EQUAL_ordinal⟩ := F
  refine s_aloadN B X0 (pc' := 1) d1_0 rfl rfl rfl ?_
  refine p_virtualUp B X0 (y := mn1) (z := mn0) (owner := "java/lang/Enum") (pc' := 4) (argsL := []) (under := []) (W := 0) e0 (tw22 hw) (tw23 hw) (tw24 hw) (tw26 hw) (tw25 hw) (tw28 hw) (tw27 hw) (by decide) (rm2_3 l Z a0 hw  w_EQUAL w_NOT_EQUAL w_LESS w_LESS_OR_EQUAL w_GREATER w_GREATER_OR_EQUAL h0 F0 ) E_NOT_EQUAL (lenOf pd_0 rfl) rfl rfl (by decide) (by decide) rfl rfl (by decide) (by decide) rfl d1_1 rfl (fun T1 X1 e1 => ?_)
  show Go p e below _ (T1.setTop (mkF m 4 #[.val (.ref w_NOT_EQUAL), .val (.int q1), .unset] [(.int (1 : Int32))]))
  refine s_tswIn B X1 (pc' := 66) (o := 62) d1_4 (by decide) rfl (by decide) (by decide) ?_
  refine s_iloadN B X1 (pc' := 67) d1_66 rfl rfl ?_
  refine b_if_eq B X1 (py := 74) (pn := 70) d1_67 (by decide) (by decide) rfl (fun q => absurd q hk2) (fun _ => ?_)
  refine s_iconst B X1 (pc' := 71) (v := (1 : Int32)) d1_70 rfl rfl ?_
  refine s_goto B X1 (pc' := 123) d1_71 (by decide) (by decide) ?_
  refine s_istoreN B X1 (pc' := 124) (Ls' := #[.val (.ref w_NOT_EQUAL), .val (.int q1), .val (.int (1 : Int32))]) d1_123 rfl rfl ?_
  refine s_iloadN B X1 (pc' := 125) d1_124 rfl rfl ?_
  exact r_nar B X1 (t := .boolean) (by simp) rfl d1_125 ⟨rfl, rfl, e1⟩ (by decide) (by decide)
theorem own_ne_w_LESS_w_EQUAL {Z : State} {h : Heap} {w_EQUAL w_NOT_EQUAL w_LESS w_LESS_OR_EQUAL w_GREATER w_GREATER_OR_EQUAL : Addr} (F : OwnF Z h w_EQUAL w_NOT_EQUAL w_LESS w_LESS_OR_EQUAL w_GREATER w_GREATER_OR_EQUAL) : ¬ w_LESS = w_EQUAL := by
  obtain ⟨S_EQUAL, E_EQUAL, S_NOT_EQUAL, E_NOT_EQUAL, S_LESS, E_LESS, S_LESS_OR_EQUAL, E_LESS_OR_EQUAL, S_GREATER, E_GREATER, S_GREATER_OR_EQUAL, E_GREATER_OR_EQUAL, F_EQUAL_ordinal, F_LESS_ordinal, F_NOT_EQUAL_ordinal, F_GREATER_ordinal, F_LESS_OR_EQUAL_ordinal, F_GREATER_OR_EQUAL_ordinal⟩ := F
  exact F_LESS_ordinal.ne F_EQUAL_ordinal (by decide)
theorem own_ne_w_LESS_w_NOT_EQUAL {Z : State} {h : Heap} {w_EQUAL w_NOT_EQUAL w_LESS w_LESS_OR_EQUAL w_GREATER w_GREATER_OR_EQUAL : Addr} (F : OwnF Z h w_EQUAL w_NOT_EQUAL w_LESS w_LESS_OR_EQUAL w_GREATER w_GREATER_OR_EQUAL) : ¬ w_LESS = w_NOT_EQUAL := by
  obtain ⟨S_EQUAL, E_EQUAL, S_NOT_EQUAL, E_NOT_EQUAL, S_LESS, E_LESS, S_LESS_OR_EQUAL, E_LESS_OR_EQUAL, S_GREATER, E_GREATER, S_GREATER_OR_EQUAL, E_GREATER_OR_EQUAL, F_EQUAL_ordinal, F_LESS_ordinal, F_NOT_EQUAL_ordinal, F_GREATER_ordinal, F_LESS_OR_EQUAL_ordinal, F_GREATER_OR_EQUAL_ordinal⟩ := F
  exact F_LESS_ordinal.ne F_NOT_EQUAL_ordinal (by decide)

theorem pn_rm2_5 : plainName "java/lang/Enum" = true := by first | (simp [plainName, overriddenIn]; done) | decide +kernel
set_option maxRecDepth 65536 in
set_option maxHeartbeats 40000000 in
theorem rm2_5 (l : Launch) (Z : State) (a0 : Array Value) (hw : ∀ d ∈ tables_1, d.before a0 Z = true)  (w_EQUAL w_NOT_EQUAL w_LESS w_LESS_OR_EQUAL w_GREATER w_GREATER_OR_EQUAL : Addr) (h0 : Heap) (F0 : OwnF Z h0 w_EQUAL w_NOT_EQUAL w_LESS w_LESS_OR_EQUAL w_GREATER w_GREATER_OR_EQUAL)  :
    OMeets l Z mn0 jdk_37_method_2_code 1 (some .int) [] ({ frames := 0, cells := 0, slots := 0, locals := 0 } : Room) #[(.ref w_LESS)] h0 (PureQ (some (.int (2 : Int32))) h0) := by
  refine OMeets.of pn_rm2_5 #[.val (.ref w_LESS)] (fun m => by first | rfl | (simp [entryFrame, mkF, argsToLocals, Value.category, maxLocals]; done)) ?_
  intro p e s m below meth c s₁ B X0 e0
  have F := F0
  obtain ⟨S_EQUAL, E_EQUAL, S_NOT_EQUAL, E_NOT_EQUAL, S_LESS, E_LESS, S_LESS_OR_EQUAL, E_LESS_OR_EQUAL, S_GREATER, E_GREATER, S_GREATER_OR_EQUAL, E_GREATER_OR_EQUAL, F_EQUAL_ordinal, F_LESS_ordinal, F_NOT_EQUAL_ordinal, F_GREATER_ordinal, F_LESS_OR_EQUAL_ordinal, F_GREATER_OR_EQUAL_ordinal⟩ := F
  refine s_aloadN B X0 (pc' := 1) d2_0 rfl rfl rfl ?_
  refine s_getF B X0 (pc' := 4) e0 (host := "") (Or.inl (tw29 hw)) Via.refl F_LESS_ordinal d2_1 rfl (fun T1 X1 e1 => ?_)
  exact r_int B X1 rfl d2_4 ⟨rfl, rfl, e1⟩ (by decide) (by decide)
theorem d1_78 : decode prog_23_method_5_code 78 = .ok (.iload_n 1, 1) := by decide +kernel
theorem d1_79 : decode prog_23_method_5_code 79 = .ok (.ifCond .ge 7, 3) := by decide +kernel
theorem d1_82 : decode prog_23_method_5_code 82 = .ok (.iconst 1, 1) := by decide +kernel
theorem d1_83 : decode prog_23_method_5_code 83 = .ok (.goto 40, 3) := by decide +kernel
theorem pn_rm1_4 : plainName "com/example/upmob/upmob/Operator" = true := by first | (simp [plainName, overriddenIn]; done) | decide +kernel
set_option maxRecDepth 65536 in
set_option maxHeartbeats 40000000 in
theorem rm1_4 (l : Launch) (Z : State) (a0 : Array Value) (hw : ∀ d ∈ tables_1, d.before a0 Z = true) (q1 : Int32) (w_EQUAL w_NOT_EQUAL w_LESS w_LESS_OR_EQUAL w_GREATER w_GREATER_OR_EQUAL : Addr) (h0 : Heap) (F0 : OwnF Z h0 w_EQUAL w_NOT_EQUAL w_LESS w_LESS_OR_EQUAL w_GREATER w_GREATER_OR_EQUAL) (hk0 : q1 < (0 : Int32)) (hk1 : ¬ (0 : Int32) < q1) (hk2 : ¬ q1 = (0 : Int32)) :
    OMeets l Z mn2 prog_23_method_5_code 3 (some .boolean) [] ({ frames := 1, cells := 0, slots := 0, locals := 12 } : Room) #[(.ref w_LESS), (.int q1)] h0 (PureQ (some (.int (1 : Int32))) h0) := by
  refine OMeets.of pn_rm1_4 #[.val (.ref w_LESS), .val (.int q1), .unset] (fun m => by first | rfl | (simp [entryFrame, mkF, argsToLocals, Value.category, maxLocals]; done)) ?_
  intro p e s m below meth c s₁ B X0 e0
  have F := F0
  obtain ⟨S_EQUAL, E_EQUAL, S_NOT_EQUAL, E_NOT_EQUAL, S_LESS, E_LESS, S_LESS_OR_EQUAL, E_LESS_OR_EQUAL, S_GREATER, E_GREATER, S_GREATER_OR_EQUAL, E_GREATER_OR_EQUAL, F_EQUAL_ordinal, F_LESS_ordinal, F_NOT_EQUAL_ordinal, F_GREATER_ordinal, F_LESS_OR_EQUAL_ordinal, F_GREATER_OR_EQUAL_ordinal⟩ := F
  refine s_aloadN B X0 (pc' := 1) d1_0 rfl rfl rfl ?_
  refine p_virtualUp B X0 (y := mn1) (z := mn0) (owner := "java/lang/Enum") (pc' := 4) (argsL := []) (under := []) (W := 0) e0 (tw22 hw) (tw23 hw) (tw24 hw) (tw26 hw) (tw25 hw) (tw28 hw) (tw27 hw) (by decide) (rm2_5 l Z a0 hw  w_EQUAL w_NOT_EQUAL w_LESS w_LESS_OR_EQUAL w_GREATER w_GREATER_OR_EQUAL h0 F0 ) E_LESS (lenOf pd_0 rfl) rfl rfl (by decide) (by decide) rfl rfl (by decide) (by decide) rfl d1_1 rfl (fun T1 X1 e1 => ?_)
  show Go p e below _ (T1.setTop (mkF m 4 #[.val (.ref w_LESS), .val (.int q1), .unset] [(.int (2 : Int32))]))
  refine s_tswIn B X1 (pc' := 78) (o := 74) d1_4 (by decide) rfl (by decide) (by decide) ?_
  refine s_iloadN B X1 (pc' := 79) d1_78 rfl rfl ?_
  refine b_if_ge B X1 (py := 86) (pn := 82) d1_79 (by decide) (by decide) rfl (fun q => absurd hk0 q) (fun _ => ?_)
  refine s_iconst B X1 (pc' := 83) (v := (1 : Int32)) d1_82 rfl rfl ?_
  refine s_goto B X1 (pc' := 123) d1_83 (by decide) (by decide) ?_
  refine s_istoreN B X1 (pc' := 124) (Ls' := #[.val (.ref w_LESS), .val (.int q1), .val (.int (1 : Int32))]) d1_123 rfl rfl ?_
  refine s_iloadN B X1 (pc' := 125) d1_124 rfl rfl ?_
  exact r_nar B X1 (t := .boolean) (by simp) rfl d1_125 ⟨rfl, rfl, e1⟩ (by decide) (by decide)
theorem own_ne_w_LESS_OR_EQUAL_w_EQUAL {Z : State} {h : Heap} {w_EQUAL w_NOT_EQUAL w_LESS w_LESS_OR_EQUAL w_GREATER w_GREATER_OR_EQUAL : Addr} (F : OwnF Z h w_EQUAL w_NOT_EQUAL w_LESS w_LESS_OR_EQUAL w_GREATER w_GREATER_OR_EQUAL) : ¬ w_LESS_OR_EQUAL = w_EQUAL := by
  obtain ⟨S_EQUAL, E_EQUAL, S_NOT_EQUAL, E_NOT_EQUAL, S_LESS, E_LESS, S_LESS_OR_EQUAL, E_LESS_OR_EQUAL, S_GREATER, E_GREATER, S_GREATER_OR_EQUAL, E_GREATER_OR_EQUAL, F_EQUAL_ordinal, F_LESS_ordinal, F_NOT_EQUAL_ordinal, F_GREATER_ordinal, F_LESS_OR_EQUAL_ordinal, F_GREATER_OR_EQUAL_ordinal⟩ := F
  exact F_LESS_OR_EQUAL_ordinal.ne F_EQUAL_ordinal (by decide)
theorem own_ne_w_LESS_OR_EQUAL_w_NOT_EQUAL {Z : State} {h : Heap} {w_EQUAL w_NOT_EQUAL w_LESS w_LESS_OR_EQUAL w_GREATER w_GREATER_OR_EQUAL : Addr} (F : OwnF Z h w_EQUAL w_NOT_EQUAL w_LESS w_LESS_OR_EQUAL w_GREATER w_GREATER_OR_EQUAL) : ¬ w_LESS_OR_EQUAL = w_NOT_EQUAL := by
  obtain ⟨S_EQUAL, E_EQUAL, S_NOT_EQUAL, E_NOT_EQUAL, S_LESS, E_LESS, S_LESS_OR_EQUAL, E_LESS_OR_EQUAL, S_GREATER, E_GREATER, S_GREATER_OR_EQUAL, E_GREATER_OR_EQUAL, F_EQUAL_ordinal, F_LESS_ordinal, F_NOT_EQUAL_ordinal, F_GREATER_ordinal, F_LESS_OR_EQUAL_ordinal, F_GREATER_OR_EQUAL_ordinal⟩ := F
  exact F_LESS_OR_EQUAL_ordinal.ne F_NOT_EQUAL_ordinal (by decide)
theorem own_ne_w_LESS_OR_EQUAL_w_LESS {Z : State} {h : Heap} {w_EQUAL w_NOT_EQUAL w_LESS w_LESS_OR_EQUAL w_GREATER w_GREATER_OR_EQUAL : Addr} (F : OwnF Z h w_EQUAL w_NOT_EQUAL w_LESS w_LESS_OR_EQUAL w_GREATER w_GREATER_OR_EQUAL) : ¬ w_LESS_OR_EQUAL = w_LESS := by
  obtain ⟨S_EQUAL, E_EQUAL, S_NOT_EQUAL, E_NOT_EQUAL, S_LESS, E_LESS, S_LESS_OR_EQUAL, E_LESS_OR_EQUAL, S_GREATER, E_GREATER, S_GREATER_OR_EQUAL, E_GREATER_OR_EQUAL, F_EQUAL_ordinal, F_LESS_ordinal, F_NOT_EQUAL_ordinal, F_GREATER_ordinal, F_LESS_OR_EQUAL_ordinal, F_GREATER_OR_EQUAL_ordinal⟩ := F
  exact F_LESS_OR_EQUAL_ordinal.ne F_LESS_ordinal (by decide)

theorem pn_rm2_7 : plainName "java/lang/Enum" = true := by first | (simp [plainName, overriddenIn]; done) | decide +kernel
set_option maxRecDepth 65536 in
set_option maxHeartbeats 40000000 in
theorem rm2_7 (l : Launch) (Z : State) (a0 : Array Value) (hw : ∀ d ∈ tables_1, d.before a0 Z = true)  (w_EQUAL w_NOT_EQUAL w_LESS w_LESS_OR_EQUAL w_GREATER w_GREATER_OR_EQUAL : Addr) (h0 : Heap) (F0 : OwnF Z h0 w_EQUAL w_NOT_EQUAL w_LESS w_LESS_OR_EQUAL w_GREATER w_GREATER_OR_EQUAL)  :
    OMeets l Z mn0 jdk_37_method_2_code 1 (some .int) [] ({ frames := 0, cells := 0, slots := 0, locals := 0 } : Room) #[(.ref w_LESS_OR_EQUAL)] h0 (PureQ (some (.int (3 : Int32))) h0) := by
  refine OMeets.of pn_rm2_7 #[.val (.ref w_LESS_OR_EQUAL)] (fun m => by first | rfl | (simp [entryFrame, mkF, argsToLocals, Value.category, maxLocals]; done)) ?_
  intro p e s m below meth c s₁ B X0 e0
  have F := F0
  obtain ⟨S_EQUAL, E_EQUAL, S_NOT_EQUAL, E_NOT_EQUAL, S_LESS, E_LESS, S_LESS_OR_EQUAL, E_LESS_OR_EQUAL, S_GREATER, E_GREATER, S_GREATER_OR_EQUAL, E_GREATER_OR_EQUAL, F_EQUAL_ordinal, F_LESS_ordinal, F_NOT_EQUAL_ordinal, F_GREATER_ordinal, F_LESS_OR_EQUAL_ordinal, F_GREATER_OR_EQUAL_ordinal⟩ := F
  refine s_aloadN B X0 (pc' := 1) d2_0 rfl rfl rfl ?_
  refine s_getF B X0 (pc' := 4) e0 (host := "") (Or.inl (tw29 hw)) Via.refl F_LESS_OR_EQUAL_ordinal d2_1 rfl (fun T1 X1 e1 => ?_)
  exact r_int B X1 rfl d2_4 ⟨rfl, rfl, e1⟩ (by decide) (by decide)
theorem d1_90 : decode prog_23_method_5_code 90 = .ok (.iload_n 1, 1) := by decide +kernel
theorem d1_91 : decode prog_23_method_5_code 91 = .ok (.ifCond .gt 7, 3) := by decide +kernel
theorem d1_94 : decode prog_23_method_5_code 94 = .ok (.iconst 1, 1) := by decide +kernel
theorem d1_95 : decode prog_23_method_5_code 95 = .ok (.goto 28, 3) := by decide +kernel
theorem pn_rm1_6 : plainName "com/example/upmob/upmob/Operator" = true := by first | (simp [plainName, overriddenIn]; done) | decide +kernel
set_option maxRecDepth 65536 in
set_option maxHeartbeats 40000000 in
theorem rm1_6 (l : Launch) (Z : State) (a0 : Array Value) (hw : ∀ d ∈ tables_1, d.before a0 Z = true) (q1 : Int32) (w_EQUAL w_NOT_EQUAL w_LESS w_LESS_OR_EQUAL w_GREATER w_GREATER_OR_EQUAL : Addr) (h0 : Heap) (F0 : OwnF Z h0 w_EQUAL w_NOT_EQUAL w_LESS w_LESS_OR_EQUAL w_GREATER w_GREATER_OR_EQUAL) (hk0 : q1 < (0 : Int32)) (hk1 : ¬ (0 : Int32) < q1) (hk2 : ¬ q1 = (0 : Int32)) :
    OMeets l Z mn2 prog_23_method_5_code 3 (some .boolean) [] ({ frames := 1, cells := 0, slots := 0, locals := 12 } : Room) #[(.ref w_LESS_OR_EQUAL), (.int q1)] h0 (PureQ (some (.int (1 : Int32))) h0) := by
  refine OMeets.of pn_rm1_6 #[.val (.ref w_LESS_OR_EQUAL), .val (.int q1), .unset] (fun m => by first | rfl | (simp [entryFrame, mkF, argsToLocals, Value.category, maxLocals]; done)) ?_
  intro p e s m below meth c s₁ B X0 e0
  have F := F0
  obtain ⟨S_EQUAL, E_EQUAL, S_NOT_EQUAL, E_NOT_EQUAL, S_LESS, E_LESS, S_LESS_OR_EQUAL, E_LESS_OR_EQUAL, S_GREATER, E_GREATER, S_GREATER_OR_EQUAL, E_GREATER_OR_EQUAL, F_EQUAL_ordinal, F_LESS_ordinal, F_NOT_EQUAL_ordinal, F_GREATER_ordinal, F_LESS_OR_EQUAL_ordinal, F_GREATER_OR_EQUAL_ordinal⟩ := F
  refine s_aloadN B X0 (pc' := 1) d1_0 rfl rfl rfl ?_
  refine p_virtualUp B X0 (y := mn1) (z := mn0) (owner := "java/lang/Enum") (pc' := 4) (argsL := []) (under := []) (W := 0) e0 (tw22 hw) (tw23 hw) (tw24 hw) (tw26 hw) (tw25 hw) (tw28 hw) (tw27 hw) (by decide) (rm2_7 l Z a0 hw  w_EQUAL w_NOT_EQUAL w_LESS w_LESS_OR_EQUAL w_GREATER w_GREATER_OR_EQUAL h0 F0 ) E_LESS_OR_EQUAL (lenOf pd_0 rfl) rfl rfl (by decide) (by decide) rfl rfl (by decide) (by decide) rfl d1_1 rfl (fun T1 X1 e1 => ?_)
  show Go p e below _ (T1.setTop (mkF m 4 #[.val (.ref w_LESS_OR_EQUAL), .val (.int q1), .unset] [(.int (3 : Int32))]))
  refine s_tswIn B X1 (pc' := 90) (o := 86) d1_4 (by decide) rfl (by decide) (by decide) ?_
  refine s_iloadN B X1 (pc' := 91) d1_90 rfl rfl ?_
  refine b_if_gt B X1 (py := 98) (pn := 94) d1_91 (by decide) (by decide) rfl (fun q => absurd q hk1) (fun _ => ?_)
  refine s_iconst B X1 (pc' := 95) (v := (1 : Int32)) d1_94 rfl rfl ?_
  refine s_goto B X1 (pc' := 123) d1_95 (by decide) (by decide) ?_
  refine s_istoreN B X1 (pc' := 124) (Ls' := #[.val (.ref w_LESS_OR_EQUAL), .val (.int q1), .val (.int (1 : Int32))]) d1_123 rfl rfl ?_
  refine s_iloadN B X1 (pc' := 125) d1_124 rfl rfl ?_
  exact r_nar B X1 (t := .boolean) (by simp) rfl d1_125 ⟨rfl, rfl, e1⟩ (by decide) (by decide)
theorem own_ne_w_GREATER_w_EQUAL {Z : State} {h : Heap} {w_EQUAL w_NOT_EQUAL w_LESS w_LESS_OR_EQUAL w_GREATER w_GREATER_OR_EQUAL : Addr} (F : OwnF Z h w_EQUAL w_NOT_EQUAL w_LESS w_LESS_OR_EQUAL w_GREATER w_GREATER_OR_EQUAL) : ¬ w_GREATER = w_EQUAL := by
  obtain ⟨S_EQUAL, E_EQUAL, S_NOT_EQUAL, E_NOT_EQUAL, S_LESS, E_LESS, S_LESS_OR_EQUAL, E_LESS_OR_EQUAL, S_GREATER, E_GREATER, S_GREATER_OR_EQUAL, E_GREATER_OR_EQUAL, F_EQUAL_ordinal, F_LESS_ordinal, F_NOT_EQUAL_ordinal, F_GREATER_ordinal, F_LESS_OR_EQUAL_ordinal, F_GREATER_OR_EQUAL_ordinal⟩ := F
  exact F_GREATER_ordinal.ne F_EQUAL_ordinal (by decide)
theorem own_ne_w_GREATER_w_NOT_EQUAL {Z : State} {h : Heap} {w_EQUAL w_NOT_EQUAL w_LESS w_LESS_OR_EQUAL w_GREATER w_GREATER_OR_EQUAL : Addr} (F : OwnF Z h w_EQUAL w_NOT_EQUAL w_LESS w_LESS_OR_EQUAL w_GREATER w_GREATER_OR_EQUAL) : ¬ w_GREATER = w_NOT_EQUAL := by
  obtain ⟨S_EQUAL, E_EQUAL, S_NOT_EQUAL, E_NOT_EQUAL, S_LESS, E_LESS, S_LESS_OR_EQUAL, E_LESS_OR_EQUAL, S_GREATER, E_GREATER, S_GREATER_OR_EQUAL, E_GREATER_OR_EQUAL, F_EQUAL_ordinal, F_LESS_ordinal, F_NOT_EQUAL_ordinal, F_GREATER_ordinal, F_LESS_OR_EQUAL_ordinal, F_GREATER_OR_EQUAL_ordinal⟩ := F
  exact F_GREATER_ordinal.ne F_NOT_EQUAL_ordinal (by decide)
theorem own_ne_w_GREATER_w_LESS {Z : State} {h : Heap} {w_EQUAL w_NOT_EQUAL w_LESS w_LESS_OR_EQUAL w_GREATER w_GREATER_OR_EQUAL : Addr} (F : OwnF Z h w_EQUAL w_NOT_EQUAL w_LESS w_LESS_OR_EQUAL w_GREATER w_GREATER_OR_EQUAL) : ¬ w_GREATER = w_LESS := by
  obtain ⟨S_EQUAL, E_EQUAL, S_NOT_EQUAL, E_NOT_EQUAL, S_LESS, E_LESS, S_LESS_OR_EQUAL, E_LESS_OR_EQUAL, S_GREATER, E_GREATER, S_GREATER_OR_EQUAL, E_GREATER_OR_EQUAL, F_EQUAL_ordinal, F_LESS_ordinal, F_NOT_EQUAL_ordinal, F_GREATER_ordinal, F_LESS_OR_EQUAL_ordinal, F_GREATER_OR_EQUAL_ordinal⟩ := F
  exact F_GREATER_ordinal.ne F_LESS_ordinal (by decide)
theorem own_ne_w_GREATER_w_LESS_OR_EQUAL {Z : State} {h : Heap} {w_EQUAL w_NOT_EQUAL w_LESS w_LESS_OR_EQUAL w_GREATER w_GREATER_OR_EQUAL : Addr} (F : OwnF Z h w_EQUAL w_NOT_EQUAL w_LESS w_LESS_OR_EQUAL w_GREATER w_GREATER_OR_EQUAL) : ¬ w_GREATER = w_LESS_OR_EQUAL := by
  obtain ⟨S_EQUAL, E_EQUAL, S_NOT_EQUAL, E_NOT_EQUAL, S_LESS, E_LESS, S_LESS_OR_EQUAL, E_LESS_OR_EQUAL, S_GREATER, E_GREATER, S_GREATER_OR_EQUAL, E_GREATER_OR_EQUAL, F_EQUAL_ordinal, F_LESS_ordinal, F_NOT_EQUAL_ordinal, F_GREATER_ordinal, F_LESS_OR_EQUAL_ordinal, F_GREATER_OR_EQUAL_ordinal⟩ := F
  exact F_GREATER_ordinal.ne F_LESS_OR_EQUAL_ordinal (by decide)

theorem pn_rm2_9 : plainName "java/lang/Enum" = true := by first | (simp [plainName, overriddenIn]; done) | decide +kernel
set_option maxRecDepth 65536 in
set_option maxHeartbeats 40000000 in
theorem rm2_9 (l : Launch) (Z : State) (a0 : Array Value) (hw : ∀ d ∈ tables_1, d.before a0 Z = true)  (w_EQUAL w_NOT_EQUAL w_LESS w_LESS_OR_EQUAL w_GREATER w_GREATER_OR_EQUAL : Addr) (h0 : Heap) (F0 : OwnF Z h0 w_EQUAL w_NOT_EQUAL w_LESS w_LESS_OR_EQUAL w_GREATER w_GREATER_OR_EQUAL)  :
    OMeets l Z mn0 jdk_37_method_2_code 1 (some .int) [] ({ frames := 0, cells := 0, slots := 0, locals := 0 } : Room) #[(.ref w_GREATER)] h0 (PureQ (some (.int (4 : Int32))) h0) := by
  refine OMeets.of pn_rm2_9 #[.val (.ref w_GREATER)] (fun m => by first | rfl | (simp [entryFrame, mkF, argsToLocals, Value.category, maxLocals]; done)) ?_
  intro p e s m below meth c s₁ B X0 e0
  have F := F0
  obtain ⟨S_EQUAL, E_EQUAL, S_NOT_EQUAL, E_NOT_EQUAL, S_LESS, E_LESS, S_LESS_OR_EQUAL, E_LESS_OR_EQUAL, S_GREATER, E_GREATER, S_GREATER_OR_EQUAL, E_GREATER_OR_EQUAL, F_EQUAL_ordinal, F_LESS_ordinal, F_NOT_EQUAL_ordinal, F_GREATER_ordinal, F_LESS_OR_EQUAL_ordinal, F_GREATER_OR_EQUAL_ordinal⟩ := F
  refine s_aloadN B X0 (pc' := 1) d2_0 rfl rfl rfl ?_
  refine s_getF B X0 (pc' := 4) e0 (host := "") (Or.inl (tw29 hw)) Via.refl F_GREATER_ordinal d2_1 rfl (fun T1 X1 e1 => ?_)
  exact r_int B X1 rfl d2_4 ⟨rfl, rfl, e1⟩ (by decide) (by decide)
theorem d1_102 : decode prog_23_method_5_code 102 = .ok (.iload_n 1, 1) := by decide +kernel
theorem d1_103 : decode prog_23_method_5_code 103 = .ok (.ifCond .le 7, 3) := by decide +kernel
theorem d1_110 : decode prog_23_method_5_code 110 = .ok (.iconst 0, 1) := by decide +kernel
theorem d1_111 : decode prog_23_method_5_code 111 = .ok (.goto 12, 3) := by decide +kernel
theorem pn_rm1_8 : plainName "com/example/upmob/upmob/Operator" = true := by first | (simp [plainName, overriddenIn]; done) | decide +kernel
set_option maxRecDepth 65536 in
set_option maxHeartbeats 40000000 in
theorem rm1_8 (l : Launch) (Z : State) (a0 : Array Value) (hw : ∀ d ∈ tables_1, d.before a0 Z = true) (q1 : Int32) (w_EQUAL w_NOT_EQUAL w_LESS w_LESS_OR_EQUAL w_GREATER w_GREATER_OR_EQUAL : Addr) (h0 : Heap) (F0 : OwnF Z h0 w_EQUAL w_NOT_EQUAL w_LESS w_LESS_OR_EQUAL w_GREATER w_GREATER_OR_EQUAL) (hk0 : q1 < (0 : Int32)) (hk1 : ¬ (0 : Int32) < q1) (hk2 : ¬ q1 = (0 : Int32)) :
    OMeets l Z mn2 prog_23_method_5_code 3 (some .boolean) [] ({ frames := 1, cells := 0, slots := 0, locals := 12 } : Room) #[(.ref w_GREATER), (.int q1)] h0 (PureQ (some (.int (0 : Int32))) h0) := by
  refine OMeets.of pn_rm1_8 #[.val (.ref w_GREATER), .val (.int q1), .unset] (fun m => by first | rfl | (simp [entryFrame, mkF, argsToLocals, Value.category, maxLocals]; done)) ?_
  intro p e s m below meth c s₁ B X0 e0
  have F := F0
  obtain ⟨S_EQUAL, E_EQUAL, S_NOT_EQUAL, E_NOT_EQUAL, S_LESS, E_LESS, S_LESS_OR_EQUAL, E_LESS_OR_EQUAL, S_GREATER, E_GREATER, S_GREATER_OR_EQUAL, E_GREATER_OR_EQUAL, F_EQUAL_ordinal, F_LESS_ordinal, F_NOT_EQUAL_ordinal, F_GREATER_ordinal, F_LESS_OR_EQUAL_ordinal, F_GREATER_OR_EQUAL_ordinal⟩ := F
  refine s_aloadN B X0 (pc' := 1) d1_0 rfl rfl rfl ?_
  refine p_virtualUp B X0 (y := mn1) (z := mn0) (owner := "java/lang/Enum") (pc' := 4) (argsL := []) (under := []) (W := 0) e0 (tw22 hw) (tw23 hw) (tw24 hw) (tw26 hw) (tw25 hw) (tw28 hw) (tw27 hw) (by decide) (rm2_9 l Z a0 hw  w_EQUAL w_NOT_EQUAL w_LESS w_LESS_OR_EQUAL w_GREATER w_GREATER_OR_EQUAL h0 F0 ) E_GREATER (lenOf pd_0 rfl) rfl rfl (by decide) (by decide) rfl rfl (by decide) (by decide) rfl d1_1 rfl (fun T1 X1 e1 => ?_)
  show Go p e below _ (T1.setTop (mkF m 4 #[.val (.ref w_GREATER), .val (.int q1), .unset] [(.int (4 : Int32))]))
  refine s_tswIn B X1 (pc' := 102) (o := 98) d1_4 (by decide) rfl (by decide) (by decide) ?_
  refine s_iloadN B X1 (pc' := 103) d1_102 rfl rfl ?_
  refine b_if_le B X1 (py := 110) (pn := 106) d1_103 (by decide) (by decide) rfl (fun _ => ?_) (fun q => absurd q hk1)
  refine s_iconst B X1 (pc' := 111) (v := (0 : Int32)) d1_110 rfl rfl ?_
  refine s_goto B X1 (pc' := 123) d1_111 (by decide) (by decide) ?_
  refine s_istoreN B X1 (pc' := 124) (Ls' := #[.val (.ref w_GREATER), .val (.int q1), .val (.int (0 : Int32))]) d1_123 rfl rfl ?_
  refine s_iloadN B X1 (pc' := 125) d1_124 rfl rfl ?_
  exact r_nar B X1 (t := .boolean) (by simp) rfl d1_125 ⟨rfl, rfl, e1⟩ (by decide) (by decide)
theorem own_ne_w_GREATER_OR_EQUAL_w_EQUAL {Z : State} {h : Heap} {w_EQUAL w_NOT_EQUAL w_LESS w_LESS_OR_EQUAL w_GREATER w_GREATER_OR_EQUAL : Addr} (F : OwnF Z h w_EQUAL w_NOT_EQUAL w_LESS w_LESS_OR_EQUAL w_GREATER w_GREATER_OR_EQUAL) : ¬ w_GREATER_OR_EQUAL = w_EQUAL := by
  obtain ⟨S_EQUAL, E_EQUAL, S_NOT_EQUAL, E_NOT_EQUAL, S_LESS, E_LESS, S_LESS_OR_EQUAL, E_LESS_OR_EQUAL, S_GREATER, E_GREATER, S_GREATER_OR_EQUAL, E_GREATER_OR_EQUAL, F_EQUAL_ordinal, F_LESS_ordinal, F_NOT_EQUAL_ordinal, F_GREATER_ordinal, F_LESS_OR_EQUAL_ordinal, F_GREATER_OR_EQUAL_ordinal⟩ := F
  exact F_GREATER_OR_EQUAL_ordinal.ne F_EQUAL_ordinal (by decide)
theorem own_ne_w_GREATER_OR_EQUAL_w_NOT_EQUAL {Z : State} {h : Heap} {w_EQUAL w_NOT_EQUAL w_LESS w_LESS_OR_EQUAL w_GREATER w_GREATER_OR_EQUAL : Addr} (F : OwnF Z h w_EQUAL w_NOT_EQUAL w_LESS w_LESS_OR_EQUAL w_GREATER w_GREATER_OR_EQUAL) : ¬ w_GREATER_OR_EQUAL = w_NOT_EQUAL := by
  obtain ⟨S_EQUAL, E_EQUAL, S_NOT_EQUAL, E_NOT_EQUAL, S_LESS, E_LESS, S_LESS_OR_EQUAL, E_LESS_OR_EQUAL, S_GREATER, E_GREATER, S_GREATER_OR_EQUAL, E_GREATER_OR_EQUAL, F_EQUAL_ordinal, F_LESS_ordinal, F_NOT_EQUAL_ordinal, F_GREATER_ordinal, F_LESS_OR_EQUAL_ordinal, F_GREATER_OR_EQUAL_ordinal⟩ := F
  exact F_GREATER_OR_EQUAL_ordinal.ne F_NOT_EQUAL_ordinal (by decide)
theorem own_ne_w_GREATER_OR_EQUAL_w_LESS {Z : State} {h : Heap} {w_EQUAL w_NOT_EQUAL w_LESS w_LESS_OR_EQUAL w_GREATER w_GREATER_OR_EQUAL : Addr} (F : OwnF Z h w_EQUAL w_NOT_EQUAL w_LESS w_LESS_OR_EQUAL w_GREATER w_GREATER_OR_EQUAL) : ¬ w_GREATER_OR_EQUAL = w_LESS := by
  obtain ⟨S_EQUAL, E_EQUAL, S_NOT_EQUAL, E_NOT_EQUAL, S_LESS, E_LESS, S_LESS_OR_EQUAL, E_LESS_OR_EQUAL, S_GREATER, E_GREATER, S_GREATER_OR_EQUAL, E_GREATER_OR_EQUAL, F_EQUAL_ordinal, F_LESS_ordinal, F_NOT_EQUAL_ordinal, F_GREATER_ordinal, F_LESS_OR_EQUAL_ordinal, F_GREATER_OR_EQUAL_ordinal⟩ := F
  exact F_GREATER_OR_EQUAL_ordinal.ne F_LESS_ordinal (by decide)
theorem own_ne_w_GREATER_OR_EQUAL_w_LESS_OR_EQUAL {Z : State} {h : Heap} {w_EQUAL w_NOT_EQUAL w_LESS w_LESS_OR_EQUAL w_GREATER w_GREATER_OR_EQUAL : Addr} (F : OwnF Z h w_EQUAL w_NOT_EQUAL w_LESS w_LESS_OR_EQUAL w_GREATER w_GREATER_OR_EQUAL) : ¬ w_GREATER_OR_EQUAL = w_LESS_OR_EQUAL := by
  obtain ⟨S_EQUAL, E_EQUAL, S_NOT_EQUAL, E_NOT_EQUAL, S_LESS, E_LESS, S_LESS_OR_EQUAL, E_LESS_OR_EQUAL, S_GREATER, E_GREATER, S_GREATER_OR_EQUAL, E_GREATER_OR_EQUAL, F_EQUAL_ordinal, F_LESS_ordinal, F_NOT_EQUAL_ordinal, F_GREATER_ordinal, F_LESS_OR_EQUAL_ordinal, F_GREATER_OR_EQUAL_ordinal⟩ := F
  exact F_GREATER_OR_EQUAL_ordinal.ne F_LESS_OR_EQUAL_ordinal (by decide)
theorem own_ne_w_GREATER_OR_EQUAL_w_GREATER {Z : State} {h : Heap} {w_EQUAL w_NOT_EQUAL w_LESS w_LESS_OR_EQUAL w_GREATER w_GREATER_OR_EQUAL : Addr} (F : OwnF Z h w_EQUAL w_NOT_EQUAL w_LESS w_LESS_OR_EQUAL w_GREATER w_GREATER_OR_EQUAL) : ¬ w_GREATER_OR_EQUAL = w_GREATER := by
  obtain ⟨S_EQUAL, E_EQUAL, S_NOT_EQUAL, E_NOT_EQUAL, S_LESS, E_LESS, S_LESS_OR_EQUAL, E_LESS_OR_EQUAL, S_GREATER, E_GREATER, S_GREATER_OR_EQUAL, E_GREATER_OR_EQUAL, F_EQUAL_ordinal, F_LESS_ordinal, F_NOT_EQUAL_ordinal, F_GREATER_ordinal, F_LESS_OR_EQUAL_ordinal, F_GREATER_OR_EQUAL_ordinal⟩ := F
  exact F_GREATER_OR_EQUAL_ordinal.ne F_GREATER_ordinal (by decide)

theorem pn_rm2_11 : plainName "java/lang/Enum" = true := by first | (simp [plainName, overriddenIn]; done) | decide +kernel
set_option maxRecDepth 65536 in
set_option maxHeartbeats 40000000 in
theorem rm2_11 (l : Launch) (Z : State) (a0 : Array Value) (hw : ∀ d ∈ tables_1, d.before a0 Z = true)  (w_EQUAL w_NOT_EQUAL w_LESS w_LESS_OR_EQUAL w_GREATER w_GREATER_OR_EQUAL : Addr) (h0 : Heap) (F0 : OwnF Z h0 w_EQUAL w_NOT_EQUAL w_LESS w_LESS_OR_EQUAL w_GREATER w_GREATER_OR_EQUAL)  :
    OMeets l Z mn0 jdk_37_method_2_code 1 (some .int) [] ({ frames := 0, cells := 0, slots := 0, locals := 0 } : Room) #[(.ref w_GREATER_OR_EQUAL)] h0 (PureQ (some (.int (5 : Int32))) h0) := by
  refine OMeets.of pn_rm2_11 #[.val (.ref w_GREATER_OR_EQUAL)] (fun m => by first | rfl | (simp [entryFrame, mkF, argsToLocals, Value.category, maxLocals]; done)) ?_
  intro p e s m below meth c s₁ B X0 e0
  have F := F0
  obtain ⟨S_EQUAL, E_EQUAL, S_NOT_EQUAL, E_NOT_EQUAL, S_LESS, E_LESS, S_LESS_OR_EQUAL, E_LESS_OR_EQUAL, S_GREATER, E_GREATER, S_GREATER_OR_EQUAL, E_GREATER_OR_EQUAL, F_EQUAL_ordinal, F_LESS_ordinal, F_NOT_EQUAL_ordinal, F_GREATER_ordinal, F_LESS_OR_EQUAL_ordinal, F_GREATER_OR_EQUAL_ordinal⟩ := F
  refine s_aloadN B X0 (pc' := 1) d2_0 rfl rfl rfl ?_
  refine s_getF B X0 (pc' := 4) e0 (host := "") (Or.inl (tw29 hw)) Via.refl F_GREATER_OR_EQUAL_ordinal d2_1 rfl (fun T1 X1 e1 => ?_)
  exact r_int B X1 rfl d2_4 ⟨rfl, rfl, e1⟩ (by decide) (by decide)
theorem d1_114 : decode prog_23_method_5_code 114 = .ok (.iload_n 1, 1) := by decide +kernel
theorem d1_115 : decode prog_23_method_5_code 115 = .ok (.ifCond .lt 7, 3) := by decide +kernel
theorem d1_122 : decode prog_23_method_5_code 122 = .ok (.iconst 0, 1) := by decide +kernel
theorem pn_rm1_10 : plainName "com/example/upmob/upmob/Operator" = true := by first | (simp [plainName, overriddenIn]; done) | decide +kernel
set_option maxRecDepth 65536 in
set_option maxHeartbeats 40000000 in
theorem rm1_10 (l : Launch) (Z : State) (a0 : Array Value) (hw : ∀ d ∈ tables_1, d.before a0 Z = true) (q1 : Int32) (w_EQUAL w_NOT_EQUAL w_LESS w_LESS_OR_EQUAL w_GREATER w_GREATER_OR_EQUAL : Addr) (h0 : Heap) (F0 : OwnF Z h0 w_EQUAL w_NOT_EQUAL w_LESS w_LESS_OR_EQUAL w_GREATER w_GREATER_OR_EQUAL) (hk0 : q1 < (0 : Int32)) (hk1 : ¬ (0 : Int32) < q1) (hk2 : ¬ q1 = (0 : Int32)) :
    OMeets l Z mn2 prog_23_method_5_code 3 (some .boolean) [] ({ frames := 1, cells := 0, slots := 0, locals := 12 } : Room) #[(.ref w_GREATER_OR_EQUAL), (.int q1)] h0 (PureQ (some (.int (0 : Int32))) h0) := by
  refine OMeets.of pn_rm1_10 #[.val (.ref w_GREATER_OR_EQUAL), .val (.int q1), .unset] (fun m => by first | rfl | (simp [entryFrame, mkF, argsToLocals, Value.category, maxLocals]; done)) ?_
  intro p e s m below meth c s₁ B X0 e0
  have F := F0
  obtain ⟨S_EQUAL, E_EQUAL, S_NOT_EQUAL, E_NOT_EQUAL, S_LESS, E_LESS, S_LESS_OR_EQUAL, E_LESS_OR_EQUAL, S_GREATER, E_GREATER, S_GREATER_OR_EQUAL, E_GREATER_OR_EQUAL, F_EQUAL_ordinal, F_LESS_ordinal, F_NOT_EQUAL_ordinal, F_GREATER_ordinal, F_LESS_OR_EQUAL_ordinal, F_GREATER_OR_EQUAL_ordinal⟩ := F
  refine s_aloadN B X0 (pc' := 1) d1_0 rfl rfl rfl ?_
  refine p_virtualUp B X0 (y := mn1) (z := mn0) (owner := "java/lang/Enum") (pc' := 4) (argsL := []) (under := []) (W := 0) e0 (tw22 hw) (tw23 hw) (tw24 hw) (tw26 hw) (tw25 hw) (tw28 hw) (tw27 hw) (by decide) (rm2_11 l Z a0 hw  w_EQUAL w_NOT_EQUAL w_LESS w_LESS_OR_EQUAL w_GREATER w_GREATER_OR_EQUAL h0 F0 ) E_GREATER_OR_EQUAL (lenOf pd_0 rfl) rfl rfl (by decide) (by decide) rfl rfl (by decide) (by decide) rfl d1_1 rfl (fun T1 X1 e1 => ?_)
  show Go p e below _ (T1.setTop (mkF m 4 #[.val (.ref w_GREATER_OR_EQUAL), .val (.int q1), .unset] [(.int (5 : Int32))]))
  refine s_tswIn B X1 (pc' := 114) (o := 110) d1_4 (by decide) rfl (by decide) (by decide) ?_
  refine s_iloadN B X1 (pc' := 115) d1_114 rfl rfl ?_
  refine b_if_lt B X1 (py := 122) (pn := 118) d1_115 (by decide) (by decide) rfl (fun _ => ?_) (fun q => absurd hk0 q)
  refine s_iconst B X1 (pc' := 123) (v := (0 : Int32)) d1_122 rfl rfl ?_
  refine s_istoreN B X1 (pc' := 124) (Ls' := #[.val (.ref w_GREATER_OR_EQUAL), .val (.int q1), .val (.int (0 : Int32))]) d1_123 rfl rfl ?_
  refine s_iloadN B X1 (pc' := 125) d1_124 rfl rfl ?_
  exact r_nar B X1 (t := .boolean) (by simp) rfl d1_125 ⟨rfl, rfl, e1⟩ (by decide) (by decide)
theorem d1_58 : decode prog_23_method_5_code 58 = .ok (.iconst 1, 1) := by decide +kernel
theorem d1_59 : decode prog_23_method_5_code 59 = .ok (.goto 64, 3) := by decide +kernel
theorem pn_rm1_12 : plainName "com/example/upmob/upmob/Operator" = true := by first | (simp [plainName, overriddenIn]; done) | decide +kernel
set_option maxRecDepth 65536 in
set_option maxHeartbeats 40000000 in
theorem rm1_12 (l : Launch) (Z : State) (a0 : Array Value) (hw : ∀ d ∈ tables_1, d.before a0 Z = true) (q1 : Int32) (w_EQUAL w_NOT_EQUAL w_LESS w_LESS_OR_EQUAL w_GREATER w_GREATER_OR_EQUAL : Addr) (h0 : Heap) (F0 : OwnF Z h0 w_EQUAL w_NOT_EQUAL w_LESS w_LESS_OR_EQUAL w_GREATER w_GREATER_OR_EQUAL) (hk0 : ¬ q1 < (0 : Int32)) (hk1 : ¬ (0 : Int32) < q1) (hk2 : q1 = (0 : Int32)) :
    OMeets l Z mn2 prog_23_method_5_code 3 (some .boolean) [] ({ frames := 1, cells := 0, slots := 0, locals := 12 } : Room) #[(.ref w_EQUAL), (.int q1)] h0 (PureQ (some (.int (1 : Int32))) h0) := by
  refine OMeets.of pn_rm1_12 #[.val (.ref w_EQUAL), .val (.int q1), .unset] (fun m => by first | rfl | (simp [entryFrame, mkF, argsToLocals, Value.category, maxLocals]; done)) ?_
  intro p e s m below meth c s₁ B X0 e0
  have F := F0
  obtain ⟨S_EQUAL, E_EQUAL, S_NOT_EQUAL, E_NOT_EQUAL, S_LESS, E_LESS, S_LESS_OR_EQUAL, E_LESS_OR_EQUAL, S_GREATER, E_GREATER, S_GREATER_OR_EQUAL, E_GREATER_OR_EQUAL, F_EQUAL_ordinal, F_LESS_ordinal, F_NOT_EQUAL_ordinal, F_GREATER_ordinal, F_LESS_OR_EQUAL_ordinal, F_GREATER_OR_EQUAL_ordinal⟩ := F
  refine s_aloadN B X0 (pc' := 1) d1_0 rfl rfl rfl ?_
  refine p_virtualUp B X0 (y := mn1) (z := mn0) (owner := "java/lang/Enum") (pc' := 4) (argsL := []) (under := []) (W := 0) e0 (tw22 hw) (tw23 hw) (tw24 hw) (tw26 hw) (tw25 hw) (tw28 hw) (tw27 hw) (by decide) (rm2_1 l Z a0 hw  w_EQUAL w_NOT_EQUAL w_LESS w_LESS_OR_EQUAL w_GREATER w_GREATER_OR_EQUAL h0 F0 ) E_EQUAL (lenOf pd_0 rfl) rfl rfl (by decide) (by decide) rfl rfl (by decide) (by decide) rfl d1_1 rfl (fun T1 X1 e1 => ?_)
  show Go p e below _ (T1.setTop (mkF m 4 #[.val (.ref w_EQUAL), .val (.int q1), .unset] [(.int (0 : Int32))]))
  refine s_tswIn B X1 (pc' := 54) (o := 50) d1_4 (by decide) rfl (by decide) (by decide) ?_
  refine s_iloadN B X1 (pc' := 55) d1_54 rfl rfl ?_
  refine b_if_ne B X1 (py := 62) (pn := 58) d1_55 (by decide) (by decide) rfl (fun q => absurd hk2 q) (fun _ => ?_)
  refine s_iconst B X1 (pc' := 59) (v := (1 : Int32)) d1_58 rfl rfl ?_
  refine s_goto B X1 (pc' := 123) d1_59 (by decide) (by decide) ?_
  refine s_istoreN B X1 (pc' := 124) (Ls' := #[.val (.ref w_EQUAL), .val (.int q1), .val (.int (1 : Int32))]) d1_123 rfl rfl ?_
  refine s_iloadN B X1 (pc' := 125) d1_124 rfl rfl ?_
  exact r_nar B X1 (t := .boolean) (by simp) rfl d1_125 ⟨rfl, rfl, e1⟩ (by decide) (by decide)
theorem d1_74 : decode prog_23_method_5_code 74 = .ok (.iconst 0, 1) := by decide +kernel
theorem d1_75 : decode prog_23_method_5_code 75 = .ok (.goto 48, 3) := by decide +kernel
theorem pn_rm1_13 : plainName "com/example/upmob/upmob/Operator" = true := by first | (simp [plainName, overriddenIn]; done) | decide +kernel
set_option maxRecDepth 65536 in
set_option maxHeartbeats 40000000 in
theorem rm1_13 (l : Launch) (Z : State) (a0 : Array Value) (hw : ∀ d ∈ tables_1, d.before a0 Z = true) (q1 : Int32) (w_EQUAL w_NOT_EQUAL w_LESS w_LESS_OR_EQUAL w_GREATER w_GREATER_OR_EQUAL : Addr) (h0 : Heap) (F0 : OwnF Z h0 w_EQUAL w_NOT_EQUAL w_LESS w_LESS_OR_EQUAL w_GREATER w_GREATER_OR_EQUAL) (hk0 : ¬ q1 < (0 : Int32)) (hk1 : ¬ (0 : Int32) < q1) (hk2 : q1 = (0 : Int32)) :
    OMeets l Z mn2 prog_23_method_5_code 3 (some .boolean) [] ({ frames := 1, cells := 0, slots := 0, locals := 12 } : Room) #[(.ref w_NOT_EQUAL), (.int q1)] h0 (PureQ (some (.int (0 : Int32))) h0) := by
  refine OMeets.of pn_rm1_13 #[.val (.ref w_NOT_EQUAL), .val (.int q1), .unset] (fun m => by first | rfl | (simp [entryFrame, mkF, argsToLocals, Value.category, maxLocals]; done)) ?_
  intro p e s m below meth c s₁ B X0 e0
  have F := F0
  obtain ⟨S_EQUAL, E_EQUAL, S_NOT_EQUAL, E_NOT_EQUAL, S_LESS, E_LESS, S_LESS_OR_EQUAL, E_LESS_OR_EQUAL, S_GREATER, E_GREATER, S_GREATER_OR_EQUAL, E_GREATER_OR_EQUAL, F_EQUAL_ordinal, F_LESS_ordinal, F_NOT_EQUAL_ordinal, F_GREATER_ordinal, F_LESS_OR_EQUAL_ordinal, F_GREATER_OR_EQUAL_ordinal⟩ := F
  refine s_aloadN B X0 (pc' := 1) d1_0 rfl rfl rfl ?_
  refine p_virtualUp B X0 (y := mn1) (z := mn0) (owner := "java/lang/Enum") (pc' := 4) (argsL := []) (under := []) (W := 0) e0 (tw22 hw) (tw23 hw) (tw24 hw) (tw26 hw) (tw25 hw) (tw28 hw) (tw27 hw) (by decide) (rm2_3 l Z a0 hw  w_EQUAL w_NOT_EQUAL w_LESS w_LESS_OR_EQUAL w_GREATER w_GREATER_OR_EQUAL h0 F0 ) E_NOT_EQUAL (lenOf pd_0 rfl) rfl rfl (by decide) (by decide) rfl rfl (by decide) (by decide) rfl d1_1 rfl (fun T1 X1 e1 => ?_)
  show Go p e below _ (T1.setTop (mkF m 4 #[.val (.ref w_NOT_EQUAL), .val (.int q1), .unset] [(.int (1 : Int32))]))
  refine s_tswIn B X1 (pc' := 66) (o := 62) d1_4 (by decide) rfl (by decide) (by decide) ?_
  refine s_iloadN B X1 (pc' := 67) d1_66 rfl rfl ?_
  refine b_if_eq B X1 (py := 74) (pn := 70) d1_67 (by decide) (by decide) rfl (fun _ => ?_) (fun q => absurd hk2 q)
  refine s_iconst B X1 (pc' := 75) (v := (0 : Int32)) d1_74 rfl rfl ?_
  refine s_goto B X1 (pc' := 123) d1_75 (by decide) (by decide) ?_
  refine s_istoreN B X1 (pc' := 124) (Ls' := #[.val (.ref w_NOT_EQUAL), .val (.int q1), .val (.int (0 : Int32))]) d1_123 rfl rfl ?_
  refine s_iloadN B X1 (pc' := 125) d1_124 rfl rfl ?_
  exact r_nar B X1 (t := .boolean) (by simp) rfl d1_125 ⟨rfl, rfl, e1⟩ (by decide) (by decide)
theorem d1_86 : decode prog_23_method_5_code 86 = .ok (.iconst 0, 1) := by decide +kernel
theorem d1_87 : decode prog_23_method_5_code 87 = .ok (.goto 36, 3) := by decide +kernel
theorem pn_rm1_14 : plainName "com/example/upmob/upmob/Operator" = true := by first | (simp [plainName, overriddenIn]; done) | decide +kernel
set_option maxRecDepth 65536 in
set_option maxHeartbeats 40000000 in
theorem rm1_14 (l : Launch) (Z : State) (a0 : Array Value) (hw : ∀ d ∈ tables_1, d.before a0 Z = true) (q1 : Int32) (w_EQUAL w_NOT_EQUAL w_LESS w_LESS_OR_EQUAL w_GREATER w_GREATER_OR_EQUAL : Addr) (h0 : Heap) (F0 : OwnF Z h0 w_EQUAL w_NOT_EQUAL w_LESS w_LESS_OR_EQUAL w_GREATER w_GREATER_OR_EQUAL) (hk0 : ¬ q1 < (0 : Int32)) (hk1 : ¬ (0 : Int32) < q1) (hk2 : q1 = (0 : Int32)) :
    OMeets l Z mn2 prog_23_method_5_code 3 (some .boolean) [] ({ frames := 1, cells := 0, slots := 0, locals := 12 } : Room) #[(.ref w_LESS), (.int q1)] h0 (PureQ (some (.int (0 : Int32))) h0) := by
  refine OMeets.of pn_rm1_14 #[.val (.ref w_LESS), .val (.int q1), .unset] (fun m => by first | rfl | (simp [entryFrame, mkF, argsToLocals, Value.category, maxLocals]; done)) ?_
  intro p e s m below meth c s₁ B X0 e0
  have F := F0
  obtain ⟨S_EQUAL, E_EQUAL, S_NOT_EQUAL, E_NOT_EQUAL, S_LESS, E_LESS, S_LESS_OR_EQUAL, E_LESS_OR_EQUAL, S_GREATER, E_GREATER, S_GREATER_OR_EQUAL, E_GREATER_OR_EQUAL, F_EQUAL_ordinal, F_LESS_ordinal, F_NOT_EQUAL_ordinal, F_GREATER_ordinal, F_LESS_OR_EQUAL_ordinal, F_GREATER_OR_EQUAL_ordinal⟩ := F
  refine s_aloadN B X0 (pc' := 1) d1_0 rfl rfl rfl ?_
  refine p_virtualUp B X0 (y := mn1) (z := mn0) (owner := "java/lang/Enum") (pc' := 4) (argsL := []) (under := []) (W := 0) e0 (tw22 hw) (tw23 hw) (tw24 hw) (tw26 hw) (tw25 hw) (tw28 hw) (tw27 hw) (by decide) (rm2_5 l Z a0 hw  w_EQUAL w_NOT_EQUAL w_LESS w_LESS_OR_EQUAL w_GREATER w_GREATER_OR_EQUAL h0 F0 ) E_LESS (lenOf pd_0 rfl) rfl rfl (by decide) (by decide) rfl rfl (by decide) (by decide) rfl d1_1 rfl (fun T1 X1 e1 => ?_)
  show Go p e below _ (T1.setTop (mkF m 4 #[.val (.ref w_LESS), .val (.int q1), .unset] [(.int (2 : Int32))]))
  refine s_tswIn B X1 (pc' := 78) (o := 74) d1_4 (by decide) rfl (by decide) (by decide) ?_
  refine s_iloadN B X1 (pc' := 79) d1_78 rfl rfl ?_
  refine b_if_ge B X1 (py := 86) (pn := 82) d1_79 (by decide) (by decide) rfl (fun _ => ?_) (fun q => absurd q hk0)
  refine s_iconst B X1 (pc' := 87) (v := (0 : Int32)) d1_86 rfl rfl ?_
  refine s_goto B X1 (pc' := 123) d1_87 (by decide) (by decide) ?_
  refine s_istoreN B X1 (pc' := 124) (Ls' := #[.val (.ref w_LESS), .val (.int q1), .val (.int (0 : Int32))]) d1_123 rfl rfl ?_
  refine s_iloadN B X1 (pc' := 125) d1_124 rfl rfl ?_
  exact r_nar B X1 (t := .boolean) (by simp) rfl d1_125 ⟨rfl, rfl, e1⟩ (by decide) (by decide)

theorem pn_rm1_15 : plainName "com/example/upmob/upmob/Operator" = true := by first | (simp [plainName, overriddenIn]; done) | decide +kernel
set_option maxRecDepth 65536 in
set_option maxHeartbeats 40000000 in
theorem rm1_15 (l : Launch) (Z : State) (a0 : Array Value) (hw : ∀ d ∈ tables_1, d.before a0 Z = true) (q1 : Int32) (w_EQUAL w_NOT_EQUAL w_LESS w_LESS_OR_EQUAL w_GREATER w_GREATER_OR_EQUAL : Addr) (h0 : Heap) (F0 : OwnF Z h0 w_EQUAL w_NOT_EQUAL w_LESS w_LESS_OR_EQUAL w_GREATER w_GREATER_OR_EQUAL) (hk0 : ¬ q1 < (0 : Int32)) (hk1 : ¬ (0 : Int32) < q1) (hk2 : q1 = (0 : Int32)) :
    OMeets l Z mn2 prog_23_method_5_code 3 (some .boolean) [] ({ frames := 1, cells := 0, slots := 0, locals := 12 } : Room) #[(.ref w_LESS_OR_EQUAL), (.int q1)] h0 (PureQ (some (.int (1 : Int32))) h0) := by
  refine OMeets.of pn_rm1_15 #[.val (.ref w_LESS_OR_EQUAL), .val (.int q1), .unset] (fun m => by first | rfl | (simp [entryFrame, mkF, argsToLocals, Value.category, maxLocals]; done)) ?_
  intro p e s m below meth c s₁ B X0 e0
  have F := F0
  obtain ⟨S_EQUAL, E_EQUAL, S_NOT_EQUAL, E_NOT_EQUAL, S_LESS, E_LESS, S_LESS_OR_EQUAL, E_LESS_OR_EQUAL, S_GREATER, E_GREATER, S_GREATER_OR_EQUAL, E_GREATER_OR_EQUAL, F_EQUAL_ordinal, F_LESS_ordinal, F_NOT_EQUAL_ordinal, F_GREATER_ordinal, F_LESS_OR_EQUAL_ordinal, F_GREATER_OR_EQUAL_ordinal⟩ := F
  refine s_aloadN B X0 (pc' := 1) d1_0 rfl rfl rfl ?_
  refine p_virtualUp B X0 (y := mn1) (z := mn0) (owner := "java/lang/Enum") (pc' := 4) (argsL := []) (under := []) (W := 0) e0 (tw22 hw) (tw23 hw) (tw24 hw) (tw26 hw) (tw25 hw) (tw28 hw) (tw27 hw) (by decide) (rm2_7 l Z a0 hw  w_EQUAL w_NOT_EQUAL w_LESS w_LESS_OR_EQUAL w_GREATER w_GREATER_OR_EQUAL h0 F0 ) E_LESS_OR_EQUAL (lenOf pd_0 rfl) rfl rfl (by decide) (by decide) rfl rfl (by decide) (by decide) rfl d1_1 rfl (fun T1 X1 e1 => ?_)
  show Go p e below _ (T1.setTop (mkF m 4 #[.val (.ref w_LESS_OR_EQUAL), .val (.int q1), .unset] [(.int (3 : Int32))]))
  refine s_tswIn B X1 (pc' := 90) (o := 86) d1_4 (by decide) rfl (by decide) (by decide) ?_
  refine s_iloadN B X1 (pc' := 91) d1_90 rfl rfl ?_
  refine b_if_gt B X1 (py := 98) (pn := 94) d1_91 (by decide) (by decide) rfl (fun q => absurd q hk1) (fun _ => ?_)
  refine s_iconst B X1 (pc' := 95) (v := (1 : Int32)) d1_94 rfl rfl ?_
  refine s_goto B X1 (pc' := 123) d1_95 (by decide) (by decide) ?_
  refine s_istoreN B X1 (pc' := 124) (Ls' := #[.val (.ref w_LESS_OR_EQUAL), .val (.int q1), .val (.int (1 : Int32))]) d1_123 rfl rfl ?_
  refine s_iloadN B X1 (pc' := 125) d1_124 rfl rfl ?_
  exact r_nar B X1 (t := .boolean) (by simp) rfl d1_125 ⟨rfl, rfl, e1⟩ (by decide) (by decide)

theorem pn_rm1_16 : plainName "com/example/upmob/upmob/Operator" = true := by first | (simp [plainName, overriddenIn]; done) | decide +kernel
set_option maxRecDepth 65536 in
set_option maxHeartbeats 40000000 in
theorem rm1_16 (l : Launch) (Z : State) (a0 : Array Value) (hw : ∀ d ∈ tables_1, d.before a0 Z = true) (q1 : Int32) (w_EQUAL w_NOT_EQUAL w_LESS w_LESS_OR_EQUAL w_GREATER w_GREATER_OR_EQUAL : Addr) (h0 : Heap) (F0 : OwnF Z h0 w_EQUAL w_NOT_EQUAL w_LESS w_LESS_OR_EQUAL w_GREATER w_GREATER_OR_EQUAL) (hk0 : ¬ q1 < (0 : Int32)) (hk1 : ¬ (0 : Int32) < q1) (hk2 : q1 = (0 : Int32)) :
    OMeets l Z mn2 prog_23_method_5_code 3 (some .boolean) [] ({ frames := 1, cells := 0, slots := 0, locals := 12 } : Room) #[(.ref w_GREATER), (.int q1)] h0 (PureQ (some (.int (0 : Int32))) h0) := by
  refine OMeets.of pn_rm1_16 #[.val (.ref w_GREATER), .val (.int q1), .unset] (fun m => by first | rfl | (simp [entryFrame, mkF, argsToLocals, Value.category, maxLocals]; done)) ?_
  intro p e s m below meth c s₁ B X0 e0
  have F := F0
  obtain ⟨S_EQUAL, E_EQUAL, S_NOT_EQUAL, E_NOT_EQUAL, S_LESS, E_LESS, S_LESS_OR_EQUAL, E_LESS_OR_EQUAL, S_GREATER, E_GREATER, S_GREATER_OR_EQUAL, E_GREATER_OR_EQUAL, F_EQUAL_ordinal, F_LESS_ordinal, F_NOT_EQUAL_ordinal, F_GREATER_ordinal, F_LESS_OR_EQUAL_ordinal, F_GREATER_OR_EQUAL_ordinal⟩ := F
  refine s_aloadN B X0 (pc' := 1) d1_0 rfl rfl rfl ?_
  refine p_virtualUp B X0 (y := mn1) (z := mn0) (owner := "java/lang/Enum") (pc' := 4) (argsL := []) (under := []) (W := 0) e0 (tw22 hw) (tw23 hw) (tw24 hw) (tw26 hw) (tw25 hw) (tw28 hw) (tw27 hw) (by decide) (rm2_9 l Z a0 hw  w_EQUAL w_NOT_EQUAL w_LESS w_LESS_OR_EQUAL w_GREATER w_GREATER_OR_EQUAL h0 F0 ) E_GREATER (lenOf pd_0 rfl) rfl rfl (by decide) (by decide) rfl rfl (by decide) (by decide) rfl d1_1 rfl (fun T1 X1 e1 => ?_)
  show Go p e below _ (T1.setTop (mkF m 4 #[.val (.ref w_GREATER), .val (.int q1), .unset] [(.int (4 : Int32))]))
  refine s_tswIn B X1 (pc' := 102) (o := 98) d1_4 (by decide) rfl (by decide) (by decide) ?_
  refine s_iloadN B X1 (pc' := 103) d1_102 rfl rfl ?_
  refine b_if_le B X1 (py := 110) (pn := 106) d1_103 (by decide) (by decide) rfl (fun _ => ?_) (fun q => absurd q hk1)
  refine s_iconst B X1 (pc' := 111) (v := (0 : Int32)) d1_110 rfl rfl ?_
  refine s_goto B X1 (pc' := 123) d1_111 (by decide) (by decide) ?_
  refine s_istoreN B X1 (pc' := 124) (Ls' := #[.val (.ref w_GREATER), .val (.int q1), .val (.int (0 : Int32))]) d1_123 rfl rfl ?_
  refine s_iloadN B X1 (pc' := 125) d1_124 rfl rfl ?_
  exact r_nar B X1 (t := .boolean) (by simp) rfl d1_125 ⟨rfl, rfl, e1⟩ (by decide) (by decide)
theorem d1_118 : decode prog_23_method_5_code 118 = .ok (.iconst 1, 1) := by decide +kernel
theorem d1_119 : decode prog_23_method_5_code 119 = .ok (.goto 4, 3) := by decide +kernel
theorem pn_rm1_17 : plainName "com/example/upmob/upmob/Operator" = true := by first | (simp [plainName, overriddenIn]; done) | decide +kernel
set_option maxRecDepth 65536 in
set_option maxHeartbeats 40000000 in
theorem rm1_17 (l : Launch) (Z : State) (a0 : Array Value) (hw : ∀ d ∈ tables_1, d.before a0 Z = true) (q1 : Int32) (w_EQUAL w_NOT_EQUAL w_LESS w_LESS_OR_EQUAL w_GREATER w_GREATER_OR_EQUAL : Addr) (h0 : Heap) (F0 : OwnF Z h0 w_EQUAL w_NOT_EQUAL w_LESS w_LESS_OR_EQUAL w_GREATER w_GREATER_OR_EQUAL) (hk0 : ¬ q1 < (0 : Int32)) (hk1 : ¬ (0 : Int32) < q1) (hk2 : q1 = (0 : Int32)) :
    OMeets l Z mn2 prog_23_method_5_code 3 (some .boolean) [] ({ frames := 1, cells := 0, slots := 0, locals := 12 } : Room) #[(.ref w_GREATER_OR_EQUAL), (.int q1)] h0 (PureQ (some (.int (1 : Int32))) h0) := by
  refine OMeets.of pn_rm1_17 #[.val (.ref w_GREATER_OR_EQUAL), .val (.int q1), .unset] (fun m => by first | rfl | (simp [entryFrame, mkF, argsToLocals, Value.category, maxLocals]; done)) ?_
  intro p e s m below meth c s₁ B X0 e0
  have F := F0
  obtain ⟨S_EQUAL, E_EQUAL, S_NOT_EQUAL, E_NOT_EQUAL, S_LESS, E_LESS, S_LESS_OR_EQUAL, E_LESS_OR_EQUAL, S_GREATER, E_GREATER, S_GREATER_OR_EQUAL, E_GREATER_OR_EQUAL, F_EQUAL_ordinal, F_LESS_ordinal, F_NOT_EQUAL_ordinal, F_GREATER_ordinal, F_LESS_OR_EQUAL_ordinal, F_GREATER_OR_EQUAL_ordinal⟩ := F
  refine s_aloadN B X0 (pc' := 1) d1_0 rfl rfl rfl ?_
  refine p_virtualUp B X0 (y := mn1) (z := mn0) (owner := "java/lang/Enum") (pc' := 4) (argsL := []) (under := []) (W := 0) e0 (tw22 hw) (tw23 hw) (tw24 hw) (tw26 hw) (tw25 hw) (tw28 hw) (tw27 hw) (by decide) (rm2_11 l Z a0 hw  w_EQUAL w_NOT_EQUAL w_LESS w_LESS_OR_EQUAL w_GREATER w_GREATER_OR_EQUAL h0 F0 ) E_GREATER_OR_EQUAL (lenOf pd_0 rfl) rfl rfl (by decide) (by decide) rfl rfl (by decide) (by decide) rfl d1_1 rfl (fun T1 X1 e1 => ?_)
  show Go p e below _ (T1.setTop (mkF m 4 #[.val (.ref w_GREATER_OR_EQUAL), .val (.int q1), .unset] [(.int (5 : Int32))]))
  refine s_tswIn B X1 (pc' := 114) (o := 110) d1_4 (by decide) rfl (by decide) (by decide) ?_
  refine s_iloadN B X1 (pc' := 115) d1_114 rfl rfl ?_
  refine b_if_lt B X1 (py := 122) (pn := 118) d1_115 (by decide) (by decide) rfl (fun q => absurd q hk0) (fun _ => ?_)
  refine s_iconst B X1 (pc' := 119) (v := (1 : Int32)) d1_118 rfl rfl ?_
  refine s_goto B X1 (pc' := 123) d1_119 (by decide) (by decide) ?_
  refine s_istoreN B X1 (pc' := 124) (Ls' := #[.val (.ref w_GREATER_OR_EQUAL), .val (.int q1), .val (.int (1 : Int32))]) d1_123 rfl rfl ?_
  refine s_iloadN B X1 (pc' := 125) d1_124 rfl rfl ?_
  exact r_nar B X1 (t := .boolean) (by simp) rfl d1_125 ⟨rfl, rfl, e1⟩ (by decide) (by decide)

theorem pn_rm1_18 : plainName "com/example/upmob/upmob/Operator" = true := by first | (simp [plainName, overriddenIn]; done) | decide +kernel
set_option maxRecDepth 65536 in
set_option maxHeartbeats 40000000 in
theorem rm1_18 (l : Launch) (Z : State) (a0 : Array Value) (hw : ∀ d ∈ tables_1, d.before a0 Z = true) (q1 : Int32) (w_EQUAL w_NOT_EQUAL w_LESS w_LESS_OR_EQUAL w_GREATER w_GREATER_OR_EQUAL : Addr) (h0 : Heap) (F0 : OwnF Z h0 w_EQUAL w_NOT_EQUAL w_LESS w_LESS_OR_EQUAL w_GREATER w_GREATER_OR_EQUAL) (hk0 : ¬ q1 < (0 : Int32)) (hk1 : (0 : Int32) < q1) (hk2 : ¬ q1 = (0 : Int32)) :
    OMeets l Z mn2 prog_23_method_5_code 3 (some .boolean) [] ({ frames := 1, cells := 0, slots := 0, locals := 12 } : Room) #[(.ref w_EQUAL), (.int q1)] h0 (PureQ (some (.int (0 : Int32))) h0) := by
  refine OMeets.of pn_rm1_18 #[.val (.ref w_EQUAL), .val (.int q1), .unset] (fun m => by first | rfl | (simp [entryFrame, mkF, argsToLocals, Value.category, maxLocals]; done)) ?_
  intro p e s m below meth c s₁ B X0 e0
  have F := F0
  obtain ⟨S_EQUAL, E_EQUAL, S_NOT_EQUAL, E_NOT_EQUAL, S_LESS, E_LESS, S_LESS_OR_EQUAL, E_LESS_OR_EQUAL, S_GREATER, E_GREATER, S_GREATER_OR_EQUAL, E_GREATER_OR_EQUAL, F_EQUAL_ordinal, F_LESS_ordinal, F_NOT_EQUAL_ordinal, F_GREATER_ordinal, F_LESS_OR_EQUAL_ordinal, F_GREATER_OR_EQUAL_ordinal⟩ := F
  refine s_aloadN B X0 (pc' := 1) d1_0 rfl rfl rfl ?_
  refine p_virtualUp B X0 (y := mn1) (z := mn0) (owner := "java/lang/Enum") (pc' := 4) (argsL := []) (under := []) (W := 0) e0 (tw22 hw) (tw23 hw) (tw24 hw) (tw26 hw) (tw25 hw) (tw28 hw) (tw27 hw) (by decide) (rm2_1 l Z a0 hw  w_EQUAL w_NOT_EQUAL w_LESS w_LESS_OR_EQUAL w_GREATER w_GREATER_OR_EQUAL h0 F0 ) E_EQUAL (lenOf pd_0 rfl) rfl rfl (by decide) (by decide) rfl rfl (by decide) (by decide) rfl d1_1 rfl (fun T1 X1 e1 => ?_)
  show Go p e below _ (T1.setTop (mkF m 4 #[.val (.ref w_EQUAL), .val (.int q1), .unset] [(.int (0 : Int32))]))
  refine s_tswIn B X1 (pc' := 54) (o := 50) d1_4 (by decide) rfl (by decide) (by decide) ?_
  refine s_iloadN B X1 (pc' := 55) d1_54 rfl rfl ?_
  refine b_if_ne B X1 (py := 62) (pn := 58) d1_55 (by decide) (by decide) rfl (fun _ => ?_) (fun q => absurd q hk2)
  refine s_iconst B X1 (pc' := 63) (v := (0 : Int32)) d1_62 rfl rfl ?_
  refine s_goto B X1 (pc' := 123) d1_63 (by decide) (by decide) ?_
  refine s_istoreN B X1 (pc' := 124) (Ls' := #[.val (.ref w_EQUAL), .val (.int q1), .val (.int (0 : Int32))]) d1_123 rfl rfl ?_
  refine s_iloadN B X1 (pc' := 125) d1_124 rfl rfl ?_
  exact r_nar B X1 (t := .boolean) (by simp) rfl d1_125 ⟨rfl, rfl, e1⟩ (by decide) (by decide)

theorem pn_rm1_19 : plainName "com/example/upmob/upmob/Operator" = true := by first | (simp [plainName, overriddenIn]; done) | decide +kernel
set_option maxRecDepth 65536 in
set_option maxHeartbeats 40000000 in
theorem rm1_19 (l : Launch) (Z : State) (a0 : Array Value) (hw : ∀ d ∈ tables_1, d.before a0 Z = true) (q1 : Int32) (w_EQUAL w_NOT_EQUAL w_LESS w_LESS_OR_EQUAL w_GREATER w_GREATER_OR_EQUAL : Addr) (h0 : Heap) (F0 : OwnF Z h0 w_EQUAL w_NOT_EQUAL w_LESS w_LESS_OR_EQUAL w_GREATER w_GREATER_OR_EQUAL) (hk0 : ¬ q1 < (0 : Int32)) (hk1 : (0 : Int32) < q1) (hk2 : ¬ q1 = (0 : Int32)) :
    OMeets l Z mn2 prog_23_method_5_code 3 (some .boolean) [] ({ frames := 1, cells := 0, slots := 0, locals := 12 } : Room) #[(.ref w_NOT_EQUAL), (.int q1)] h0 (PureQ (some (.int (1 : Int32))) h0) := by
  refine OMeets.of pn_rm1_19 #[.val (.ref w_NOT_EQUAL), .val (.int q1), .unset] (fun m => by first | rfl | (simp [entryFrame, mkF, argsToLocals, Value.category, maxLocals]; done)) ?_
  intro p e s m below meth c s₁ B X0 e0
  have F := F0
  obtain ⟨S_EQUAL, E_EQUAL, S_NOT_EQUAL, E_NOT_EQUAL, S_LESS, E_LESS, S_LESS_OR_EQUAL, E_LESS_OR_EQUAL, S_GREATER, E_GREATER, S_GREATER_OR_EQUAL, E_GREATER_OR_EQUAL, F_EQUAL_ordinal, F_LESS_ordinal, F_NOT_EQUAL_ordinal, F_GREATER_ordinal, F_LESS_OR_EQUAL_ordinal, F_GREATER_OR_EQUAL_ordinal⟩ := F
  refine s_aloadN B X0 (pc' := 1) d1_0 rfl rfl rfl ?_
  refine p_virtualUp B X0 (y := mn1) (z := mn0) (owner := "java/lang/Enum") (pc' := 4) (argsL := []) (under := []) (W := 0) e0 (tw22 hw) (tw23 hw) (tw24 hw) (tw26 hw) (tw25 hw) (tw28 hw) (tw27 hw) (by decide) (rm2_3 l Z a0 hw  w_EQUAL w_NOT_EQUAL w_LESS w_LESS_OR_EQUAL w_GREATER w_GREATER_OR_EQUAL h0 F0 ) E_NOT_EQUAL (lenOf pd_0 rfl) rfl rfl (by decide) (by decide) rfl rfl (by decide) (by decide) rfl d1_1 rfl (fun T1 X1 e1 => ?_)
  show Go p e below _ (T1.setTop (mkF m 4 #[.val (.ref w_NOT_EQUAL), .val (.int q1), .unset] [(.int (1 : Int32))]))
  refine s_tswIn B X1 (pc' := 66) (o := 62) d1_4 (by decide) rfl (by decide) (by decide) ?_
  refine s_iloadN B X1 (pc' := 67) d1_66 rfl rfl ?_
  refine b_if_eq B X1 (py := 74) (pn := 70) d1_67 (by decide) (by decide) rfl (fun q => absurd q hk2) (fun _ => ?_)
  refine s_iconst B X1 (pc' := 71) (v := (1 : Int32)) d1_70 rfl rfl ?_
  refine s_goto B X1 (pc' := 123) d1_71 (by decide) (by decide) ?_
  refine s_istoreN B X1 (pc' := 124) (Ls' := #[.val (.ref w_NOT_EQUAL), .val (.int q1), .val (.int (1 : Int32))]) d1_123 rfl rfl ?_
  refine s_iloadN B X1 (pc' := 125) d1_124 rfl rfl ?_
  exact r_nar B X1 (t := .boolean) (by simp) rfl d1_125 ⟨rfl, rfl, e1⟩ (by decide) (by decide)

theorem pn_rm1_20 : plainName "com/example/upmob/upmob/Operator" = true := by first | (simp [plainName, overriddenIn]; done) | decide +kernel
set_option maxRecDepth 65536 in
set_option maxHeartbeats 40000000 in
theorem rm1_20 (l : Launch) (Z : State) (a0 : Array Value) (hw : ∀ d ∈ tables_1, d.before a0 Z = true) (q1 : Int32) (w_EQUAL w_NOT_EQUAL w_LESS w_LESS_OR_EQUAL w_GREATER w_GREATER_OR_EQUAL : Addr) (h0 : Heap) (F0 : OwnF Z h0 w_EQUAL w_NOT_EQUAL w_LESS w_LESS_OR_EQUAL w_GREATER w_GREATER_OR_EQUAL) (hk0 : ¬ q1 < (0 : Int32)) (hk1 : (0 : Int32) < q1) (hk2 : ¬ q1 = (0 : Int32)) :
    OMeets l Z mn2 prog_23_method_5_code 3 (some .boolean) [] ({ frames := 1, cells := 0, slots := 0, locals := 12 } : Room) #[(.ref w_LESS), (.int q1)] h0 (PureQ (some (.int (0 : Int32))) h0) := by
  refine OMeets.of pn_rm1_20 #[.val (.ref w_LESS), .val (.int q1), .unset] (fun m => by first | rfl | (simp [entryFrame, mkF, argsToLocals, Value.category, maxLocals]; done)) ?_
  intro p e s m below meth c s₁ B X0 e0
  have F := F0
  obtain ⟨S_EQUAL, E_EQUAL, S_NOT_EQUAL, E_NOT_EQUAL, S_LESS, E_LESS, S_LESS_OR_EQUAL, E_LESS_OR_EQUAL, S_GREATER, E_GREATER, S_GREATER_OR_EQUAL, E_GREATER_OR_EQUAL, F_EQUAL_ordinal, F_LESS_ordinal, F_NOT_EQUAL_ordinal, F_GREATER_ordinal, F_LESS_OR_EQUAL_ordinal, F_GREATER_OR_EQUAL_ordinal⟩ := F
  refine s_aloadN B X0 (pc' := 1) d1_0 rfl rfl rfl ?_
  refine p_virtualUp B X0 (y := mn1) (z := mn0) (owner := "java/lang/Enum") (pc' := 4) (argsL := []) (under := []) (W := 0) e0 (tw22 hw) (tw23 hw) (tw24 hw) (tw26 hw) (tw25 hw) (tw28 hw) (tw27 hw) (by decide) (rm2_5 l Z a0 hw  w_EQUAL w_NOT_EQUAL w_LESS w_LESS_OR_EQUAL w_GREATER w_GREATER_OR_EQUAL h0 F0 ) E_LESS (lenOf pd_0 rfl) rfl rfl (by decide) (by decide) rfl rfl (by decide) (by decide) rfl d1_1 rfl (fun T1 X1 e1 => ?_)
  show Go p e below _ (T1.setTop (mkF m 4 #[.val (.ref w_LESS), .val (.int q1), .unset] [(.int (2 : Int32))]))
  refine s_tswIn B X1 (pc' := 78) (o := 74) d1_4 (by decide) rfl (by decide) (by decide) ?_
  refine s_iloadN B X1 (pc' := 79) d1_78 rfl rfl ?_
  refine b_if_ge B X1 (py := 86) (pn := 82) d1_79 (by decide) (by decide) rfl (fun _ => ?_) (fun q => absurd q hk0)
  refine s_iconst B X1 (pc' := 87) (v := (0 : Int32)) d1_86 rfl rfl ?_
  refine s_goto B X1 (pc' := 123) d1_87 (by decide) (by decide) ?_
  refine s_istoreN B X1 (pc' := 124) (Ls' := #[.val (.ref w_LESS), .val (.int q1), .val (.int (0 : Int32))]) d1_123 rfl rfl ?_
  refine s_iloadN B X1 (pc' := 125) d1_124 rfl rfl ?_
  exact r_nar B X1 (t := .boolean) (by simp) rfl d1_125 ⟨rfl, rfl, e1⟩ (by decide) (by decide)
theorem d1_98 : decode prog_23_method_5_code 98 = .ok (.iconst 0, 1) := by decide +kernel
theorem d1_99 : decode prog_23_method_5_code 99 = .ok (.goto 24, 3) := by decide +kernel
theorem pn_rm1_21 : plainName "com/example/upmob/upmob/Operator" = true := by first | (simp [plainName, overriddenIn]; done) | decide +kernel
set_option maxRecDepth 65536 in
set_option maxHeartbeats 40000000 in
theorem rm1_21 (l : Launch) (Z : State) (a0 : Array Value) (hw : ∀ d ∈ tables_1, d.before a0 Z = true) (q1 : Int32) (w_EQUAL w_NOT_EQUAL w_LESS w_LESS_OR_EQUAL w_GREATER w_GREATER_OR_EQUAL : Addr) (h0 : Heap) (F0 : OwnF Z h0 w_EQUAL w_NOT_EQUAL w_LESS w_LESS_OR_EQUAL w_GREATER w_GREATER_OR_EQUAL) (hk0 : ¬ q1 < (0 : Int32)) (hk1 : (0 : Int32) < q1) (hk2 : ¬ q1 = (0 : Int32)) :
    OMeets l Z mn2 prog_23_method_5_code 3 (some .boolean) [] ({ frames := 1, cells := 0, slots := 0, locals := 12 } : Room) #[(.ref w_LESS_OR_EQUAL), (.int q1)] h0 (PureQ (some (.int (0 : Int32))) h0) := by
  refine OMeets.of pn_rm1_21 #[.val (.ref w_LESS_OR_EQUAL), .val (.int q1), .unset] (fun m => by first | rfl | (simp [entryFrame, mkF, argsToLocals, Value.category, maxLocals]; done)) ?_
  intro p e s m below meth c s₁ B X0 e0
  have F := F0
  obtain ⟨S_EQUAL, E_EQUAL, S_NOT_EQUAL, E_NOT_EQUAL, S_LESS, E_LESS, S_LESS_OR_EQUAL, E_LESS_OR_EQUAL, S_GREATER, E_GREATER, S_GREATER_OR_EQUAL, E_GREATER_OR_EQUAL, F_EQUAL_ordinal, F_LESS_ordinal, F_NOT_EQUAL_ordinal, F_GREATER_ordinal, F_LESS_OR_EQUAL_ordinal, F_GREATER_OR_EQUAL_ordinal⟩ := F
  refine s_aloadN B X0 (pc' := 1) d1_0 rfl rfl rfl ?_
  refine p_virtualUp B X0 (y := mn1) (z := mn0) (owner := "java/lang/Enum") (pc' := 4) (argsL := []) (under := []) (W := 0) e0 (tw22 hw) (tw23 hw) (tw24 hw) (tw26 hw) (tw25 hw) (tw28 hw) (tw27 hw) (by decide) (rm2_7 l Z a0 hw  w_EQUAL w_NOT_EQUAL w_LESS w_LESS_OR_EQUAL w_GREATER w_GREATER_OR_EQUAL h0 F0 ) E_LESS_OR_EQUAL (lenOf pd_0 rfl) rfl rfl (by decide) (by decide) rfl rfl (by decide) (by decide) rfl d1_1 rfl (fun T1 X1 e1 => ?_)
  show Go p e below _ (T1.setTop (mkF m 4 #[.val (.ref w_LESS_OR_EQUAL), .val (.int q1), .unset] [(.int (3 : Int32))]))
  refine s_tswIn B X1 (pc' := 90) (o := 86) d1_4 (by decide) rfl (by decide) (by decide) ?_
  refine s_iloadN B X1 (pc' := 91) d1_90 rfl rfl ?_
  refine b_if_gt B X1 (py := 98) (pn := 94) d1_91 (by decide) (by decide) rfl (fun _ => ?_) (fun q => absurd hk1 q)
  refine s_iconst B X1 (pc' := 99) (v := (0 : Int32)) d1_98 rfl rfl ?_
  refine s_goto B X1 (pc' := 123) d1_99 (by decide) (by decide) ?_
  refine s_istoreN B X1 (pc' := 124) (Ls' := #[.val (.ref w_LESS_OR_EQUAL), .val (.int q1), .val (.int (0 : Int32))]) d1_123 rfl rfl ?_
  refine s_iloadN B X1 (pc' := 125) d1_124 rfl rfl ?_
  exact r_nar B X1 (t := .boolean) (by simp) rfl d1_125 ⟨rfl, rfl, e1⟩ (by decide) (by decide)
theorem d1_106 : decode prog_23_method_5_code 106 = .ok (.iconst 1, 1) := by decide +kernel
theorem d1_107 : decode prog_23_method_5_code 107 = .ok (.goto 16, 3) := by decide +kernel
theorem pn_rm1_22 : plainName "com/example/upmob/upmob/Operator" = true := by first | (simp [plainName, overriddenIn]; done) | decide +kernel
set_option maxRecDepth 65536 in
set_option maxHeartbeats 40000000 in
theorem rm1_22 (l : Launch) (Z : State) (a0 : Array Value) (hw : ∀ d ∈ tables_1, d.before a0 Z = true) (q1 : Int32) (w_EQUAL w_NOT_EQUAL w_LESS w_LESS_OR_EQUAL w_GREATER w_GREATER_OR_EQUAL : Addr) (h0 : Heap) (F0 : OwnF Z h0 w_EQUAL w_NOT_EQUAL w_LESS w_LESS_OR_EQUAL w_GREATER w_GREATER_OR_EQUAL) (hk0 : ¬ q1 < (0 : Int32)) (hk1 : (0 : Int32) < q1) (hk2 : ¬ q1 = (0 : Int32)) :
    OMeets l Z mn2 prog_23_method_5_code 3 (some .boolean) [] ({ frames := 1, cells := 0, slots := 0, locals := 12 } : Room) #[(.ref w_GREATER), (.int q1)] h0 (PureQ (some (.int (1 : Int32))) h0) := by
  refine OMeets.of pn_rm1_22 #[.val (.ref w_GREATER), .val (.int q1), .unset] (fun m => by first | rfl | (simp [entryFrame, mkF, argsToLocals, Value.category, maxLocals]; done)) ?_
  intro p e s m below meth c s₁ B X0 e0
  have F := F0
  obtain ⟨S_EQUAL, E_EQUAL, S_NOT_EQUAL, E_NOT_EQUAL, S_LESS, E_LESS, S_LESS_OR_EQUAL, E_LESS_OR_EQUAL, S_GREATER, E_GREATER, S_GREATER_OR_EQUAL, E_GREATER_OR_EQUAL, F_EQUAL_ordinal, F_LESS_ordinal, F_NOT_EQUAL_ordinal, F_GREATER_ordinal, F_LESS_OR_EQUAL_ordinal, F_GREATER_OR_EQUAL_ordinal⟩ := F
  refine s_aloadN B X0 (pc' := 1) d1_0 rfl rfl rfl ?_
  refine p_virtualUp B X0 (y := mn1) (z := mn0) (owner := "java/lang/Enum") (pc' := 4) (argsL := []) (under := []) (W := 0) e0 (tw22 hw) (tw23 hw) (tw24 hw) (tw26 hw) (tw25 hw) (tw28 hw) (tw27 hw) (by decide) (rm2_9 l Z a0 hw  w_EQUAL w_NOT_EQUAL w_LESS w_LESS_OR_EQUAL w_GREATER w_GREATER_OR_EQUAL h0 F0 ) E_GREATER (lenOf pd_0 rfl) rfl rfl (by decide) (by decide) rfl rfl (by decide) (by decide) rfl d1_1 rfl (fun T1 X1 e1 => ?_)
  show Go p e below _ (T1.setTop (mkF m 4 #[.val (.ref w_GREATER), .val (.int q1), .unset] [(.int (4 : Int32))]))
  refine s_tswIn B X1 (pc' := 102) (o := 98) d1_4 (by decide) rfl (by decide) (by decide) ?_
  refine s_iloadN B X1 (pc' := 103) d1_102 rfl rfl ?_
  refine b_if_le B X1 (py := 110) (pn := 106) d1_103 (by decide) (by decide) rfl (fun q => absurd hk1 q) (fun _ => ?_)
  refine s_iconst B X1 (pc' := 107) (v := (1 : Int32)) d1_106 rfl rfl ?_
  refine s_goto B X1 (pc' := 123) d1_107 (by decide) (by decide) ?_
  refine s_istoreN B X1 (pc' := 124) (Ls' := #[.val (.ref w_GREATER), .val (.int q1), .val (.int (1 : Int32))]) d1_123 rfl rfl ?_
  refine s_iloadN B X1 (pc' := 125) d1_124 rfl rfl ?_
  exact r_nar B X1 (t := .boolean) (by simp) rfl d1_125 ⟨rfl, rfl, e1⟩ (by decide) (by decide)

theorem pn_rm1_23 : plainName "com/example/upmob/upmob/Operator" = true := by first | (simp [plainName, overriddenIn]; done) | decide +kernel
set_option maxRecDepth 65536 in
set_option maxHeartbeats 40000000 in
theorem rm1_23 (l : Launch) (Z : State) (a0 : Array Value) (hw : ∀ d ∈ tables_1, d.before a0 Z = true) (q1 : Int32) (w_EQUAL w_NOT_EQUAL w_LESS w_LESS_OR_EQUAL w_GREATER w_GREATER_OR_EQUAL : Addr) (h0 : Heap) (F0 : OwnF Z h0 w_EQUAL w_NOT_EQUAL w_LESS w_LESS_OR_EQUAL w_GREATER w_GREATER_OR_EQUAL) (hk0 : ¬ q1 < (0 : Int32)) (hk1 : (0 : Int32) < q1) (hk2 : ¬ q1 = (0 : Int32)) :
    OMeets l Z mn2 prog_23_method_5_code 3 (some .boolean) [] ({ frames := 1, cells := 0, slots := 0, locals := 12 } : Room) #[(.ref w_GREATER_OR_EQUAL), (.int q1)] h0 (PureQ (some (.int (1 : Int32))) h0) := by
  refine OMeets.of pn_rm1_23 #[.val (.ref w_GREATER_OR_EQUAL), .val (.int q1), .unset] (fun m => by first | rfl | (simp [entryFrame, mkF, argsToLocals, Value.category, maxLocals]; done)) ?_
  intro p e s m below meth c s₁ B X0 e0
  have F := F0
  obtain ⟨S_EQUAL, E_EQUAL, S_NOT_EQUAL, E_NOT_EQUAL, S_LESS, E_LESS, S_LESS_OR_EQUAL, E_LESS_OR_EQUAL, S_GREATER, E_GREATER, S_GREATER_OR_EQUAL, E_GREATER_OR_EQUAL, F_EQUAL_ordinal, F_LESS_ordinal, F_NOT_EQUAL_ordinal, F_GREATER_ordinal, F_LESS_OR_EQUAL_ordinal, F_GREATER_OR_EQUAL_ordinal⟩ := F
  refine s_aloadN B X0 (pc' := 1) d1_0 rfl rfl rfl ?_
  refine p_virtualUp B X0 (y := mn1) (z := mn0) (owner := "java/lang/Enum") (pc' := 4) (argsL := []) (under := []) (W := 0) e0 (tw22 hw) (tw23 hw) (tw24 hw) (tw26 hw) (tw25 hw) (tw28 hw) (tw27 hw) (by decide) (rm2_11 l Z a0 hw  w_EQUAL w_NOT_EQUAL w_LESS w_LESS_OR_EQUAL w_GREATER w_GREATER_OR_EQUAL h0 F0 ) E_GREATER_OR_EQUAL (lenOf pd_0 rfl) rfl rfl (by decide) (by decide) rfl rfl (by decide) (by decide) rfl d1_1 rfl (fun T1 X1 e1 => ?_)
  show Go p e below _ (T1.setTop (mkF m 4 #[.val (.ref w_GREATER_OR_EQUAL), .val (.int q1), .unset] [(.int (5 : Int32))]))
  refine s_tswIn B X1 (pc' := 114) (o := 110) d1_4 (by decide) rfl (by decide) (by decide) ?_
  refine s_iloadN B X1 (pc' := 115) d1_114 rfl rfl ?_
  refine b_if_lt B X1 (py := 122) (pn := 118) d1_115 (by decide) (by decide) rfl (fun q => absurd q hk0) (fun _ => ?_)
  refine s_iconst B X1 (pc' := 119) (v := (1 : Int32)) d1_118 rfl rfl ?_
  refine s_goto B X1 (pc' := 123) d1_119 (by decide) (by decide) ?_
  refine s_istoreN B X1 (pc' := 124) (Ls' := #[.val (.ref w_GREATER_OR_EQUAL), .val (.int q1), .val (.int (1 : Int32))]) d1_123 rfl rfl ?_
  refine s_iloadN B X1 (pc' := 125) d1_124 rfl rfl ?_
  exact r_nar B X1 (t := .boolean) (by simp) rfl d1_125 ⟨rfl, rfl, e1⟩ (by decide) (by decide)

theorem pn_rm_law : plainName "com/example/upmob/upmob/OperatorHoldsPinLaw" = true := by first | (simp [plainName, overriddenIn]; done) | decide +kernel
set_option maxRecDepth 65536 in
set_option maxHeartbeats 40000000 in
theorem rm_law (l : Launch) (Z : State) (a0 : Array Value) (hw : ∀ d ∈ tables_1, d.before a0 Z = true) (i0 : Int32) (i1 : Int32) (w_EQUAL w_NOT_EQUAL w_LESS w_LESS_OR_EQUAL w_GREATER w_GREATER_OR_EQUAL : Addr) (F0 : OwnF Z Z.heap w_EQUAL w_NOT_EQUAL w_LESS w_LESS_OR_EQUAL w_GREATER w_GREATER_OR_EQUAL) :
    OMeets l Z x code maxLocals ret tables_1 room_1 #[(.int i0), (.int i1)] Z.heap (fun v h L => v = some (.int 1) ∧ Fr Z.heap.size L) := by
  refine OMeets.of pn_rm_law #[.val (.int i0), .val (.int i1), .unset, .unset, .unset, .unset, .unset, .unset, .unset, .unset, .unset] (fun m => by first | rfl | (simp [entryFrame, mkF, argsToLocals, Value.category, maxLocals]; done)) ?_
  intro p e s m below meth c s₁ B X0 e0
  have F := F0
  obtain ⟨S_EQUAL, E_EQUAL, S_NOT_EQUAL, E_NOT_EQUAL, S_LESS, E_LESS, S_LESS_OR_EQUAL, E_LESS_OR_EQUAL, S_GREATER, E_GREATER, S_GREATER_OR_EQUAL, E_GREATER_OR_EQUAL, F_EQUAL_ordinal, F_LESS_ordinal, F_NOT_EQUAL_ordinal, F_GREATER_ordinal, F_LESS_OR_EQUAL_ordinal, F_GREATER_OR_EQUAL_ordinal⟩ := F
  rcases own_tri i1 (0 : Int32) with ⟨hA, hB, hE⟩ | ⟨hA, hB, hE⟩ | ⟨hA, hB, hE⟩
  · rcases own_rem6 i0 with hv1 | hv1 | hv1 | hv1 | hv1 | hv1
    · refine s_bipush B X0 (pc' := 2) (v := (6 : Int32)) at_0 rfl rfl ?_
      refine s_newR B X0 (pc' := 5) (N := 6) (cap := 6) e0 (tw0 hw) (tw1 hw) (by decide) (by decide) (by decide) (by decide) (by decide) (by decide) at_2 rfl (fun T2 h2 o2 k2 g2 X2 e2 E2 A2 V2 => ?_)
      have ge_o2 : Z.heap.size ≤ o2 := g2 ▸ old_le (Old.start Z)
      replace A2 : Ary Z h2 o2 k2 (.object "com/example/upmob/upmob/Operator") 6 (lst [.null, .null, .null, .null, .null, .null] .null) := A2.congr (own_rep 6)
      have O2 := ((Old.start Z)).ext E2
      have F2 := OwnF.ext O2.2 F0
      show Go p e below _ (T2.setTop (mkF m 5 #[.val (.int i0), .val (.int i1), .unset, .unset, .unset, .unset, .unset, .unset, .unset, .unset, .unset] [(.ref o2)]))
      refine s_dup B X2 (pc' := 6) at_5 rfl rfl ?_
      refine s_iconst B X2 (pc' := 7) (v := (0 : Int32)) at_6 rfl rfl ?_
      obtain ⟨S_EQUAL, E_EQUAL, S_NOT_EQUAL, E_NOT_EQUAL, S_LESS, E_LESS, S_LESS_OR_EQUAL, E_LESS_OR_EQUAL, S_GREATER, E_GREATER, S_GREATER_OR_EQUAL, E_GREATER_OR_EQUAL, F_EQUAL_ordinal, F_LESS_ordinal, F_NOT_EQUAL_ordinal, F_GREATER_ordinal, F_LESS_OR_EQUAL_ordinal, F_GREATER_OR_EQUAL_ordinal⟩ := id F2
      refine s_getS B X2 (pc' := 10) e2 (tw2 hw) Via.refl S_EQUAL at_7 rfl (fun T3 X3 e3 => ?_)
      refine s_stR B X3 (pc' := 11) (jn := 0) e3 A2 rfl (Ary.sto A2 V2 (Ins.self E_EQUAL)) (by decide) (by decide) (by decide) at_10 rfl (fun T4 h4 X4 e4 W4 A4 => ?_)
      replace A4 := A4.full (show 0 < 6 by decide) (L' := [(.ref w_EQUAL), .null, .null, .null, .null, .null]) rfl
      have N4 := Fr.snoc X4 (Fr.nil _) ge_o2
      have O4 := (O2).wr W4 ge_o2
      have F4 := OwnF.ext O4.2 F0
      show Go p e below _ (T4.setTop (mkF m 11 #[.val (.int i0), .val (.int i1), .unset, .unset, .unset, .unset, .unset, .unset, .unset, .unset, .unset] [(.ref o2)]))
      refine s_dup B X4 (pc' := 12) at_11 rfl rfl ?_
      refine s_iconst B X4 (pc' := 13) (v := (1 : Int32)) at_12 rfl rfl ?_
      obtain ⟨S_EQUAL, E_EQUAL, S_NOT_EQUAL, E_NOT_EQUAL, S_LESS, E_LESS, S_LESS_OR_EQUAL, E_LESS_OR_EQUAL, S_GREATER, E_GREATER, S_GREATER_OR_EQUAL, E_GREATER_OR_EQUAL, F_EQUAL_ordinal, F_LESS_ordinal, F_NOT_EQUAL_ordinal, F_GREATER_ordinal, F_LESS_OR_EQUAL_ordinal, F_GREATER_OR_EQUAL_ordinal⟩ := id F4
      refine s_getS B X4 (pc' := 16) e4 (tw6 hw) Via.refl S_NOT_EQUAL at_13 rfl (fun T5 X5 e5 => ?_)
      refine s_stR B X5 (pc' := 17) (jn := 1) e5 A4 rfl (Ary.sto A4 V2 (Ins.self E_NOT_EQUAL)) (by decide) (by decide) (by decide) at_16 rfl (fun T6 h6 X6 e6 W6 A6 => ?_)
      replace A6 := A6.full (show 1 < 6 by decide) (L' := [(.ref w_EQUAL), (.ref w_NOT_EQUAL), .null, .null, .null, .null]) rfl
      have N6 := Fr.snoc X6 N4 ge_o2
      have O6 := (O4).wr W6 ge_o2
      have F6 := OwnF.ext O6.2 F0
      show Go p e below _ (T6.setTop (mkF m 17 #[.val (.int i0), .val (.int i1), .unset, .unset, .unset, .unset, .unset, .unset, .unset, .unset, .unset] [(.ref o2)]))
      refine s_dup B X6 (pc' := 18) at_17 rfl rfl ?_
      refine s_iconst B X6 (pc' := 19) (v := (2 : Int32)) at_18 rfl rfl ?_
      obtain ⟨S_EQUAL, E_EQUAL, S_NOT_EQUAL, E_NOT_EQUAL, S_LESS, E_LESS, S_LESS_OR_EQUAL, E_LESS_OR_EQUAL, S_GREATER, E_GREATER, S_GREATER_OR_EQUAL, E_GREATER_OR_EQUAL, F_EQUAL_ordinal, F_LESS_ordinal, F_NOT_EQUAL_ordinal, F_GREATER_ordinal, F_LESS_OR_EQUAL_ordinal, F_GREATER_OR_EQUAL_ordinal⟩ := id F6
      refine s_getS B X6 (pc' := 22) e6 (tw8 hw) Via.refl S_LESS at_19 rfl (fun T7 X7 e7 => ?_)
      refine s_stR B X7 (pc' := 23) (jn := 2) e7 A6 rfl (Ary.sto A6 V2 (Ins.self E_LESS)) (by decide) (by decide) (by decide) at_22 rfl (fun T8 h8 X8 e8 W8 A8 => ?_)
      replace A8 := A8.full (show 2 < 6 by decide) (L' := [(.ref w_EQUAL), (.ref w_NOT_EQUAL), (.ref w_LESS), .null, .null, .null]) rfl
      have N8 := Fr.snoc X8 N6 ge_o2
      have O8 := (O6).wr W8 ge_o2
      have F8 := OwnF.ext O8.2 F0
      show Go p e below _ (T8.setTop (mkF m 23 #[.val (.int i0), .val (.int i1), .unset, .unset, .unset, .unset, .unset, .unset, .unset, .unset, .unset] [(.ref o2)]))
      refine s_dup B X8 (pc' := 24) at_23 rfl rfl ?_
      refine s_iconst B X8 (pc' := 25) (v := (3 : Int32)) at_24 rfl rfl ?_
      obtain ⟨S_EQUAL, E_EQUAL, S_NOT_EQUAL, E_NOT_EQUAL, S_LESS, E_LESS, S_LESS_OR_EQUAL, E_LESS_OR_EQUAL, S_GREATER, E_GREATER, S_GREATER_OR_EQUAL, E_GREATER_OR_EQUAL, F_EQUAL_ordinal, F_LESS_ordinal, F_NOT_EQUAL_ordinal, F_GREATER_ordinal, F_LESS_OR_EQUAL_ordinal, F_GREATER_OR_EQUAL_ordinal⟩ := id F8
      refine s_getS B X8 (pc' := 28) e8 (tw10 hw) Via.refl S_LESS_OR_EQUAL at_25 rfl (fun T9 X9 e9 => ?_)
      refine s_stR B X9 (pc' := 29) (jn := 3) e9 A8 rfl (Ary.sto A8 V2 (Ins.self E_LESS_OR_EQUAL)) (by decide) (by decide) (by decide) at_28 rfl (fun T10 h10 X10 e10 W10 A10 => ?_)
      replace A10 := A10.full (show 3 < 6 by decide) (L' := [(.ref w_EQUAL), (.ref w_NOT_EQUAL), (.ref w_LESS), (.ref w_LESS_OR_EQUAL), .null, .null]) rfl
      have N10 := Fr.snoc X10 N8 ge_o2
      have O10 := (O8).wr W10 ge_o2
      have F10 := OwnF.ext O10.2 F0
      show Go p e below _ (T10.setTop (mkF m 29 #[.val (.int i0), .val (.int i1), .unset, .unset, .unset, .unset, .unset, .unset, .unset, .unset, .unset] [(.ref o2)]))
      refine s_dup B X10 (pc' := 30) at_29 rfl rfl ?_
      refine s_iconst B X10 (pc' := 31) (v := (4 : Int32)) at_30 rfl rfl ?_
      obtain ⟨S_EQUAL, E_EQUAL, S_NOT_EQUAL, E_NOT_EQUAL, S_LESS, E_LESS, S_LESS_OR_EQUAL, E_LESS_OR_EQUAL, S_GREATER, E_GREATER, S_GREATER_OR_EQUAL, E_GREATER_OR_EQUAL, F_EQUAL_ordinal, F_LESS_ordinal, F_NOT_EQUAL_ordinal, F_GREATER_ordinal, F_LESS_OR_EQUAL_ordinal, F_GREATER_OR_EQUAL_ordinal⟩ := id F10
      refine s_getS B X10 (pc' := 34) e10 (tw12 hw) Via.refl S_GREATER at_31 rfl (fun T11 X11 e11 => ?_)
      refine s_stR B X11 (pc' := 35) (jn := 4) e11 A10 rfl (Ary.sto A10 V2 (Ins.self E_GREATER)) (by decide) (by decide) (by decide) at_34 rfl (fun T12 h12 X12 e12 W12 A12 => ?_)
      replace A12 := A12.full (show 4 < 6 by decide) (L' := [(.ref w_EQUAL), (.ref w_NOT_EQUAL), (.ref w_LESS), (.ref w_LESS_OR_EQUAL), (.ref w_GREATER), .null]) rfl
      have N12 := Fr.snoc X12 N10 ge_o2
      have O12 := (O10).wr W12 ge_o2
      have F12 := OwnF.ext O12.2 F0
      show Go p e below _ (T12.setTop (mkF m 35 #[.val (.int i0), .val (.int i1), .unset, .unset, .unset, .unset, .unset, .unset, .unset, .unset, .unset] [(.ref o2)]))
      refine s_dup B X12 (pc' := 36) at_35 rfl rfl ?_
      refine s_iconst B X12 (pc' := 37) (v := (5 : Int32)) at_36 rfl rfl ?_
      obtain ⟨S_EQUAL, E_EQUAL, S_NOT_EQUAL, E_NOT_EQUAL, S_LESS, E_LESS, S_LESS_OR_EQUAL, E_LESS_OR_EQUAL, S_GREATER, E_GREATER, S_GREATER_OR_EQUAL, E_GREATER_OR_EQUAL, F_EQUAL_ordinal, F_LESS_ordinal, F_NOT_EQUAL_ordinal, F_GREATER_ordinal, F_LESS_OR_EQUAL_ordinal, F_GREATER_OR_EQUAL_ordinal⟩ := id F12
      refine s_getS B X12 (pc' := 40) e12 (tw14 hw) Via.refl S_GREATER_OR_EQUAL at_37 rfl (fun T13 X13 e13 => ?_)
      refine s_stR B X13 (pc' := 41) (jn := 5) e13 A12 rfl (Ary.sto A12 V2 (Ins.self E_GREATER_OR_EQUAL)) (by decide) (by decide) (by decide) at_40 rfl (fun T14 h14 X14 e14 W14 A14 => ?_)
      replace A14 := A14.full (show 5 < 6 by decide) (L' := [(.ref w_EQUAL), (.ref w_NOT_EQUAL), (.ref w_LESS), (.ref w_LESS_OR_EQUAL), (.ref w_GREATER), (.ref w_GREATER_OR_EQUAL)]) rfl
      have N14 := Fr.snoc X14 N12 ge_o2
      have O14 := (O12).wr W14 ge_o2
      have F14 := OwnF.ext O14.2 F0
      show Go p e below _ (T14.setTop (mkF m 41 #[.val (.int i0), .val (.int i1), .unset, .unset, .unset, .unset, .unset, .unset, .unset, .unset, .unset] [(.ref o2)]))
      refine s_astoreN B X14 (pc' := 42) (Ls' := #[.val (.int i0), .val (.int i1), .val (.ref o2), .unset, .unset, .unset, .unset, .unset, .unset, .unset, .unset]) at_41 rfl rfl rfl ?_
      refine s_aloadN B X14 (pc' := 43) at_42 rfl rfl rfl ?_
      refine s_iloadN B X14 (pc' := 44) at_43 rfl rfl ?_
      refine s_ldc B X14 (pc' := 46) (v := (2147483647 : Int32)) (tw16 hw) at_44 rfl ?_
      refine s_iand B X14 (pc' := 47) (v := (i0 &&& (2147483647 : Int32))) at_46 rfl rfl ?_
      refine s_bipush B X14 (pc' := 49) (v := (6 : Int32)) at_47 rfl rfl ?_
      refine s_irem B X14 (pc' := 50) (v := (0 : Int32)) at_49 (hv1) (by decide) rfl ?_
      refine s_ldR B X14 (pc' := 51) (jn := 0) (v := (.ref w_EQUAL)) e14 A14 rfl (by decide) (by decide) (by decide) rfl at_50 rfl ?_
      refine s_astoreN B X14 (pc' := 52) (Ls' := #[.val (.int i0), .val (.int i1), .val (.ref o2), .val (.ref w_EQUAL), .unset, .unset, .unset, .unset, .unset, .unset, .unset]) at_51 rfl rfl rfl ?_
      refine s_iloadN B X14 (pc' := 53) at_52 rfl rfl ?_
      refine b_if_ge B X14 (py := 60) (pn := 56) at_53 (by decide) (by decide) rfl (fun q => absurd hA q) (fun _ => ?_)
      refine s_iconst B X14 (pc' := 57) (v := (1 : Int32)) at_56 rfl rfl ?_
      refine s_goto B X14 (pc' := 61) at_57 (by decide) (by decide) ?_
      refine s_istore B X14 (pc' := 63) (Ls' := #[.val (.int i0), .val (.int i1), .val (.ref o2), .val (.ref w_EQUAL), .val (.int (1 : Int32)), .unset, .unset, .unset, .unset, .unset, .unset]) at_61 rfl rfl ?_
      refine s_iloadN B X14 (pc' := 64) at_63 rfl rfl ?_
      refine b_if_ne B X14 (py := 71) (pn := 67) at_64 (by decide) (by decide) rfl (fun _ => ?_) (fun q => absurd q hE)
      refine s_iconst B X14 (pc' := 72) (v := (0 : Int32)) at_71 rfl rfl ?_
      refine s_istore B X14 (pc' := 74) (Ls' := #[.val (.int i0), .val (.int i1), .val (.ref o2), .val (.ref w_EQUAL), .val (.int (1 : Int32)), .val (.int (0 : Int32)), .unset, .unset, .unset, .unset, .unset]) at_72 rfl rfl ?_
      refine s_iloadN B X14 (pc' := 75) at_74 rfl rfl ?_
      refine b_if_le B X14 (py := 82) (pn := 78) at_75 (by decide) (by decide) rfl (fun _ => ?_) (fun q => absurd q hB)
      refine s_iconst B X14 (pc' := 83) (v := (0 : Int32)) at_82 rfl rfl ?_
      refine s_istore B X14 (pc' := 85) (Ls' := #[.val (.int i0), .val (.int i1), .val (.ref o2), .val (.ref w_EQUAL), .val (.int (1 : Int32)), .val (.int (0 : Int32)), .val (.int (0 : Int32)), .unset, .unset, .unset, .unset]) at_83 rfl rfl ?_
      refine s_aloadN B X14 (pc' := 86) at_85 rfl rfl rfl ?_
      obtain ⟨S_EQUAL, E_EQUAL, S_NOT_EQUAL, E_NOT_EQUAL, S_LESS, E_LESS, S_LESS_OR_EQUAL, E_LESS_OR_EQUAL, S_GREATER, E_GREATER, S_GREATER_OR_EQUAL, E_GREATER_OR_EQUAL, F_EQUAL_ordinal, F_LESS_ordinal, F_NOT_EQUAL_ordinal, F_GREATER_ordinal, F_LESS_OR_EQUAL_ordinal, F_GREATER_OR_EQUAL_ordinal⟩ := id F14
      refine s_getS B X14 (pc' := 89) e14 (tw2 hw) Via.refl S_EQUAL at_86 rfl (fun T15 X15 e15 => ?_)
      refine b_acmp_ne B X15 (py := 104) (pn := 92) at_89 (by decide) (by decide) rfl (fun q => absurd rfl q) (fun _ => ?_)
      refine s_iconst B X15 (pc' := 93) (v := (0 : Int32)) at_92 rfl rfl ?_
      refine s_istore B X15 (pc' := 95) (Ls' := #[.val (.int i0), .val (.int i1), .val (.ref o2), .val (.ref w_EQUAL), .val (.int (1 : Int32)), .val (.int (0 : Int32)), .val (.int (0 : Int32)), .val (.int (0 : Int32)), .unset, .unset, .unset]) at_93 rfl rfl ?_
      refine s_iconst B X15 (pc' := 96) (v := (1 : Int32)) at_95 rfl rfl ?_
      refine s_istore B X15 (pc' := 98) (Ls' := #[.val (.int i0), .val (.int i1), .val (.ref o2), .val (.ref w_EQUAL), .val (.int (1 : Int32)), .val (.int (0 : Int32)), .val (.int (0 : Int32)), .val (.int (0 : Int32)), .val (.int (1 : Int32)), .unset, .unset]) at_96 rfl rfl ?_
      refine s_iconst B X15 (pc' := 99) (v := (0 : Int32)) at_98 rfl rfl ?_
      refine s_istore B X15 (pc' := 101) (Ls' := #[.val (.int i0), .val (.int i1), .val (.ref o2), .val (.ref w_EQUAL), .val (.int (1 : Int32)), .val (.int (0 : Int32)), .val (.int (0 : Int32)), .val (.int (0 : Int32)), .val (.int (1 : Int32)), .val (.int (0 : Int32)), .unset]) at_99 rfl rfl ?_
      refine s_goto B X15 (pc' := 189) at_101 (by decide) (by decide) ?_
      refine s_iload B X15 (pc' := 191) at_189 rfl rfl ?_
      refine s_ifN B X15 (pc' := 194) at_191 (by decide) rfl ?_
      refine s_iload B X15 (pc' := 196) at_194 rfl rfl ?_
      refine s_ifN B X15 (pc' := 199) at_196 (by decide) rfl ?_
      refine s_iload B X15 (pc' := 201) at_199 rfl rfl ?_
      refine s_ifY B X15 (pc' := 209) at_201 (by decide) (by decide) (by decide) ?_
      refine s_iload B X15 (pc' := 211) at_209 rfl rfl ?_
      refine s_ifY B X15 (pc' := 223) at_211 (by decide) (by decide) (by decide) ?_
      refine s_iconst B X15 (pc' := 224) (v := (0 : Int32)) at_223 rfl rfl ?_
      refine s_istore B X15 (pc' := 226) (Ls' := #[.val (.int i0), .val (.int i1), .val (.ref o2), .val (.ref w_EQUAL), .val (.int (1 : Int32)), .val (.int (0 : Int32)), .val (.int (0 : Int32)), .val (.int (0 : Int32)), .val (.int (1 : Int32)), .val (.int (0 : Int32)), .val (.int (0 : Int32))]) at_224 rfl rfl ?_
      refine s_aloadN B X15 (pc' := 227) at_226 rfl rfl rfl ?_
      refine s_iloadN B X15 (pc' := 228) at_227 rfl rfl ?_
      refine p_virtual B X15 (y := mn2) (pc' := 231) (argsL := [(.int i1)]) (under := []) (W := 0) e15 (tw17 hw) (tw18 hw) (tw20 hw) (tw19 hw) (tw21 hw) (tw3 hw) (by decide) (rm1_0 l Z a0 hw i1 w_EQUAL w_NOT_EQUAL w_LESS w_LESS_OR_EQUAL w_GREATER w_GREATER_OR_EQUAL h14 F14 hA hB hE) E_EQUAL (lenOf pd_1 rfl) rfl rfl (by decide) (by decide) rfl rfl (by decide) (by decide) rfl at_228 rfl (fun T16 X16 e16 => ?_)
      show Go p e below _ (T16.setTop (mkF m 231 #[.val (.int i0), .val (.int i1), .val (.ref o2), .val (.ref w_EQUAL), .val (.int (1 : Int32)), .val (.int (0 : Int32)), .val (.int (0 : Int32)), .val (.int (0 : Int32)), .val (.int (1 : Int32)), .val (.int (0 : Int32)), .val (.int (0 : Int32))] [(.int (0 : Int32))]))
      refine s_iload B X16 (pc' := 233) at_231 rfl rfl ?_
      refine s_icmpN B X16 (pc' := 236) at_233 (by decide) rfl ?_
      refine s_iconst B X16 (pc' := 237) (v := (1 : Int32)) at_236 rfl rfl ?_
      refine s_goto B X16 (pc' := 241) at_237 (by decide) (by decide) ?_
      exact r_nar B X16 (t := .boolean) (by simp) rfl at_241 ⟨rfl, N14⟩ (by decide) (by decide)
    · refine s_bipush B X0 (pc' := 2) (v := (6 : Int32)) at_0 rfl rfl ?_
      refine s_newR B X0 (pc' := 5) (N := 6) (cap := 6) e0 (tw0 hw) (tw1 hw) (by decide) (by decide) (by decide) (by decide) (by decide) (by decide) at_2 rfl (fun T17 h17 o17 k17 g17 X17 e17 E17 A17 V17 => ?_)
      have ge_o17 : Z.heap.size ≤ o17 := g17 ▸ old_le (Old.start Z)
      replace A17 : Ary Z h17 o17 k17 (.object "com/example/upmob/upmob/Operator") 6 (lst [.null, .null, .null, .null, .null, .null] .null) := A17.congr (own_rep 6)
      have O17 := ((Old.start Z)).ext E17
      have F17 := OwnF.ext O17.2 F0
      show Go p e below _ (T17.setTop (mkF m 5 #[.val (.int i0), .val (.int i1), .unset, .unset, .unset, .unset, .unset, .unset, .unset, .unset, .unset] [(.ref o17)]))
      refine s_dup B X17 (pc' := 6) at_5 rfl rfl ?_
      refine s_iconst B X17 (pc' := 7) (v := (0 : Int32)) at_6 rfl rfl ?_
      obtain ⟨S_EQUAL, E_EQUAL, S_NOT_EQUAL, E_NOT_EQUAL, S_LESS, E_LESS, S_LESS_OR_EQUAL, E_LESS_OR_EQUAL, S_GREATER, E_GREATER, S_GREATER_OR_EQUAL, E_GREATER_OR_EQUAL, F_EQUAL_ordinal, F_LESS_ordinal, F_NOT_EQUAL_ordinal, F_GREATER_ordinal, F_LESS_OR_EQUAL_ordinal, F_GREATER_OR_EQUAL_ordinal⟩ := id F17
      refine s_getS B X17 (pc' := 10) e17 (tw2 hw) Via.refl S_EQUAL at_7 rfl (fun T18 X18 e18 => ?_)
      refine s_stR B X18 (pc' := 11) (jn := 0) e18 A17 rfl (Ary.sto A17 V17 (Ins.self E_EQUAL)) (by decide) (by decide) (by decide) at_10 rfl (fun T19 h19 X19 e19 W19 A19 => ?_)
      replace A19 := A19.full (show 0 < 6 by decide) (L' := [(.ref w_EQUAL), .null, .null, .null, .null, .null]) rfl
      have N19 := Fr.snoc X19 (Fr.nil _) ge_o17
      have O19 := (O17).wr W19 ge_o17
      have F19 := OwnF.ext O19.2 F0
      show Go p e below _ (T19.setTop (mkF m 11 #[.val (.int i0), .val (.int i1), .unset, .unset, .unset, .unset, .unset, .unset, .unset, .unset, .unset] [(.ref o17)]))
      refine s_dup B X19 (pc' := 12) at_11 rfl rfl ?_
      refine s_iconst B X19 (pc' := 13) (v := (1 : Int32)) at_12 rfl rfl ?_
      obtain ⟨S_EQUAL, E_EQUAL, S_NOT_EQUAL, E_NOT_EQUAL, S_LESS, E_LESS, S_LESS_OR_EQUAL, E_LESS_OR_EQUAL, S_GREATER, E_GREATER, S_GREATER_OR_EQUAL, E_GREATER_OR_EQUAL, F_EQUAL_ordinal, F_LESS_ordinal, F_NOT_EQUAL_ordinal, F_GREATER_ordinal, F_LESS_OR_EQUAL_ordinal, F_GREATER_OR_EQUAL_ordinal⟩ := id F19
      refine s_getS B X19 (pc' := 16) e19 (tw6 hw) Via.refl S_NOT_EQUAL at_13 rfl (fun T20 X20 e20 => ?_)
      refine s_stR B X20 (pc' := 17) (jn := 1) e20 A19 rfl (Ary.sto A19 V17 (Ins.self E_NOT_EQUAL)) (by decide) (by decide) (by decide) at_16 rfl (fun T21 h21 X21 e21 W21 A21 => ?_)
      replace A21 := A21.full (show 1 < 6 by decide) (L' := [(.ref w_EQUAL), (.ref w_NOT_EQUAL), .null, .null, .null, .null]) rfl
      have N21 := Fr.snoc X21 N19 ge_o17
      have O21 := (O19).wr W21 ge_o17
      have F21 := OwnF.ext O21.2 F0
      show Go p e below _ (T21.setTop (mkF m 17 #[.val (.int i0), .val (.int i1), .unset, .unset, .unset, .unset, .unset, .unset, .unset, .unset, .unset] [(.ref o17)]))
      refine s_dup B X21 (pc' := 18) at_17 rfl rfl ?_
      refine s_iconst B X21 (pc' := 19) (v := (2 : Int32)) at_18 rfl rfl ?_
      obtain ⟨S_EQUAL, E_EQUAL, S_NOT_EQUAL, E_NOT_EQUAL, S_LESS, E_LESS, S_LESS_OR_EQUAL, E_LESS_OR_EQUAL, S_GREATER, E_GREATER, S_GREATER_OR_EQUAL, E_GREATER_OR_EQUAL, F_EQUAL_ordinal, F_LESS_ordinal, F_NOT_EQUAL_ordinal, F_GREATER_ordinal, F_LESS_OR_EQUAL_ordinal, F_GREATER_OR_EQUAL_ordinal⟩ := id F21
      refine s_getS B X21 (pc' := 22) e21 (tw8 hw) Via.refl S_LESS at_19 rfl (fun T22 X22 e22 => ?_)
      refine s_stR B X22 (pc' := 23) (jn := 2) e22 A21 rfl (Ary.sto A21 V17 (Ins.self E_LESS)) (by decide) (by decide) (by decide) at_22 rfl (fun T23 h23 X23 e23 W23 A23 => ?_)
      replace A23 := A23.full (show 2 < 6 by decide) (L' := [(.ref w_EQUAL), (.ref w_NOT_EQUAL), (.ref w_LESS), .null, .null, .null]) rfl
      have N23 := Fr.snoc X23 N21 ge_o17
      have O23 := (O21).wr W23 ge_o17
      have F23 := OwnF.ext O23.2 F0
      show Go p e below _ (T23.setTop (mkF m 23 #[.val (.int i0), .val (.int i1), .unset, .unset, .unset, .unset, .unset, .unset, .unset, .unset, .unset] [(.ref o17)]))
      refine s_dup B X23 (pc' := 24) at_23 rfl rfl ?_
      refine s_iconst B X23 (pc' := 25) (v := (3 : Int32)) at_24 rfl rfl ?_
      obtain ⟨S_EQUAL, E_EQUAL, S_NOT_EQUAL, E_NOT_EQUAL, S_LESS, E_LESS, S_LESS_OR_EQUAL, E_LESS_OR_EQUAL, S_GREATER, E_GREATER, S_GREATER_OR_EQUAL, E_GREATER_OR_EQUAL, F_EQUAL_ordinal, F_LESS_ordinal, F_NOT_EQUAL_ordinal, F_GREATER_ordinal, F_LESS_OR_EQUAL_ordinal, F_GREATER_OR_EQUAL_ordinal⟩ := id F23
      refine s_getS B X23 (pc' := 28) e23 (tw10 hw) Via.refl S_LESS_OR_EQUAL at_25 rfl (fun T24 X24 e24 => ?_)
      refine s_stR B X24 (pc' := 29) (jn := 3) e24 A23 rfl (Ary.sto A23 V17 (Ins.self E_LESS_OR_EQUAL)) (by decide) (by decide) (by decide) at_28 rfl (fun T25 h25 X25 e25 W25 A25 => ?_)
      replace A25 := A25.full (show 3 < 6 by decide) (L' := [(.ref w_EQUAL), (.ref w_NOT_EQUAL), (.ref w_LESS), (.ref w_LESS_OR_EQUAL), .null, .null]) rfl
      have N25 := Fr.snoc X25 N23 ge_o17
      have O25 := (O23).wr W25 ge_o17
      have F25 := OwnF.ext O25.2 F0
      show Go p e below _ (T25.setTop (mkF m 29 #[.val (.int i0), .val (.int i1), .unset, .unset, .unset, .unset, .unset, .unset, .unset, .unset, .unset] [(.ref o17)]))
      refine s_dup B X25 (pc' := 30) at_29 rfl rfl ?_
      refine s_iconst B X25 (pc' := 31) (v := (4 : Int32)) at_30 rfl rfl ?_
      obtain ⟨S_EQUAL, E_EQUAL, S_NOT_EQUAL, E_NOT_EQUAL, S_LESS, E_LESS, S_LESS_OR_EQUAL, E_LESS_OR_EQUAL, S_GREATER, E_GREATER, S_GREATER_OR_EQUAL, E_GREATER_OR_EQUAL, F_EQUAL_ordinal, F_LESS_ordinal, F_NOT_EQUAL_ordinal, F_GREATER_ordinal, F_LESS_OR_EQUAL_ordinal, F_GREATER_OR_EQUAL_ordinal⟩ := id F25
      refine s_getS B X25 (pc' := 34) e25 (tw12 hw) Via.refl S_GREATER at_31 rfl (fun T26 X26 e26 => ?_)
      refine s_stR B X26 (pc' := 35) (jn := 4) e26 A25 rfl (Ary.sto A25 V17 (Ins.self E_GREATER)) (by decide) (by decide) (by decide) at_34 rfl (fun T27 h27 X27 e27 W27 A27 => ?_)
      replace A27 := A27.full (show 4 < 6 by decide) (L' := [(.ref w_EQUAL), (.ref w_NOT_EQUAL), (.ref w_LESS), (.ref w_LESS_OR_EQUAL), (.ref w_GREATER), .null]) rfl
      have N27 := Fr.snoc X27 N25 ge_o17
      have O27 := (O25).wr W27 ge_o17
      have F27 := OwnF.ext O27.2 F0
      show Go p e below _ (T27.setTop (mkF m 35 #[.val (.int i0), .val (.int i1), .unset, .unset, .unset, .unset, .unset, .unset, .unset, .unset, .unset] [(.ref o17)]))
      refine s_dup B X27 (pc' := 36) at_35 rfl rfl ?_
      refine s_iconst B X27 (pc' := 37) (v := (5 : Int32)) at_36 rfl rfl ?_
      obtain ⟨S_EQUAL, E_EQUAL, S_NOT_EQUAL, E_NOT_EQUAL, S_LESS, E_LESS, S_LESS_OR_EQUAL, E_LESS_OR_EQUAL, S_GREATER, E_GREATER, S_GREATER_OR_EQUAL, E_GREATER_OR_EQUAL, F_EQUAL_ordinal, F_LESS_ordinal, F_NOT_EQUAL_ordinal, F_GREATER_ordinal, F_LESS_OR_EQUAL_ordinal, F_GREATER_OR_EQUAL_ordinal⟩ := id F27
      refine s_getS B X27 (pc' := 40) e27 (tw14 hw) Via.refl S_GREATER_OR_EQUAL at_37 rfl (fun T28 X28 e28 => ?_)
      refine s_stR B X28 (pc' := 41) (jn := 5) e28 A27 rfl (Ary.sto A27 V17 (Ins.self E_GREATER_OR_EQUAL)) (by decide) (by decide) (by decide) at_40 rfl (fun T29 h29 X29 e29 W29 A29 => ?_)
      replace A29 := A29.full (show 5 < 6 by decide) (L' := [(.ref w_EQUAL), (.ref w_NOT_EQUAL), (.ref w_LESS), (.ref w_LESS_OR_EQUAL), (.ref w_GREATER), (.ref w_GREATER_OR_EQUAL)]) rfl
      have N29 := Fr.snoc X29 N27 ge_o17
      have O29 := (O27).wr W29 ge_o17
      have F29 := OwnF.ext O29.2 F0
      show Go p e below _ (T29.setTop (mkF m 41 #[.val (.int i0), .val (.int i1), .unset, .unset, .unset, .unset, .unset, .unset, .unset, .unset, .unset] [(.ref o17)]))
      refine s_astoreN B X29 (pc' := 42) (Ls' := #[.val (.int i0), .val (.int i1), .val (.ref o17), .unset, .unset, .unset, .unset, .unset, .unset, .unset, .unset]) at_41 rfl rfl rfl ?_
      refine s_aloadN B X29 (pc' := 43) at_42 rfl rfl rfl ?_
      refine s_iloadN B X29 (pc' := 44) at_43 rfl rfl ?_
      refine s_ldc B X29 (pc' := 46) (v := (2147483647 : Int32)) (tw16 hw) at_44 rfl ?_
      refine s_iand B X29 (pc' := 47) (v := (i0 &&& (2147483647 : Int32))) at_46 rfl rfl ?_
      refine s_bipush B X29 (pc' := 49) (v := (6 : Int32)) at_47 rfl rfl ?_
      refine s_irem B X29 (pc' := 50) (v := (1 : Int32)) at_49 (hv1) (by decide) rfl ?_
      refine s_ldR B X29 (pc' := 51) (jn := 1) (v := (.ref w_NOT_EQUAL)) e29 A29 rfl (by decide) (by decide) (by decide) rfl at_50 rfl ?_
      refine s_astoreN B X29 (pc' := 52) (Ls' := #[.val (.int i0), .val (.int i1), .val (.ref o17), .val (.ref w_NOT_EQUAL), .unset, .unset, .unset, .unset, .unset, .unset, .unset]) at_51 rfl rfl rfl ?_
      refine s_iloadN B X29 (pc' := 53) at_52 rfl rfl ?_
      refine b_if_ge B X29 (py := 60) (pn := 56) at_53 (by decide) (by decide) rfl (fun q => absurd hA q) (fun _ => ?_)
      refine s_iconst B X29 (pc' := 57) (v := (1 : Int32)) at_56 rfl rfl ?_
      refine s_goto B X29 (pc' := 61) at_57 (by decide) (by decide) ?_
      refine s_istore B X29 (pc' := 63) (Ls' := #[.val (.int i0), .val (.int i1), .val (.ref o17), .val (.ref w_NOT_EQUAL), .val (.int (1 : Int32)), .unset, .unset, .unset, .unset, .unset, .unset]) at_61 rfl rfl ?_
      refine s_iloadN B X29 (pc' := 64) at_63 rfl rfl ?_
      refine b_if_ne B X29 (py := 71) (pn := 67) at_64 (by decide) (by decide) rfl (fun _ => ?_) (fun q => absurd q hE)
      refine s_iconst B X29 (pc' := 72) (v := (0 : Int32)) at_71 rfl rfl ?_
      refine s_istore B X29 (pc' := 74) (Ls' := #[.val (.int i0), .val (.int i1), .val (.ref o17), .val (.ref w_NOT_EQUAL), .val (.int (1 : Int32)), .val (.int (0 : Int32)), .unset, .unset, .unset, .unset, .unset]) at_72 rfl rfl ?_
      refine s_iloadN B X29 (pc' := 75) at_74 rfl rfl ?_
      refine b_if_le B X29 (py := 82) (pn := 78) at_75 (by decide) (by decide) rfl (fun _ => ?_) (fun q => absurd q hB)
      refine s_iconst B X29 (pc' := 83) (v := (0 : Int32)) at_82 rfl rfl ?_
      refine s_istore B X29 (pc' := 85) (Ls' := #[.val (.int i0), .val (.int i1), .val (.ref o17), .val (.ref w_NOT_EQUAL), .val (.int (1 : Int32)), .val (.int (0 : Int32)), .val (.int (0 : Int32)), .unset, .unset, .unset, .unset]) at_83 rfl rfl ?_
      refine s_aloadN B X29 (pc' := 86) at_85 rfl rfl rfl ?_
      obtain ⟨S_EQUAL, E_EQUAL, S_NOT_EQUAL, E_NOT_EQUAL, S_LESS, E_LESS, S_LESS_OR_EQUAL, E_LESS_OR_EQUAL, S_GREATER, E_GREATER, S_GREATER_OR_EQUAL, E_GREATER_OR_EQUAL, F_EQUAL_ordinal, F_LESS_ordinal, F_NOT_EQUAL_ordinal, F_GREATER_ordinal, F_LESS_OR_EQUAL_ordinal, F_GREATER_OR_EQUAL_ordinal⟩ := id F29
      refine s_getS B X29 (pc' := 89) e29 (tw2 hw) Via.refl S_EQUAL at_86 rfl (fun T30 X30 e30 => ?_)
      refine b_acmp_ne B X30 (py := 104) (pn := 92) at_89 (by decide) (by decide) rfl (fun _ => ?_) (fun q => absurd q (own_ne_w_NOT_EQUAL_w_EQUAL F29))
      refine s_aloadN B X30 (pc' := 105) at_104 rfl rfl rfl ?_
      refine s_getS B X30 (pc' := 108) e30 (tw6 hw) Via.refl S_NOT_EQUAL at_105 rfl (fun T31 X31 e31 => ?_)
      refine b_acmp_ne B X31 (py := 123) (pn := 111) at_108 (by decide) (by decide) rfl (fun q => absurd rfl q) (fun _ => ?_)
      refine s_iconst B X31 (pc' := 112) (v := (1 : Int32)) at_111 rfl rfl ?_
      refine s_istore B X31 (pc' := 114) (Ls' := #[.val (.int i0), .val (.int i1), .val (.ref o17), .val (.ref w_NOT_EQUAL), .val (.int (1 : Int32)), .val (.int (0 : Int32)), .val (.int (0 : Int32)), .val (.int (1 : Int32)), .unset, .unset, .unset]) at_112 rfl rfl ?_
      refine s_iconst B X31 (pc' := 115) (v := (0 : Int32)) at_114 rfl rfl ?_
      refine s_istore B X31 (pc' := 117) (Ls' := #[.val (.int i0), .val (.int i1), .val (.ref o17), .val (.ref w_NOT_EQUAL), .val (.int (1 : Int32)), .val (.int (0 : Int32)), .val (.int (0 : Int32)), .val (.int (1 : Int32)), .val (.int (0 : Int32)), .unset, .unset]) at_115 rfl rfl ?_
      refine s_iconst B X31 (pc' := 118) (v := (1 : Int32)) at_117 rfl rfl ?_
      refine s_istore B X31 (pc' := 120) (Ls' := #[.val (.int i0), .val (.int i1), .val (.ref o17), .val (.ref w_NOT_EQUAL), .val (.int (1 : Int32)), .val (.int (0 : Int32)), .val (.int (0 : Int32)), .val (.int (1 : Int32)), .val (.int (0 : Int32)), .val (.int (1 : Int32)), .unset]) at_118 rfl rfl ?_
      refine s_goto B X31 (pc' := 189) at_120 (by decide) (by decide) ?_
      refine s_iload B X31 (pc' := 191) at_189 rfl rfl ?_
      refine s_ifN B X31 (pc' := 194) at_191 (by decide) rfl ?_
      refine s_iload B X31 (pc' := 196) at_194 rfl rfl ?_
      refine s_ifY B X31 (pc' := 219) at_196 (by decide) (by decide) (by decide) ?_
      refine s_iconst B X31 (pc' := 220) (v := (1 : Int32)) at_219 rfl rfl ?_
      refine s_goto B X31 (pc' := 224) at_220 (by decide) (by decide) ?_
      refine s_istore B X31 (pc' := 226) (Ls' := #[.val (.int i0), .val (.int i1), .val (.ref o17), .val (.ref w_NOT_EQUAL), .val (.int (1 : Int32)), .val (.int (0 : Int32)), .val (.int (0 : Int32)), .val (.int (1 : Int32)), .val (.int (0 : Int32)), .val (.int (1 : Int32)), .val (.int (1 : Int32))]) at_224 rfl rfl ?_
      refine s_aloadN B X31 (pc' := 227) at_226 rfl rfl rfl ?_
      refine s_iloadN B X31 (pc' := 228) at_227 rfl rfl ?_
      refine p_virtual B X31 (y := mn2) (pc' := 231) (argsL := [(.int i1)]) (under := []) (W := 0) e31 (tw17 hw) (tw18 hw) (tw20 hw) (tw19 hw) (tw21 hw) (tw3 hw) (by decide) (rm1_2 l Z a0 hw i1 w_EQUAL w_NOT_EQUAL w_LESS w_LESS_OR_EQUAL w_GREATER w_GREATER_OR_EQUAL h29 F29 hA hB hE) E_NOT_EQUAL (lenOf pd_1 rfl) rfl rfl (by decide) (by decide) rfl rfl (by decide) (by decide) rfl at_228 rfl (fun T32 X32 e32 => ?_)
      show Go p e below _ (T32.setTop (mkF m 231 #[.val (.int i0), .val (.int i1), .val (.ref o17), .val (.ref w_NOT_EQUAL), .val (.int (1 : Int32)), .val (.int (0 : Int32)), .val (.int (0 : Int32)), .val (.int (1 : Int32)), .val (.int (0 : Int32)), .val (.int (1 : Int32)), .val (.int (1 : Int32))] [(.int (1 : Int32))]))
      refine s_iload B X32 (pc' := 233) at_231 rfl rfl ?_
      refine s_icmpN B X32 (pc' := 236) at_233 (by decide) rfl ?_
      refine s_iconst B X32 (pc' := 237) (v := (1 : Int32)) at_236 rfl rfl ?_
      refine s_goto B X32 (pc' := 241) at_237 (by decide) (by decide) ?_
      exact r_nar B X32 (t := .boolean) (by simp) rfl at_241 ⟨rfl, N29⟩ (by decide) (by decide)
    · refine s_bipush B X0 (pc' := 2) (v := (6 : Int32)) at_0 rfl rfl ?_
      refine s_newR B X0 (pc' := 5) (N := 6) (cap := 6) e0 (tw0 hw) (tw1 hw) (by decide) (by decide) (by decide) (by decide) (by decide) (by decide) at_2 rfl (fun T33 h33 o33 k33 g33 X33 e33 E33 A33 V33 => ?_)
      have ge_o33 : Z.heap.size ≤ o33 := g33 ▸ old_le (Old.start Z)
      replace A33 : Ary Z h33 o33 k33 (.object "com/example/upmob/upmob/Operator") 6 (lst [.null, .null, .null, .null, .null, .null] .null) := A33.congr (own_rep 6)
      have O33 := ((Old.start Z)).ext E33
      have F33 := OwnF.ext O33.2 F0
      show Go p e below _ (T33.setTop (mkF m 5 #[.val (.int i0), .val (.int i1), .unset, .unset, .unset, .unset, .unset, .unset, .unset, .unset, .unset] [(.ref o33)]))
      refine s_dup B X33 (pc' := 6) at_5 rfl rfl ?_
      refine s_iconst B X33 (pc' := 7) (v := (0 : Int32)) at_6 rfl rfl ?_
      obtain ⟨S_EQUAL, E_EQUAL, S_NOT_EQUAL, E_NOT_EQUAL, S_LESS, E_LESS, S_LESS_OR_EQUAL, E_LESS_OR_EQUAL, S_GREATER, E_GREATER, S_GREATER_OR_EQUAL, E_GREATER_OR_EQUAL, F_EQUAL_ordinal, F_LESS_ordinal, F_NOT_EQUAL_ordinal, F_GREATER_ordinal, F_LESS_OR_EQUAL_ordinal, F_GREATER_OR_EQUAL_ordinal⟩ := id F33
      refine s_getS B X33 (pc' := 10) e33 (tw2 hw) Via.refl S_EQUAL at_7 rfl (fun T34 X34 e34 => ?_)
      refine s_stR B X34 (pc' := 11) (jn := 0) e34 A33 rfl (Ary.sto A33 V33 (Ins.self E_EQUAL)) (by decide) (by decide) (by decide) at_10 rfl (fun T35 h35 X35 e35 W35 A35 => ?_)
      replace A35 := A35.full (show 0 < 6 by decide) (L' := [(.ref w_EQUAL), .null, .null, .null, .null, .null]) rfl
      have N35 := Fr.snoc X35 (Fr.nil _) ge_o33
      have O35 := (O33).wr W35 ge_o33
      have F35 := OwnF.ext O35.2 F0
      show Go p e below _ (T35.setTop (mkF m 11 #[.val (.int i0), .val (.int i1), .unset, .unset, .unset, .unset, .unset, .unset, .unset, .unset, .unset] [(.ref o33)]))
      refine s_dup B X35 (pc' := 12) at_11 rfl rfl ?_
      refine s_iconst B X35 (pc' := 13) (v := (1 : Int32)) at_12 rfl rfl ?_
      obtain ⟨S_EQUAL, E_EQUAL, S_NOT_EQUAL, E_NOT_EQUAL, S_LESS, E_LESS, S_LESS_OR_EQUAL, E_LESS_OR_EQUAL, S_GREATER, E_GREATER, S_GREATER_OR_EQUAL, E_GREATER_OR_EQUAL, F_EQUAL_ordinal, F_LESS_ordinal, F_NOT_EQUAL_ordinal, F_GREATER_ordinal, F_LESS_OR_EQUAL_ordinal, F_GREATER_OR_EQUAL_ordinal⟩ := id F35
      refine s_getS B X35 (pc' := 16) e35 (tw6 hw) Via.refl S_NOT_EQUAL at_13 rfl (fun T36 X36 e36 => ?_)
      refine s_stR B X36 (pc' := 17) (jn := 1) e36 A35 rfl (Ary.sto A35 V33 (Ins.self E_NOT_EQUAL)) (by decide) (by decide) (by decide) at_16 rfl (fun T37 h37 X37 e37 W37 A37 => ?_)
      replace A37 := A37.full (show 1 < 6 by decide) (L' := [(.ref w_EQUAL), (.ref w_NOT_EQUAL), .null, .null, .null, .null]) rfl
      have N37 := Fr.snoc X37 N35 ge_o33
      have O37 := (O35).wr W37 ge_o33
      have F37 := OwnF.ext O37.2 F0
      show Go p e below _ (T37.setTop (mkF m 17 #[.val (.int i0), .val (.int i1), .unset, .unset, .unset, .unset, .unset, .unset, .unset, .unset, .unset] [(.ref o33)]))
      refine s_dup B X37 (pc' := 18) at_17 rfl rfl ?_
      refine s_iconst B X37 (pc' := 19) (v := (2 : Int32)) at_18 rfl rfl ?_
      obtain ⟨S_EQUAL, E_EQUAL, S_NOT_EQUAL, E_NOT_EQUAL, S_LESS, E_LESS, S_LESS_OR_EQUAL, E_LESS_OR_EQUAL, S_GREATER, E_GREATER, S_GREATER_OR_EQUAL, E_GREATER_OR_EQUAL, F_EQUAL_ordinal, F_LESS_ordinal, F_NOT_EQUAL_ordinal, F_GREATER_ordinal, F_LESS_OR_EQUAL_ordinal, F_GREATER_OR_EQUAL_ordinal⟩ := id F37
      refine s_getS B X37 (pc' := 22) e37 (tw8 hw) Via.refl S_LESS at_19 rfl (fun T38 X38 e38 => ?_)
      refine s_stR B X38 (pc' := 23) (jn := 2) e38 A37 rfl (Ary.sto A37 V33 (Ins.self E_LESS)) (by decide) (by decide) (by decide) at_22 rfl (fun T39 h39 X39 e39 W39 A39 => ?_)
      replace A39 := A39.full (show 2 < 6 by decide) (L' := [(.ref w_EQUAL), (.ref w_NOT_EQUAL), (.ref w_LESS), .null, .null, .null]) rfl
      have N39 := Fr.snoc X39 N37 ge_o33
      have O39 := (O37).wr W39 ge_o33
      have F39 := OwnF.ext O39.2 F0
      show Go p e below _ (T39.setTop (mkF m 23 #[.val (.int i0), .val (.int i1), .unset, .unset, .unset, .unset, .unset, .unset, .unset, .unset, .unset] [(.ref o33)]))
      refine s_dup B X39 (pc' := 24) at_23 rfl rfl ?_
      refine s_iconst B X39 (pc' := 25) (v := (3 : Int32)) at_24 rfl rfl ?_
      obtain ⟨S_EQUAL, E_EQUAL, S_NOT_EQUAL, E_NOT_EQUAL, S_LESS, E_LESS, S_LESS_OR_EQUAL, E_LESS_OR_EQUAL, S_GREATER, E_GREATER, S_GREATER_OR_EQUAL, E_GREATER_OR_EQUAL, F_EQUAL_ordinal, F_LESS_ordinal, F_NOT_EQUAL_ordinal, F_GREATER_ordinal, F_LESS_OR_EQUAL_ordinal, F_GREATER_OR_EQUAL_ordinal⟩ := id F39
      refine s_getS B X39 (pc' := 28) e39 (tw10 hw) Via.refl S_LESS_OR_EQUAL at_25 rfl (fun T40 X40 e40 => ?_)
      refine s_stR B X40 (pc' := 29) (jn := 3) e40 A39 rfl (Ary.sto A39 V33 (Ins.self E_LESS_OR_EQUAL)) (by decide) (by decide) (by decide) at_28 rfl (fun T41 h41 X41 e41 W41 A41 => ?_)
      replace A41 := A41.full (show 3 < 6 by decide) (L' := [(.ref w_EQUAL), (.ref w_NOT_EQUAL), (.ref w_LESS), (.ref w_LESS_OR_EQUAL), .null, .null]) rfl
      have N41 := Fr.snoc X41 N39 ge_o33
      have O41 := (O39).wr W41 ge_o33
      have F41 := OwnF.ext O41.2 F0
      show Go p e below _ (T41.setTop (mkF m 29 #[.val (.int i0), .val (.int i1), .unset, .unset, .unset, .unset, .unset, .unset, .unset, .unset, .unset] [(.ref o33)]))
      refine s_dup B X41 (pc' := 30) at_29 rfl rfl ?_
      refine s_iconst B X41 (pc' := 31) (v := (4 : Int32)) at_30 rfl rfl ?_
      obtain ⟨S_EQUAL, E_EQUAL, S_NOT_EQUAL, E_NOT_EQUAL, S_LESS, E_LESS, S_LESS_OR_EQUAL, E_LESS_OR_EQUAL, S_GREATER, E_GREATER, S_GREATER_OR_EQUAL, E_GREATER_OR_EQUAL, F_EQUAL_ordinal, F_LESS_ordinal, F_NOT_EQUAL_ordinal, F_GREATER_ordinal, F_LESS_OR_EQUAL_ordinal, F_GREATER_OR_EQUAL_ordinal⟩ := id F41
      refine s_getS B X41 (pc' := 34) e41 (tw12 hw) Via.refl S_GREATER at_31 rfl (fun T42 X42 e42 => ?_)
      refine s_stR B X42 (pc' := 35) (jn := 4) e42 A41 rfl (Ary.sto A41 V33 (Ins.self E_GREATER)) (by decide) (by decide) (by decide) at_34 rfl (fun T43 h43 X43 e43 W43 A43 => ?_)
      replace A43 := A43.full (show 4 < 6 by decide) (L' := [(.ref w_EQUAL), (.ref w_NOT_EQUAL), (.ref w_LESS), (.ref w_LESS_OR_EQUAL), (.ref w_GREATER), .null]) rfl
      have N43 := Fr.snoc X43 N41 ge_o33
      have O43 := (O41).wr W43 ge_o33
      have F43 := OwnF.ext O43.2 F0
      show Go p e below _ (T43.setTop (mkF m 35 #[.val (.int i0), .val (.int i1), .unset, .unset, .unset, .unset, .unset, .unset, .unset, .unset, .unset] [(.ref o33)]))
      refine s_dup B X43 (pc' := 36) at_35 rfl rfl ?_
      refine s_iconst B X43 (pc' := 37) (v := (5 : Int32)) at_36 rfl rfl ?_
      obtain ⟨S_EQUAL, E_EQUAL, S_NOT_EQUAL, E_NOT_EQUAL, S_LESS, E_LESS, S_LESS_OR_EQUAL, E_LESS_OR_EQUAL, S_GREATER, E_GREATER, S_GREATER_OR_EQUAL, E_GREATER_OR_EQUAL, F_EQUAL_ordinal, F_LESS_ordinal, F_NOT_EQUAL_ordinal, F_GREATER_ordinal, F_LESS_OR_EQUAL_ordinal, F_GREATER_OR_EQUAL_ordinal⟩ := id F43
      refine s_getS B X43 (pc' := 40) e43 (tw14 hw) Via.refl S_GREATER_OR_EQUAL at_37 rfl (fun T44 X44 e44 => ?_)
      refine s_stR B X44 (pc' := 41) (jn := 5) e44 A43 rfl (Ary.sto A43 V33 (Ins.self E_GREATER_OR_EQUAL)) (by decide) (by decide) (by decide) at_40 rfl (fun T45 h45 X45 e45 W45 A45 => ?_)
      replace A45 := A45.full (show 5 < 6 by decide) (L' := [(.ref w_EQUAL), (.ref w_NOT_EQUAL), (.ref w_LESS), (.ref w_LESS_OR_EQUAL), (.ref w_GREATER), (.ref w_GREATER_OR_EQUAL)]) rfl
      have N45 := Fr.snoc X45 N43 ge_o33
      have O45 := (O43).wr W45 ge_o33
      have F45 := OwnF.ext O45.2 F0
      show Go p e below _ (T45.setTop (mkF m 41 #[.val (.int i0), .val (.int i1), .unset, .unset, .unset, .unset, .unset, .unset, .unset, .unset, .unset] [(.ref o33)]))
      refine s_astoreN B X45 (pc' := 42) (Ls' := #[.val (.int i0), .val (.int i1), .val (.ref o33), .unset, .unset, .unset, .unset, .unset, .unset, .unset, .unset]) at_41 rfl rfl rfl ?_
      refine s_aloadN B X45 (pc' := 43) at_42 rfl rfl rfl ?_
      refine s_iloadN B X45 (pc' := 44) at_43 rfl rfl ?_
      refine s_ldc B X45 (pc' := 46) (v := (2147483647 : Int32)) (tw16 hw) at_44 rfl ?_
      refine s_iand B X45 (pc' := 47) (v := (i0 &&& (2147483647 : Int32))) at_46 rfl rfl ?_
      refine s_bipush B X45 (pc' := 49) (v := (6 : Int32)) at_47 rfl rfl ?_
      refine s_irem B X45 (pc' := 50) (v := (2 : Int32)) at_49 (hv1) (by decide) rfl ?_
      refine s_ldR B X45 (pc' := 51) (jn := 2) (v := (.ref w_LESS)) e45 A45 rfl (by decide) (by decide) (by decide) rfl at_50 rfl ?_
      refine s_astoreN B X45 (pc' := 52) (Ls' := #[.val (.int i0), .val (.int i1), .val (.ref o33), .val (.ref w_LESS), .unset, .unset, .unset, .unset, .unset, .unset, .unset]) at_51 rfl rfl rfl ?_
      refine s_iloadN B X45 (pc' := 53) at_52 rfl rfl ?_
      refine b_if_ge B X45 (py := 60) (pn := 56) at_53 (by decide) (by decide) rfl (fun q => absurd hA q) (fun _ => ?_)
      refine s_iconst B X45 (pc' := 57) (v := (1 : Int32)) at_56 rfl rfl ?_
      refine s_goto B X45 (pc' := 61) at_57 (by decide) (by decide) ?_
      refine s_istore B X45 (pc' := 63) (Ls' := #[.val (.int i0), .val (.int i1), .val (.ref o33), .val (.ref w_LESS), .val (.int (1 : Int32)), .unset, .unset, .unset, .unset, .unset, .unset]) at_61 rfl rfl ?_
      refine s_iloadN B X45 (pc' := 64) at_63 rfl rfl ?_
      refine b_if_ne B X45 (py := 71) (pn := 67) at_64 (by decide) (by decide) rfl (fun _ => ?_) (fun q => absurd q hE)
      refine s_iconst B X45 (pc' := 72) (v := (0 : Int32)) at_71 rfl rfl ?_
      refine s_istore B X45 (pc' := 74) (Ls' := #[.val (.int i0), .val (.int i1), .val (.ref o33), .val (.ref w_LESS), .val (.int (1 : Int32)), .val (.int (0 : Int32)), .unset, .unset, .unset, .unset, .unset]) at_72 rfl rfl ?_
      refine s_iloadN B X45 (pc' := 75) at_74 rfl rfl ?_
      refine b_if_le B X45 (py := 82) (pn := 78) at_75 (by decide) (by decide) rfl (fun _ => ?_) (fun q => absurd q hB)
      refine s_iconst B X45 (pc' := 83) (v := (0 : Int32)) at_82 rfl rfl ?_
      refine s_istore B X45 (pc' := 85) (Ls' := #[.val (.int i0), .val (.int i1), .val (.ref o33), .val (.ref w_LESS), .val (.int (1 : Int32)), .val (.int (0 : Int32)), .val (.int (0 : Int32)), .unset, .unset, .unset, .unset]) at_83 rfl rfl ?_
      refine s_aloadN B X45 (pc' := 86) at_85 rfl rfl rfl ?_
      obtain ⟨S_EQUAL, E_EQUAL, S_NOT_EQUAL, E_NOT_EQUAL, S_LESS, E_LESS, S_LESS_OR_EQUAL, E_LESS_OR_EQUAL, S_GREATER, E_GREATER, S_GREATER_OR_EQUAL, E_GREATER_OR_EQUAL, F_EQUAL_ordinal, F_LESS_ordinal, F_NOT_EQUAL_ordinal, F_GREATER_ordinal, F_LESS_OR_EQUAL_ordinal, F_GREATER_OR_EQUAL_ordinal⟩ := id F45
      refine s_getS B X45 (pc' := 89) e45 (tw2 hw) Via.refl S_EQUAL at_86 rfl (fun T46 X46 e46 => ?_)
      refine b_acmp_ne B X46 (py := 104) (pn := 92) at_89 (by decide) (by decide) rfl (fun _ => ?_) (fun q => absurd q (own_ne_w_LESS_w_EQUAL F45))
      refine s_aloadN B X46 (pc' := 105) at_104 rfl rfl rfl ?_
      refine s_getS B X46 (pc' := 108) e46 (tw6 hw) Via.refl S_NOT_EQUAL at_105 rfl (fun T47 X47 e47 => ?_)
      refine b_acmp_ne B X47 (py := 123) (pn := 111) at_108 (by decide) (by decide) rfl (fun _ => ?_) (fun q => absurd q (own_ne_w_LESS_w_NOT_EQUAL F45))
      refine s_aloadN B X47 (pc' := 124) at_123 rfl rfl rfl ?_
      refine s_getS B X47 (pc' := 127) e47 (tw8 hw) Via.refl S_LESS at_124 rfl (fun T48 X48 e48 => ?_)
      refine b_acmp_ne B X48 (py := 142) (pn := 130) at_127 (by decide) (by decide) rfl (fun q => absurd rfl q) (fun _ => ?_)
      refine s_iconst B X48 (pc' := 131) (v := (1 : Int32)) at_130 rfl rfl ?_
      refine s_istore B X48 (pc' := 133) (Ls' := #[.val (.int i0), .val (.int i1), .val (.ref o33), .val (.ref w_LESS), .val (.int (1 : Int32)), .val (.int (0 : Int32)), .val (.int (0 : Int32)), .val (.int (1 : Int32)), .unset, .unset, .unset]) at_131 rfl rfl ?_
      refine s_iconst B X48 (pc' := 134) (v := (0 : Int32)) at_133 rfl rfl ?_
      refine s_istore B X48 (pc' := 136) (Ls' := #[.val (.int i0), .val (.int i1), .val (.ref o33), .val (.ref w_LESS), .val (.int (1 : Int32)), .val (.int (0 : Int32)), .val (.int (0 : Int32)), .val (.int (1 : Int32)), .val (.int (0 : Int32)), .unset, .unset]) at_134 rfl rfl ?_
      refine s_iconst B X48 (pc' := 137) (v := (0 : Int32)) at_136 rfl rfl ?_
      refine s_istore B X48 (pc' := 139) (Ls' := #[.val (.int i0), .val (.int i1), .val (.ref o33), .val (.ref w_LESS), .val (.int (1 : Int32)), .val (.int (0 : Int32)), .val (.int (0 : Int32)), .val (.int (1 : Int32)), .val (.int (0 : Int32)), .val (.int (0 : Int32)), .unset]) at_137 rfl rfl ?_
      refine s_goto B X48 (pc' := 189) at_139 (by decide) (by decide) ?_
      refine s_iload B X48 (pc' := 191) at_189 rfl rfl ?_
      refine s_ifN B X48 (pc' := 194) at_191 (by decide) rfl ?_
      refine s_iload B X48 (pc' := 196) at_194 rfl rfl ?_
      refine s_ifY B X48 (pc' := 219) at_196 (by decide) (by decide) (by decide) ?_
      refine s_iconst B X48 (pc' := 220) (v := (1 : Int32)) at_219 rfl rfl ?_
      refine s_goto B X48 (pc' := 224) at_220 (by decide) (by decide) ?_
      refine s_istore B X48 (pc' := 226) (Ls' := #[.val (.int i0), .val (.int i1), .val (.ref o33), .val (.ref w_LESS), .val (.int (1 : Int32)), .val (.int (0 : Int32)), .val (.int (0 : Int32)), .val (.int (1 : Int32)), .val (.int (0 : Int32)), .val (.int (0 : Int32)), .val (.int (1 : Int32))]) at_224 rfl rfl ?_
      refine s_aloadN B X48 (pc' := 227) at_226 rfl rfl rfl ?_
      refine s_iloadN B X48 (pc' := 228) at_227 rfl rfl ?_
      refine p_virtual B X48 (y := mn2) (pc' := 231) (argsL := [(.int i1)]) (under := []) (W := 0) e48 (tw17 hw) (tw18 hw) (tw20 hw) (tw19 hw) (tw21 hw) (tw3 hw) (by decide) (rm1_4 l Z a0 hw i1 w_EQUAL w_NOT_EQUAL w_LESS w_LESS_OR_EQUAL w_GREATER w_GREATER_OR_EQUAL h45 F45 hA hB hE) E_LESS (lenOf pd_1 rfl) rfl rfl (by decide) (by decide) rfl rfl (by decide) (by decide) rfl at_228 rfl (fun T49 X49 e49 => ?_)
      show Go p e below _ (T49.setTop (mkF m 231 #[.val (.int i0), .val (.int i1), .val (.ref o33), .val (.ref w_LESS), .val (.int (1 : Int32)), .val (.int (0 : Int32)), .val (.int (0 : Int32)), .val (.int (1 : Int32)), .val (.int (0 : Int32)), .val (.int (0 : Int32)), .val (.int (1 : Int32))] [(.int (1 : Int32))]))
      refine s_iload B X49 (pc' := 233) at_231 rfl rfl ?_
      refine s_icmpN B X49 (pc' := 236) at_233 (by decide) rfl ?_
      refine s_iconst B X49 (pc' := 237) (v := (1 : Int32)) at_236 rfl rfl ?_
      refine s_goto B X49 (pc' := 241) at_237 (by decide) (by decide) ?_
      exact r_nar B X49 (t := .boolean) (by simp) rfl at_241 ⟨rfl, N45⟩ (by decide) (by decide)
    · refine s_bipush B X0 (pc' := 2) (v := (6 : Int32)) at_0 rfl rfl ?_
      refine s_newR B X0 (pc' := 5) (N := 6) (cap := 6) e0 (tw0 hw) (tw1 hw) (by decide) (by decide) (by decide) (by decide) (by decide) (by decide) at_2 rfl (fun T50 h50 o50 k50 g50 X50 e50 E50 A50 V50 => ?_)
      have ge_o50 : Z.heap.size ≤ o50 := g50 ▸ old_le (Old.start Z)
      replace A50 : Ary Z h50 o50 k50 (.object "com/example/upmob/upmob/Operator") 6 (lst [.null, .null, .null, .null, .null, .null] .null) := A50.congr (own_rep 6)
      have O50 := ((Old.start Z)).ext E50
      have F50 := OwnF.ext O50.2 F0
      show Go p e below _ (T50.setTop (mkF m 5 #[.val (.int i0), .val (.int i1), .unset, .unset, .unset, .unset, .unset, .unset, .unset, .unset, .unset] [(.ref o50)]))
      refine s_dup B X50 (pc' := 6) at_5 rfl rfl ?_
      refine s_iconst B X50 (pc' := 7) (v := (0 : Int32)) at_6 rfl rfl ?_
      obtain ⟨S_EQUAL, E_EQUAL, S_NOT_EQUAL, E_NOT_EQUAL, S_LESS, E_LESS, S_LESS_OR_EQUAL, E_LESS_OR_EQUAL, S_GREATER, E_GREATER, S_GREATER_OR_EQUAL, E_GREATER_OR_EQUAL, F_EQUAL_ordinal, F_LESS_ordinal, F_NOT_EQUAL_ordinal, F_GREATER_ordinal, F_LESS_OR_EQUAL_ordinal, F_GREATER_OR_EQUAL_ordinal⟩ := id F50
      refine s_getS B X50 (pc' := 10) e50 (tw2 hw) Via.refl S_EQUAL at_7 rfl (fun T51 X51 e51 => ?_)
      refine s_stR B X51 (pc' := 11) (jn := 0) e51 A50 rfl (Ary.sto A50 V50 (Ins.self E_EQUAL)) (by decide) (by decide) (by decide) at_10 rfl (fun T52 h52 X52 e52 W52 A52 => ?_)
      replace A52 := A52.full (show 0 < 6 by decide) (L' := [(.ref w_EQUAL), .null, .null, .null, .null, .null]) rfl
      have N52 := Fr.snoc X52 (Fr.nil _) ge_o50
      have O52 := (O50).wr W52 ge_o50
      have F52 := OwnF.ext O52.2 F0
      show Go p e below _ (T52.setTop (mkF m 11 #[.val (.int i0), .val (.int i1), .unset, .unset, .unset, .unset, .unset, .unset, .unset, .unset, .unset] [(.ref o50)]))
      refine s_dup B X52 (pc' := 12) at_11 rfl rfl ?_
      refine s_iconst B X52 (pc' := 13) (v := (1 : Int32)) at_12 rfl rfl ?_
      obtain ⟨S_EQUAL, E_EQUAL, S_NOT_EQUAL, E_NOT_EQUAL, S_LESS, E_LESS, S_LESS_OR_EQUAL, E_LESS_OR_EQUAL, S_GREATER, E_GREATER, S_GREATER_OR_EQUAL, E_GREATER_OR_EQUAL, F_EQUAL_ordinal, F_LESS_ordinal, F_NOT_EQUAL_ordinal, F_GREATER_ordinal, F_LESS_OR_EQUAL_ordinal, F_GREATER_OR_EQUAL_ordinal⟩ := id F52
      refine s_getS B X52 (pc' := 16) e52 (tw6 hw) Via.refl S_NOT_EQUAL at_13 rfl (fun T53 X53 e53 => ?_)
      refine s_stR B X53 (pc' := 17) (jn := 1) e53 A52 rfl (Ary.sto A52 V50 (Ins.self E_NOT_EQUAL)) (by decide) (by decide) (by decide) at_16 rfl (fun T54 h54 X54 e54 W54 A54 => ?_)
      replace A54 := A54.full (show 1 < 6 by decide) (L' := [(.ref w_EQUAL), (.ref w_NOT_EQUAL), .null, .null, .null, .null]) rfl
      have N54 := Fr.snoc X54 N52 ge_o50
      have O54 := (O52).wr W54 ge_o50
      have F54 := OwnF.ext O54.2 F0
      show Go p e below _ (T54.setTop (mkF m 17 #[.val (.int i0), .val (.int i1), .unset, .unset, .unset, .unset, .unset, .unset, .unset, .unset, .unset] [(.ref o50)]))
      refine s_dup B X54 (pc' := 18) at_17 rfl rfl ?_
      refine s_iconst B X54 (pc' := 19) (v := (2 : Int32)) at_18 rfl rfl ?_
      obtain ⟨S_EQUAL, E_EQUAL, S_NOT_EQUAL, E_NOT_EQUAL, S_LESS, E_LESS, S_LESS_OR_EQUAL, E_LESS_OR_EQUAL, S_GREATER, E_GREATER, S_GREATER_OR_EQUAL, E_GREATER_OR_EQUAL, F_EQUAL_ordinal, F_LESS_ordinal, F_NOT_EQUAL_ordinal, F_GREATER_ordinal, F_LESS_OR_EQUAL_ordinal, F_GREATER_OR_EQUAL_ordinal⟩ := id F54
      refine s_getS B X54 (pc' := 22) e54 (tw8 hw) Via.refl S_LESS at_19 rfl (fun T55 X55 e55 => ?_)
      refine s_stR B X55 (pc' := 23) (jn := 2) e55 A54 rfl (Ary.sto A54 V50 (Ins.self E_LESS)) (by decide) (by decide) (by decide) at_22 rfl (fun T56 h56 X56 e56 W56 A56 => ?_)
      replace A56 := A56.full (show 2 < 6 by decide) (L' := [(.ref w_EQUAL), (.ref w_NOT_EQUAL), (.ref w_LESS), .null, .null, .null]) rfl
      have N56 := Fr.snoc X56 N54 ge_o50
      have O56 := (O54).wr W56 ge_o50
      have F56 := OwnF.ext O56.2 F0
      show Go p e below _ (T56.setTop (mkF m 23 #[.val (.int i0), .val (.int i1), .unset, .unset, .unset, .unset, .unset, .unset, .unset, .unset, .unset] [(.ref o50)]))
      refine s_dup B X56 (pc' := 24) at_23 rfl rfl ?_
      refine s_iconst B X56 (pc' := 25) (v := (3 : Int32)) at_24 rfl rfl ?_
      obtain ⟨S_EQUAL, E_EQUAL, S_NOT_EQUAL, E_NOT_EQUAL, S_LESS, E_LESS, S_LESS_OR_EQUAL, E_LESS_OR_EQUAL, S_GREATER, E_GREATER, S_GREATER_OR_EQUAL, E_GREATER_OR_EQUAL, F_EQUAL_ordinal, F_LESS_ordinal, F_NOT_EQUAL_ordinal, F_GREATER_ordinal, F_LESS_OR_EQUAL_ordinal, F_GREATER_OR_EQUAL_ordinal⟩ := id F56
      refine s_getS B X56 (pc' := 28) e56 (tw10 hw) Via.refl S_LESS_OR_EQUAL at_25 rfl (fun T57 X57 e57 => ?_)
      refine s_stR B X57 (pc' := 29) (jn := 3) e57 A56 rfl (Ary.sto A56 V50 (Ins.self E_LESS_OR_EQUAL)) (by decide) (by decide) (by decide) at_28 rfl (fun T58 h58 X58 e58 W58 A58 => ?_)
      replace A58 := A58.full (show 3 < 6 by decide) (L' := [(.ref w_EQUAL), (.ref w_NOT_EQUAL), (.ref w_LESS), (.ref w_LESS_OR_EQUAL), .null, .null]) rfl
      have N58 := Fr.snoc X58 N56 ge_o50
      have O58 := (O56).wr W58 ge_o50
      have F58 := OwnF.ext O58.2 F0
      show Go p e below _ (T58.setTop (mkF m 29 #[.val (.int i0), .val (.int i1), .unset, .unset, .unset, .unset, .unset, .unset, .unset, .unset, .unset] [(.ref o50)]))
      refine s_dup B X58 (pc' := 30) at_29 rfl rfl ?_
      refine s_iconst B X58 (pc' := 31) (v := (4 : Int32)) at_30 rfl rfl ?_
      obtain ⟨S_EQUAL, E_EQUAL, S_NOT_EQUAL, E_NOT_EQUAL, S_LESS, E_LESS, S_LESS_OR_EQUAL, E_LESS_OR_EQUAL, S_GREATER, E_GREATER, S_GREATER_OR_EQUAL, E_GREATER_OR_EQUAL, F_EQUAL_ordinal, F_LESS_ordinal, F_NOT_EQUAL_ordinal, F_GREATER_ordinal, F_LESS_OR_EQUAL_ordinal, F_GREATER_OR_EQUAL_ordinal⟩ := id F58
      refine s_getS B X58 (pc' := 34) e58 (tw12 hw) Via.refl S_GREATER at_31 rfl (fun T59 X59 e59 => ?_)
      refine s_stR B X59 (pc' := 35) (jn := 4) e59 A58 rfl (Ary.sto A58 V50 (Ins.self E_GREATER)) (by decide) (by decide) (by decide) at_34 rfl (fun T60 h60 X60 e60 W60 A60 => ?_)
      replace A60 := A60.full (show 4 < 6 by decide) (L' := [(.ref w_EQUAL), (.ref w_NOT_EQUAL), (.ref w_LESS), (.ref w_LESS_OR_EQUAL), (.ref w_GREATER), .null]) rfl
      have N60 := Fr.snoc X60 N58 ge_o50
      have O60 := (O58).wr W60 ge_o50
      have F60 := OwnF.ext O60.2 F0
      show Go p e below _ (T60.setTop (mkF m 35 #[.val (.int i0), .val (.int i1), .unset, .unset, .unset, .unset, .unset, .unset, .unset, .unset, .unset] [(.ref o50)]))
      refine s_dup B X60 (pc' := 36) at_35 rfl rfl ?_
      refine s_iconst B X60 (pc' := 37) (v := (5 : Int32)) at_36 rfl rfl ?_
      obtain ⟨S_EQUAL, E_EQUAL, S_NOT_EQUAL, E_NOT_EQUAL, S_LESS, E_LESS, S_LESS_OR_EQUAL, E_LESS_OR_EQUAL, S_GREATER, E_GREATER, S_GREATER_OR_EQUAL, E_GREATER_OR_EQUAL, F_EQUAL_ordinal, F_LESS_ordinal, F_NOT_EQUAL_ordinal, F_GREATER_ordinal, F_LESS_OR_EQUAL_ordinal, F_GREATER_OR_EQUAL_ordinal⟩ := id F60
      refine s_getS B X60 (pc' := 40) e60 (tw14 hw) Via.refl S_GREATER_OR_EQUAL at_37 rfl (fun T61 X61 e61 => ?_)
      refine s_stR B X61 (pc' := 41) (jn := 5) e61 A60 rfl (Ary.sto A60 V50 (Ins.self E_GREATER_OR_EQUAL)) (by decide) (by decide) (by decide) at_40 rfl (fun T62 h62 X62 e62 W62 A62 => ?_)
      replace A62 := A62.full (show 5 < 6 by decide) (L' := [(.ref w_EQUAL), (.ref w_NOT_EQUAL), (.ref w_LESS), (.ref w_LESS_OR_EQUAL), (.ref w_GREATER), (.ref w_GREATER_OR_EQUAL)]) rfl
      have N62 := Fr.snoc X62 N60 ge_o50
      have O62 := (O60).wr W62 ge_o50
      have F62 := OwnF.ext O62.2 F0
      show Go p e below _ (T62.setTop (mkF m 41 #[.val (.int i0), .val (.int i1), .unset, .unset, .unset, .unset, .unset, .unset, .unset, .unset, .unset] [(.ref o50)]))
      refine s_astoreN B X62 (pc' := 42) (Ls' := #[.val (.int i0), .val (.int i1), .val (.ref o50), .unset, .unset, .unset, .unset, .unset, .unset, .unset, .unset]) at_41 rfl rfl rfl ?_
      refine s_aloadN B X62 (pc' := 43) at_42 rfl rfl rfl ?_
      refine s_iloadN B X62 (pc' := 44) at_43 rfl rfl ?_
      refine s_ldc B X62 (pc' := 46) (v := (2147483647 : Int32)) (tw16 hw) at_44 rfl ?_
      refine s_iand B X62 (pc' := 47) (v := (i0 &&& (2147483647 : Int32))) at_46 rfl rfl ?_
      refine s_bipush B X62 (pc' := 49) (v := (6 : Int32)) at_47 rfl rfl ?_
      refine s_irem B X62 (pc' := 50) (v := (3 : Int32)) at_49 (hv1) (by decide) rfl ?_
      refine s_ldR B X62 (pc' := 51) (jn := 3) (v := (.ref w_LESS_OR_EQUAL)) e62 A62 rfl (by decide) (by decide) (by decide) rfl at_50 rfl ?_
      refine s_astoreN B X62 (pc' := 52) (Ls' := #[.val (.int i0), .val (.int i1), .val (.ref o50), .val (.ref w_LESS_OR_EQUAL), .unset, .unset, .unset, .unset, .unset, .unset, .unset]) at_51 rfl rfl rfl ?_
      refine s_iloadN B X62 (pc' := 53) at_52 rfl rfl ?_
      refine b_if_ge B X62 (py := 60) (pn := 56) at_53 (by decide) (by decide) rfl (fun q => absurd hA q) (fun _ => ?_)
      refine s_iconst B X62 (pc' := 57) (v := (1 : Int32)) at_56 rfl rfl ?_
      refine s_goto B X62 (pc' := 61) at_57 (by decide) (by decide) ?_
      refine s_istore B X62 (pc' := 63) (Ls' := #[.val (.int i0), .val (.int i1), .val (.ref o50), .val (.ref w_LESS_OR_EQUAL), .val (.int (1 : Int32)), .unset, .unset, .unset, .unset, .unset, .unset]) at_61 rfl rfl ?_
      refine s_iloadN B X62 (pc' := 64) at_63 rfl rfl ?_
      refine b_if_ne B X62 (py := 71) (pn := 67) at_64 (by decide) (by decide) rfl (fun _ => ?_) (fun q => absurd q hE)
      refine s_iconst B X62 (pc' := 72) (v := (0 : Int32)) at_71 rfl rfl ?_
      refine s_istore B X62 (pc' := 74) (Ls' := #[.val (.int i0), .val (.int i1), .val (.ref o50), .val (.ref w_LESS_OR_EQUAL), .val (.int (1 : Int32)), .val (.int (0 : Int32)), .unset, .unset, .unset, .unset, .unset]) at_72 rfl rfl ?_
      refine s_iloadN B X62 (pc' := 75) at_74 rfl rfl ?_
      refine b_if_le B X62 (py := 82) (pn := 78) at_75 (by decide) (by decide) rfl (fun _ => ?_) (fun q => absurd q hB)
      refine s_iconst B X62 (pc' := 83) (v := (0 : Int32)) at_82 rfl rfl ?_
      refine s_istore B X62 (pc' := 85) (Ls' := #[.val (.int i0), .val (.int i1), .val (.ref o50), .val (.ref w_LESS_OR_EQUAL), .val (.int (1 : Int32)), .val (.int (0 : Int32)), .val (.int (0 : Int32)), .unset, .unset, .unset, .unset]) at_83 rfl rfl ?_
      refine s_aloadN B X62 (pc' := 86) at_85 rfl rfl rfl ?_
      obtain ⟨S_EQUAL, E_EQUAL, S_NOT_EQUAL, E_NOT_EQUAL, S_LESS, E_LESS, S_LESS_OR_EQUAL, E_LESS_OR_EQUAL, S_GREATER, E_GREATER, S_GREATER_OR_EQUAL, E_GREATER_OR_EQUAL, F_EQUAL_ordinal, F_LESS_ordinal, F_NOT_EQUAL_ordinal, F_GREATER_ordinal, F_LESS_OR_EQUAL_ordinal, F_GREATER_OR_EQUAL_ordinal⟩ := id F62
      refine s_getS B X62 (pc' := 89) e62 (tw2 hw) Via.refl S_EQUAL at_86 rfl (fun T63 X63 e63 => ?_)
      refine b_acmp_ne B X63 (py := 104) (pn := 92) at_89 (by decide) (by decide) rfl (fun _ => ?_) (fun q => absurd q (own_ne_w_LESS_OR_EQUAL_w_EQUAL F62))
      refine s_aloadN B X63 (pc' := 105) at_104 rfl rfl rfl ?_
      refine s_getS B X63 (pc' := 108) e63 (tw6 hw) Via.refl S_NOT_EQUAL at_105 rfl (fun T64 X64 e64 => ?_)
      refine b_acmp_ne B X64 (py := 123) (pn := 111) at_108 (by decide) (by decide) rfl (fun _ => ?_) (fun q => absurd q (own_ne_w_LESS_OR_EQUAL_w_NOT_EQUAL F62))
      refine s_aloadN B X64 (pc' := 124) at_123 rfl rfl rfl ?_
      refine s_getS B X64 (pc' := 127) e64 (tw8 hw) Via.refl S_LESS at_124 rfl (fun T65 X65 e65 => ?_)
      refine b_acmp_ne B X65 (py := 142) (pn := 130) at_127 (by decide) (by decide) rfl (fun _ => ?_) (fun q => absurd q (own_ne_w_LESS_OR_EQUAL_w_LESS F62))
      refine s_aloadN B X65 (pc' := 143) at_142 rfl rfl rfl ?_
      refine s_getS B X65 (pc' := 146) e65 (tw10 hw) Via.refl S_LESS_OR_EQUAL at_143 rfl (fun T66 X66 e66 => ?_)
      refine b_acmp_ne B X66 (py := 161) (pn := 149) at_146 (by decide) (by decide) rfl (fun q => absurd rfl q) (fun _ => ?_)
      refine s_iconst B X66 (pc' := 150) (v := (1 : Int32)) at_149 rfl rfl ?_
      refine s_istore B X66 (pc' := 152) (Ls' := #[.val (.int i0), .val (.int i1), .val (.ref o50), .val (.ref w_LESS_OR_EQUAL), .val (.int (1 : Int32)), .val (.int (0 : Int32)), .val (.int (0 : Int32)), .val (.int (1 : Int32)), .unset, .unset, .unset]) at_150 rfl rfl ?_
      refine s_iconst B X66 (pc' := 153) (v := (1 : Int32)) at_152 rfl rfl ?_
      refine s_istore B X66 (pc' := 155) (Ls' := #[.val (.int i0), .val (.int i1), .val (.ref o50), .val (.ref w_LESS_OR_EQUAL), .val (.int (1 : Int32)), .val (.int (0 : Int32)), .val (.int (0 : Int32)), .val (.int (1 : Int32)), .val (.int (1 : Int32)), .unset, .unset]) at_153 rfl rfl ?_
      refine s_iconst B X66 (pc' := 156) (v := (0 : Int32)) at_155 rfl rfl ?_
      refine s_istore B X66 (pc' := 158) (Ls' := #[.val (.int i0), .val (.int i1), .val (.ref o50), .val (.ref w_LESS_OR_EQUAL), .val (.int (1 : Int32)), .val (.int (0 : Int32)), .val (.int (0 : Int32)), .val (.int (1 : Int32)), .val (.int (1 : Int32)), .val (.int (0 : Int32)), .unset]) at_156 rfl rfl ?_
      refine s_goto B X66 (pc' := 189) at_158 (by decide) (by decide) ?_
      refine s_iload B X66 (pc' := 191) at_189 rfl rfl ?_
      refine s_ifN B X66 (pc' := 194) at_191 (by decide) rfl ?_
      refine s_iload B X66 (pc' := 196) at_194 rfl rfl ?_
      refine s_ifY B X66 (pc' := 219) at_196 (by decide) (by decide) (by decide) ?_
      refine s_iconst B X66 (pc' := 220) (v := (1 : Int32)) at_219 rfl rfl ?_
      refine s_goto B X66 (pc' := 224) at_220 (by decide) (by decide) ?_
      refine s_istore B X66 (pc' := 226) (Ls' := #[.val (.int i0), .val (.int i1), .val (.ref o50), .val (.ref w_LESS_OR_EQUAL), .val (.int (1 : Int32)), .val (.int (0 : Int32)), .val (.int (0 : Int32)), .val (.int (1 : Int32)), .val (.int (1 : Int32)), .val (.int (0 : Int32)), .val (.int (1 : Int32))]) at_224 rfl rfl ?_
      refine s_aloadN B X66 (pc' := 227) at_226 rfl rfl rfl ?_
      refine s_iloadN B X66 (pc' := 228) at_227 rfl rfl ?_
      refine p_virtual B X66 (y := mn2) (pc' := 231) (argsL := [(.int i1)]) (under := []) (W := 0) e66 (tw17 hw) (tw18 hw) (tw20 hw) (tw19 hw) (tw21 hw) (tw3 hw) (by decide) (rm1_6 l Z a0 hw i1 w_EQUAL w_NOT_EQUAL w_LESS w_LESS_OR_EQUAL w_GREATER w_GREATER_OR_EQUAL h62 F62 hA hB hE) E_LESS_OR_EQUAL (lenOf pd_1 rfl) rfl rfl (by decide) (by decide) rfl rfl (by decide) (by decide) rfl at_228 rfl (fun T67 X67 e67 => ?_)
      show Go p e below _ (T67.setTop (mkF m 231 #[.val (.int i0), .val (.int i1), .val (.ref o50), .val (.ref w_LESS_OR_EQUAL), .val (.int (1 : Int32)), .val (.int (0 : Int32)), .val (.int (0 : Int32)), .val (.int (1 : Int32)), .val (.int (1 : Int32)), .val (.int (0 : Int32)), .val (.int (1 : Int32))] [(.int (1 : Int32))]))
      refine s_iload B X67 (pc' := 233) at_231 rfl rfl ?_
      refine s_icmpN B X67 (pc' := 236) at_233 (by decide) rfl ?_
      refine s_iconst B X67 (pc' := 237) (v := (1 : Int32)) at_236 rfl rfl ?_
      refine s_goto B X67 (pc' := 241) at_237 (by decide) (by decide) ?_
      exact r_nar B X67 (t := .boolean) (by simp) rfl at_241 ⟨rfl, N62⟩ (by decide) (by decide)
    · refine s_bipush B X0 (pc' := 2) (v := (6 : Int32)) at_0 rfl rfl ?_
      refine s_newR B X0 (pc' := 5) (N := 6) (cap := 6) e0 (tw0 hw) (tw1 hw) (by decide) (by decide) (by decide) (by decide) (by decide) (by decide) at_2 rfl (fun T68 h68 o68 k68 g68 X68 e68 E68 A68 V68 => ?_)
      have ge_o68 : Z.heap.size ≤ o68 := g68 ▸ old_le (Old.start Z)
      replace A68 : Ary Z h68 o68 k68 (.object "com/example/upmob/upmob/Operator") 6 (lst [.null, .null, .null, .null, .null, .null] .null) := A68.congr (own_rep 6)
      have O68 := ((Old.start Z)).ext E68
      have F68 := OwnF.ext O68.2 F0
      show Go p e below _ (T68.setTop (mkF m 5 #[.val (.int i0), .val (.int i1), .unset, .unset, .unset, .unset, .unset, .unset, .unset, .unset, .unset] [(.ref o68)]))
      refine s_dup B X68 (pc' := 6) at_5 rfl rfl ?_
      refine s_iconst B X68 (pc' := 7) (v := (0 : Int32)) at_6 rfl rfl ?_
      obtain ⟨S_EQUAL, E_EQUAL, S_NOT_EQUAL, E_NOT_EQUAL, S_LESS, E_LESS, S_LESS_OR_EQUAL, E_LESS_OR_EQUAL, S_GREATER, E_GREATER, S_GREATER_OR_EQUAL, E_GREATER_OR_EQUAL, F_EQUAL_ordinal, F_LESS_ordinal, F_NOT_EQUAL_ordinal, F_GREATER_ordinal, F_LESS_OR_EQUAL_ordinal, F_GREATER_OR_EQUAL_ordinal⟩ := id F68
      refine s_getS B X68 (pc' := 10) e68 (tw2 hw) Via.refl S_EQUAL at_7 rfl (fun T69 X69 e69 => ?_)
      refine s_stR B X69 (pc' := 11) (jn := 0) e69 A68 rfl (Ary.sto A68 V68 (Ins.self E_EQUAL)) (by decide) (by decide) (by decide) at_10 rfl (fun T70 h70 X70 e70 W70 A70 => ?_)
      replace A70 := A70.full (show 0 < 6 by decide) (L' := [(.ref w_EQUAL), .null, .null, .null, .null, .null]) rfl
      have N70 := Fr.snoc X70 (Fr.nil _) ge_o68
      have O70 := (O68).wr W70 ge_o68
      have F70 := OwnF.ext O70.2 F0
      show Go p e below _ (T70.setTop (mkF m 11 #[.val (.int i0), .val (.int i1), .unset, .unset, .unset, .unset, .unset, .unset, .unset, .unset, .unset] [(.ref o68)]))
      refine s_dup B X70 (pc' := 12) at_11 rfl rfl ?_
      refine s_iconst B X70 (pc' := 13) (v := (1 : Int32)) at_12 rfl rfl ?_
      obtain ⟨S_EQUAL, E_EQUAL, S_NOT_EQUAL, E_NOT_EQUAL, S_LESS, E_LESS, S_LESS_OR_EQUAL, E_LESS_OR_EQUAL, S_GREATER, E_GREATER, S_GREATER_OR_EQUAL, E_GREATER_OR_EQUAL, F_EQUAL_ordinal, F_LESS_ordinal, F_NOT_EQUAL_ordinal, F_GREATER_ordinal, F_LESS_OR_EQUAL_ordinal, F_GREATER_OR_EQUAL_ordinal⟩ := id F70
      refine s_getS B X70 (pc' := 16) e70 (tw6 hw) Via.refl S_NOT_EQUAL at_13 rfl (fun T71 X71 e71 => ?_)
      refine s_stR B X71 (pc' := 17) (jn := 1) e71 A70 rfl (Ary.sto A70 V68 (Ins.self E_NOT_EQUAL)) (by decide) (by decide) (by decide) at_16 rfl (fun T72 h72 X72 e72 W72 A72 => ?_)
      replace A72 := A72.full (show 1 < 6 by decide) (L' := [(.ref w_EQUAL), (.ref w_NOT_EQUAL), .null, .null, .null, .null]) rfl
      have N72 := Fr.snoc X72 N70 ge_o68
      have O72 := (O70).wr W72 ge_o68
      have F72 := OwnF.ext O72.2 F0
      show Go p e below _ (T72.setTop (mkF m 17 #[.val (.int i0), .val (.int i1), .unset, .unset, .unset, .unset, .unset, .unset, .unset, .unset, .unset] [(.ref o68)]))
      refine s_dup B X72 (pc' := 18) at_17 rfl rfl ?_
      refine s_iconst B X72 (pc' := 19) (v := (2 : Int32)) at_18 rfl rfl ?_
      obtain ⟨S_EQUAL, E_EQUAL, S_NOT_EQUAL, E_NOT_EQUAL, S_LESS, E_LESS, S_LESS_OR_EQUAL, E_LESS_OR_EQUAL, S_GREATER, E_GREATER, S_GREATER_OR_EQUAL, E_GREATER_OR_EQUAL, F_EQUAL_ordinal, F_LESS_ordinal, F_NOT_EQUAL_ordinal, F_GREATER_ordinal, F_LESS_OR_EQUAL_ordinal, F_GREATER_OR_EQUAL_ordinal⟩ := id F72
      refine s_getS B X72 (pc' := 22) e72 (tw8 hw) Via.refl S_LESS at_19 rfl (fun T73 X73 e73 => ?_)
      refine s_stR B X73 (pc' := 23) (jn := 2) e73 A72 rfl (Ary.sto A72 V68 (Ins.self E_LESS)) (by decide) (by decide) (by decide) at_22 rfl (fun T74 h74 X74 e74 W74 A74 => ?_)
      replace A74 := A74.full (show 2 < 6 by decide) (L' := [(.ref w_EQUAL), (.ref w_NOT_EQUAL), (.ref w_LESS), .null, .null, .null]) rfl
      have N74 := Fr.snoc X74 N72 ge_o68
      have O74 := (O72).wr W74 ge_o68
      have F74 := OwnF.ext O74.2 F0
      show Go p e below _ (T74.setTop (mkF m 23 #[.val (.int i0), .val (.int i1), .unset, .unset, .unset, .unset, .unset, .unset, .unset, .unset, .unset] [(.ref o68)]))
      refine s_dup B X74 (pc' := 24) at_23 rfl rfl ?_
      refine s_iconst B X74 (pc' := 25) (v := (3 : Int32)) at_24 rfl rfl ?_
      obtain ⟨S_EQUAL, E_EQUAL, S_NOT_EQUAL, E_NOT_EQUAL, S_LESS, E_LESS, S_LESS_OR_EQUAL, E_LESS_OR_EQUAL, S_GREATER, E_GREATER, S_GREATER_OR_EQUAL, E_GREATER_OR_EQUAL, F_EQUAL_ordinal, F_LESS_ordinal, F_NOT_EQUAL_ordinal, F_GREATER_ordinal, F_LESS_OR_EQUAL_ordinal, F_GREATER_OR_EQUAL_ordinal⟩ := id F74
      refine s_getS B X74 (pc' := 28) e74 (tw10 hw) Via.refl S_LESS_OR_EQUAL at_25 rfl (fun T75 X75 e75 => ?_)
      refine s_stR B X75 (pc' := 29) (jn := 3) e75 A74 rfl (Ary.sto A74 V68 (Ins.self E_LESS_OR_EQUAL)) (by decide) (by decide) (by decide) at_28 rfl (fun T76 h76 X76 e76 W76 A76 => ?_)
      replace A76 := A76.full (show 3 < 6 by decide) (L' := [(.ref w_EQUAL), (.ref w_NOT_EQUAL), (.ref w_LESS), (.ref w_LESS_OR_EQUAL), .null, .null]) rfl
      have N76 := Fr.snoc X76 N74 ge_o68
      have O76 := (O74).wr W76 ge_o68
      have F76 := OwnF.ext O76.2 F0
      show Go p e below _ (T76.setTop (mkF m 29 #[.val (.int i0), .val (.int i1), .unset, .unset, .unset, .unset, .unset, .unset, .unset, .unset, .unset] [(.ref o68)]))
      refine s_dup B X76 (pc' := 30) at_29 rfl rfl ?_
      refine s_iconst B X76 (pc' := 31) (v := (4 : Int32)) at_30 rfl rfl ?_
      obtain ⟨S_EQUAL, E_EQUAL, S_NOT_EQUAL, E_NOT_EQUAL, S_LESS, E_LESS, S_LESS_OR_EQUAL, E_LESS_OR_EQUAL, S_GREATER, E_GREATER, S_GREATER_OR_EQUAL, E_GREATER_OR_EQUAL, F_EQUAL_ordinal, F_LESS_ordinal, F_NOT_EQUAL_ordinal, F_GREATER_ordinal, F_LESS_OR_EQUAL_ordinal, F_GREATER_OR_EQUAL_ordinal⟩ := id F76
      refine s_getS B X76 (pc' := 34) e76 (tw12 hw) Via.refl S_GREATER at_31 rfl (fun T77 X77 e77 => ?_)
      refine s_stR B X77 (pc' := 35) (jn := 4) e77 A76 rfl (Ary.sto A76 V68 (Ins.self E_GREATER)) (by decide) (by decide) (by decide) at_34 rfl (fun T78 h78 X78 e78 W78 A78 => ?_)
      replace A78 := A78.full (show 4 < 6 by decide) (L' := [(.ref w_EQUAL), (.ref w_NOT_EQUAL), (.ref w_LESS), (.ref w_LESS_OR_EQUAL), (.ref w_GREATER), .null]) rfl
      have N78 := Fr.snoc X78 N76 ge_o68
      have O78 := (O76).wr W78 ge_o68
      have F78 := OwnF.ext O78.2 F0
      show Go p e below _ (T78.setTop (mkF m 35 #[.val (.int i0), .val (.int i1), .unset, .unset, .unset, .unset, .unset, .unset, .unset, .unset, .unset] [(.ref o68)]))
      refine s_dup B X78 (pc' := 36) at_35 rfl rfl ?_
      refine s_iconst B X78 (pc' := 37) (v := (5 : Int32)) at_36 rfl rfl ?_
      obtain ⟨S_EQUAL, E_EQUAL, S_NOT_EQUAL, E_NOT_EQUAL, S_LESS, E_LESS, S_LESS_OR_EQUAL, E_LESS_OR_EQUAL, S_GREATER, E_GREATER, S_GREATER_OR_EQUAL, E_GREATER_OR_EQUAL, F_EQUAL_ordinal, F_LESS_ordinal, F_NOT_EQUAL_ordinal, F_GREATER_ordinal, F_LESS_OR_EQUAL_ordinal, F_GREATER_OR_EQUAL_ordinal⟩ := id F78
      refine s_getS B X78 (pc' := 40) e78 (tw14 hw) Via.refl S_GREATER_OR_EQUAL at_37 rfl (fun T79 X79 e79 => ?_)
      refine s_stR B X79 (pc' := 41) (jn := 5) e79 A78 rfl (Ary.sto A78 V68 (Ins.self E_GREATER_OR_EQUAL)) (by decide) (by decide) (by decide) at_40 rfl (fun T80 h80 X80 e80 W80 A80 => ?_)
      replace A80 := A80.full (show 5 < 6 by decide) (L' := [(.ref w_EQUAL), (.ref w_NOT_EQUAL), (.ref w_LESS), (.ref w_LESS_OR_EQUAL), (.ref w_GREATER), (.ref w_GREATER_OR_EQUAL)]) rfl
      have N80 := Fr.snoc X80 N78 ge_o68
      have O80 := (O78).wr W80 ge_o68
      have F80 := OwnF.ext O80.2 F0
      show Go p e below _ (T80.setTop (mkF m 41 #[.val (.int i0), .val (.int i1), .unset, .unset, .unset, .unset, .unset, .unset, .unset, .unset, .unset] [(.ref o68)]))
      refine s_astoreN B X80 (pc' := 42) (Ls' := #[.val (.int i0), .val (.int i1), .val (.ref o68), .unset, .unset, .unset, .unset, .unset, .unset, .unset, .unset]) at_41 rfl rfl rfl ?_
      refine s_aloadN B X80 (pc' := 43) at_42 rfl rfl rfl ?_
      refine s_iloadN B X80 (pc' := 44) at_43 rfl rfl ?_
      refine s_ldc B X80 (pc' := 46) (v := (2147483647 : Int32)) (tw16 hw) at_44 rfl ?_
      refine s_iand B X80 (pc' := 47) (v := (i0 &&& (2147483647 : Int32))) at_46 rfl rfl ?_
      refine s_bipush B X80 (pc' := 49) (v := (6 : Int32)) at_47 rfl rfl ?_
      refine s_irem B X80 (pc' := 50) (v := (4 : Int32)) at_49 (hv1) (by decide) rfl ?_
      refine s_ldR B X80 (pc' := 51) (jn := 4) (v := (.ref w_GREATER)) e80 A80 rfl (by decide) (by decide) (by decide) rfl at_50 rfl ?_
      refine s_astoreN B X80 (pc' := 52) (Ls' := #[.val (.int i0), .val (.int i1), .val (.ref o68), .val (.ref w_GREATER), .unset, .unset, .unset, .unset, .unset, .unset, .unset]) at_51 rfl rfl rfl ?_
      refine s_iloadN B X80 (pc' := 53) at_52 rfl rfl ?_
      refine b_if_ge B X80 (py := 60) (pn := 56) at_53 (by decide) (by decide) rfl (fun q => absurd hA q) (fun _ => ?_)
      refine s_iconst B X80 (pc' := 57) (v := (1 : Int32)) at_56 rfl rfl ?_
      refine s_goto B X80 (pc' := 61) at_57 (by decide) (by decide) ?_
      refine s_istore B X80 (pc' := 63) (Ls' := #[.val (.int i0), .val (.int i1), .val (.ref o68), .val (.ref w_GREATER), .val (.int (1 : Int32)), .unset, .unset, .unset, .unset, .unset, .unset]) at_61 rfl rfl ?_
      refine s_iloadN B X80 (pc' := 64) at_63 rfl rfl ?_
      refine b_if_ne B X80 (py := 71) (pn := 67) at_64 (by decide) (by decide) rfl (fun _ => ?_) (fun q => absurd q hE)
      refine s_iconst B X80 (pc' := 72) (v := (0 : Int32)) at_71 rfl rfl ?_
      refine s_istore B X80 (pc' := 74) (Ls' := #[.val (.int i0), .val (.int i1), .val (.ref o68), .val (.ref w_GREATER), .val (.int (1 : Int32)), .val (.int (0 : Int32)), .unset, .unset, .unset, .unset, .unset]) at_72 rfl rfl ?_
      refine s_iloadN B X80 (pc' := 75) at_74 rfl rfl ?_
      refine b_if_le B X80 (py := 82) (pn := 78) at_75 (by decide) (by decide) rfl (fun _ => ?_) (fun q => absurd q hB)
      refine s_iconst B X80 (pc' := 83) (v := (0 : Int32)) at_82 rfl rfl ?_
      refine s_istore B X80 (pc' := 85) (Ls' := #[.val (.int i0), .val (.int i1), .val (.ref o68), .val (.ref w_GREATER), .val (.int (1 : Int32)), .val (.int (0 : Int32)), .val (.int (0 : Int32)), .unset, .unset, .unset, .unset]) at_83 rfl rfl ?_
      refine s_aloadN B X80 (pc' := 86) at_85 rfl rfl rfl ?_
      obtain ⟨S_EQUAL, E_EQUAL, S_NOT_EQUAL, E_NOT_EQUAL, S_LESS, E_LESS, S_LESS_OR_EQUAL, E_LESS_OR_EQUAL, S_GREATER, E_GREATER, S_GREATER_OR_EQUAL, E_GREATER_OR_EQUAL, F_EQUAL_ordinal, F_LESS_ordinal, F_NOT_EQUAL_ordinal, F_GREATER_ordinal, F_LESS_OR_EQUAL_ordinal, F_GREATER_OR_EQUAL_ordinal⟩ := id F80
      refine s_getS B X80 (pc' := 89) e80 (tw2 hw) Via.refl S_EQUAL at_86 rfl (fun T81 X81 e81 => ?_)
      refine b_acmp_ne B X81 (py := 104) (pn := 92) at_89 (by decide) (by decide) rfl (fun _ => ?_) (fun q => absurd q (own_ne_w_GREATER_w_EQUAL F80))
      refine s_aloadN B X81 (pc' := 105) at_104 rfl rfl rfl ?_
      refine s_getS B X81 (pc' := 108) e81 (tw6 hw) Via.refl S_NOT_EQUAL at_105 rfl (fun T82 X82 e82 => ?_)
      refine b_acmp_ne B X82 (py := 123) (pn := 111) at_108 (by decide) (by decide) rfl (fun _ => ?_) (fun q => absurd q (own_ne_w_GREATER_w_NOT_EQUAL F80))
      refine s_aloadN B X82 (pc' := 124) at_123 rfl rfl rfl ?_
      refine s_getS B X82 (pc' := 127) e82 (tw8 hw) Via.refl S_LESS at_124 rfl (fun T83 X83 e83 => ?_)
      refine b_acmp_ne B X83 (py := 142) (pn := 130) at_127 (by decide) (by decide) rfl (fun _ => ?_) (fun q => absurd q (own_ne_w_GREATER_w_LESS F80))
      refine s_aloadN B X83 (pc' := 143) at_142 rfl rfl rfl ?_
      refine s_getS B X83 (pc' := 146) e83 (tw10 hw) Via.refl S_LESS_OR_EQUAL at_143 rfl (fun T84 X84 e84 => ?_)
      refine b_acmp_ne B X84 (py := 161) (pn := 149) at_146 (by decide) (by decide) rfl (fun _ => ?_) (fun q => absurd q (own_ne_w_GREATER_w_LESS_OR_EQUAL F80))
      refine s_aloadN B X84 (pc' := 162) at_161 rfl rfl rfl ?_
      refine s_getS B X84 (pc' := 165) e84 (tw12 hw) Via.refl S_GREATER at_162 rfl (fun T85 X85 e85 => ?_)
      refine b_acmp_ne B X85 (py := 180) (pn := 168) at_165 (by decide) (by decide) rfl (fun q => absurd rfl q) (fun _ => ?_)
      refine s_iconst B X85 (pc' := 169) (v := (0 : Int32)) at_168 rfl rfl ?_
      refine s_istore B X85 (pc' := 171) (Ls' := #[.val (.int i0), .val (.int i1), .val (.ref o68), .val (.ref w_GREATER), .val (.int (1 : Int32)), .val (.int (0 : Int32)), .val (.int (0 : Int32)), .val (.int (0 : Int32)), .unset, .unset, .unset]) at_169 rfl rfl ?_
      refine s_iconst B X85 (pc' := 172) (v := (0 : Int32)) at_171 rfl rfl ?_
      refine s_istore B X85 (pc' := 174) (Ls' := #[.val (.int i0), .val (.int i1), .val (.ref o68), .val (.ref w_GREATER), .val (.int (1 : Int32)), .val (.int (0 : Int32)), .val (.int (0 : Int32)), .val (.int (0 : Int32)), .val (.int (0 : Int32)), .unset, .unset]) at_172 rfl rfl ?_
      refine s_iconst B X85 (pc' := 175) (v := (1 : Int32)) at_174 rfl rfl ?_
      refine s_istore B X85 (pc' := 177) (Ls' := #[.val (.int i0), .val (.int i1), .val (.ref o68), .val (.ref w_GREATER), .val (.int (1 : Int32)), .val (.int (0 : Int32)), .val (.int (0 : Int32)), .val (.int (0 : Int32)), .val (.int (0 : Int32)), .val (.int (1 : Int32)), .unset]) at_175 rfl rfl ?_
      refine s_goto B X85 (pc' := 189) at_177 (by decide) (by decide) ?_
      refine s_iload B X85 (pc' := 191) at_189 rfl rfl ?_
      refine s_ifN B X85 (pc' := 194) at_191 (by decide) rfl ?_
      refine s_iload B X85 (pc' := 196) at_194 rfl rfl ?_
      refine s_ifN B X85 (pc' := 199) at_196 (by decide) rfl ?_
      refine s_iload B X85 (pc' := 201) at_199 rfl rfl ?_
      refine s_ifY B X85 (pc' := 209) at_201 (by decide) (by decide) (by decide) ?_
      refine s_iload B X85 (pc' := 211) at_209 rfl rfl ?_
      refine s_ifY B X85 (pc' := 223) at_211 (by decide) (by decide) (by decide) ?_
      refine s_iconst B X85 (pc' := 224) (v := (0 : Int32)) at_223 rfl rfl ?_
      refine s_istore B X85 (pc' := 226) (Ls' := #[.val (.int i0), .val (.int i1), .val (.ref o68), .val (.ref w_GREATER), .val (.int (1 : Int32)), .val (.int (0 : Int32)), .val (.int (0 : Int32)), .val (.int (0 : Int32)), .val (.int (0 : Int32)), .val (.int (1 : Int32)), .val (.int (0 : Int32))]) at_224 rfl rfl ?_
      refine s_aloadN B X85 (pc' := 227) at_226 rfl rfl rfl ?_
      refine s_iloadN B X85 (pc' := 228) at_227 rfl rfl ?_
      refine p_virtual B X85 (y := mn2) (pc' := 231) (argsL := [(.int i1)]) (under := []) (W := 0) e85 (tw17 hw) (tw18 hw) (tw20 hw) (tw19 hw) (tw21 hw) (tw3 hw) (by decide) (rm1_8 l Z a0 hw i1 w_EQUAL w_NOT_EQUAL w_LESS w_LESS_OR_EQUAL w_GREATER w_GREATER_OR_EQUAL h80 F80 hA hB hE) E_GREATER (lenOf pd_1 rfl) rfl rfl (by decide) (by decide) rfl rfl (by decide) (by decide) rfl at_228 rfl (fun T86 X86 e86 => ?_)
      show Go p e below _ (T86.setTop (mkF m 231 #[.val (.int i0), .val (.int i1), .val (.ref o68), .val (.ref w_GREATER), .val (.int (1 : Int32)), .val (.int (0 : Int32)), .val (.int (0 : Int32)), .val (.int (0 : Int32)), .val (.int (0 : Int32)), .val (.int (1 : Int32)), .val (.int (0 : Int32))] [(.int (0 : Int32))]))
      refine s_iload B X86 (pc' := 233) at_231 rfl rfl ?_
      refine s_icmpN B X86 (pc' := 236) at_233 (by decide) rfl ?_
      refine s_iconst B X86 (pc' := 237) (v := (1 : Int32)) at_236 rfl rfl ?_
      refine s_goto B X86 (pc' := 241) at_237 (by decide) (by decide) ?_
      exact r_nar B X86 (t := .boolean) (by simp) rfl at_241 ⟨rfl, N80⟩ (by decide) (by decide)
    · refine s_bipush B X0 (pc' := 2) (v := (6 : Int32)) at_0 rfl rfl ?_
      refine s_newR B X0 (pc' := 5) (N := 6) (cap := 6) e0 (tw0 hw) (tw1 hw) (by decide) (by decide) (by decide) (by decide) (by decide) (by decide) at_2 rfl (fun T87 h87 o87 k87 g87 X87 e87 E87 A87 V87 => ?_)
      have ge_o87 : Z.heap.size ≤ o87 := g87 ▸ old_le (Old.start Z)
      replace A87 : Ary Z h87 o87 k87 (.object "com/example/upmob/upmob/Operator") 6 (lst [.null, .null, .null, .null, .null, .null] .null) := A87.congr (own_rep 6)
      have O87 := ((Old.start Z)).ext E87
      have F87 := OwnF.ext O87.2 F0
      show Go p e below _ (T87.setTop (mkF m 5 #[.val (.int i0), .val (.int i1), .unset, .unset, .unset, .unset, .unset, .unset, .unset, .unset, .unset] [(.ref o87)]))
      refine s_dup B X87 (pc' := 6) at_5 rfl rfl ?_
      refine s_iconst B X87 (pc' := 7) (v := (0 : Int32)) at_6 rfl rfl ?_
      obtain ⟨S_EQUAL, E_EQUAL, S_NOT_EQUAL, E_NOT_EQUAL, S_LESS, E_LESS, S_LESS_OR_EQUAL, E_LESS_OR_EQUAL, S_GREATER, E_GREATER, S_GREATER_OR_EQUAL, E_GREATER_OR_EQUAL, F_EQUAL_ordinal, F_LESS_ordinal, F_NOT_EQUAL_ordinal, F_GREATER_ordinal, F_LESS_OR_EQUAL_ordinal, F_GREATER_OR_EQUAL_ordinal⟩ := id F87
      refine s_getS B X87 (pc' := 10) e87 (tw2 hw) Via.refl S_EQUAL at_7 rfl (fun T88 X88 e88 => ?_)
      refine s_stR B X88 (pc' := 11) (jn := 0) e88 A87 rfl (Ary.sto A87 V87 (Ins.self E_EQUAL)) (by decide) (by decide) (by decide) at_10 rfl (fun T89 h89 X89 e89 W89 A89 => ?_)
      replace A89 := A89.full (show 0 < 6 by decide) (L' := [(.ref w_EQUAL), .null, .null, .null, .null, .null]) rfl
      have N89 := Fr.snoc X89 (Fr.nil _) ge_o87
      have O89 := (O87).wr W89 ge_o87
      have F89 := OwnF.ext O89.2 F0
      show Go p e below _ (T89.setTop (mkF m 11 #[.val (.int i0), .val (.int i1), .unset, .unset, .unset, .unset, .unset, .unset, .unset, .unset, .unset] [(.ref o87)]))
      refine s_dup B X89 (pc' := 12) at_11 rfl rfl ?_
      refine s_iconst B X89 (pc' := 13) (v := (1 : Int32)) at_12 rfl rfl ?_
      obtain ⟨S_EQUAL, E_EQUAL, S_NOT_EQUAL, E_NOT_EQUAL, S_LESS, E_LESS, S_LESS_OR_EQUAL, E_LESS_OR_EQUAL, S_GREATER, E_GREATER, S_GREATER_OR_EQUAL, E_GREATER_OR_EQUAL, F_EQUAL_ordinal, F_LESS_ordinal, F_NOT_EQUAL_ordinal, F_GREATER_ordinal, F_LESS_OR_EQUAL_ordinal, F_GREATER_OR_EQUAL_ordinal⟩ := id F89
      refine s_getS B X89 (pc' := 16) e89 (tw6 hw) Via.refl S_NOT_EQUAL at_13 rfl (fun T90 X90 e90 => ?_)
      refine s_stR B X90 (pc' := 17) (jn := 1) e90 A89 rfl (Ary.sto A89 V87 (Ins.self E_NOT_EQUAL)) (by decide) (by decide) (by decide) at_16 rfl (fun T91 h91 X91 e91 W91 A91 => ?_)
      replace A91 := A91.full (show 1 < 6 by decide) (L' := [(.ref w_EQUAL), (.ref w_NOT_EQUAL), .null, .null, .null, .null]) rfl
      have N91 := Fr.snoc X91 N89 ge_o87
      have O91 := (O89).wr W91 ge_o87
      have F91 := OwnF.ext O91.2 F0
      show Go p e below _ (T91.setTop (mkF m 17 #[.val (.int i0), .val (.int i1), .unset, .unset, .unset, .unset, .unset, .unset, .unset, .unset, .unset] [(.ref o87)]))
      refine s_dup B X91 (pc' := 18) at_17 rfl rfl ?_
      refine s_iconst B X91 (pc' := 19) (v := (2 : Int32)) at_18 rfl rfl ?_
      obtain ⟨S_EQUAL, E_EQUAL, S_NOT_EQUAL, E_NOT_EQUAL, S_LESS, E_LESS, S_LESS_OR_EQUAL, E_LESS_OR_EQUAL, S_GREATER, E_GREATER, S_GREATER_OR_EQUAL, E_GREATER_OR_EQUAL, F_EQUAL_ordinal, F_LESS_ordinal, F_NOT_EQUAL_ordinal, F_GREATER_ordinal, F_LESS_OR_EQUAL_ordinal, F_GREATER_OR_EQUAL_ordinal⟩ := id F91
      refine s_getS B X91 (pc' := 22) e91 (tw8 hw) Via.refl S_LESS at_19 rfl (fun T92 X92 e92 => ?_)
      refine s_stR B X92 (pc' := 23) (jn := 2) e92 A91 rfl (Ary.sto A91 V87 (Ins.self E_LESS)) (by decide) (by decide) (by decide) at_22 rfl (fun T93 h93 X93 e93 W93 A93 => ?_)
      replace A93 := A93.full (show 2 < 6 by decide) (L' := [(.ref w_EQUAL), (.ref w_NOT_EQUAL), (.ref w_LESS), .null, .null, .null]) rfl
      have N93 := Fr.snoc X93 N91 ge_o87
      have O93 := (O91).wr W93 ge_o87
      have F93 := OwnF.ext O93.2 F0
      show Go p e below _ (T93.setTop (mkF m 23 #[.val (.int i0), .val (.int i1), .unset, .unset, .unset, .unset, .unset, .unset, .unset, .unset, .unset] [(.ref o87)]))
      refine s_dup B X93 (pc' := 24) at_23 rfl rfl ?_
      refine s_iconst B X93 (pc' := 25) (v := (3 : Int32)) at_24 rfl rfl ?_
      obtain ⟨S_EQUAL, E_EQUAL, S_NOT_EQUAL, E_NOT_EQUAL, S_LESS, E_LESS, S_LESS_OR_EQUAL, E_LESS_OR_EQUAL, S_GREATER, E_GREATER, S_GREATER_OR_EQUAL, E_GREATER_OR_EQUAL, F_EQUAL_ordinal, F_LESS_ordinal, F_NOT_EQUAL_ordinal, F_GREATER_ordinal, F_LESS_OR_EQUAL_ordinal, F_GREATER_OR_EQUAL_ordinal⟩ := id F93
      refine s_getS B X93 (pc' := 28) e93 (tw10 hw) Via.refl S_LESS_OR_EQUAL at_25 rfl (fun T94 X94 e94 => ?_)
      refine s_stR B X94 (pc' := 29) (jn := 3) e94 A93 rfl (Ary.sto A93 V87 (Ins.self E_LESS_OR_EQUAL)) (by decide) (by decide) (by decide) at_28 rfl (fun T95 h95 X95 e95 W95 A95 => ?_)
      replace A95 := A95.full (show 3 < 6 by decide) (L' := [(.ref w_EQUAL), (.ref w_NOT_EQUAL), (.ref w_LESS), (.ref w_LESS_OR_EQUAL), .null, .null]) rfl
      have N95 := Fr.snoc X95 N93 ge_o87
      have O95 := (O93).wr W95 ge_o87
      have F95 := OwnF.ext O95.2 F0
      show Go p e below _ (T95.setTop (mkF m 29 #[.val (.int i0), .val (.int i1), .unset, .unset, .unset, .unset, .unset, .unset, .unset, .unset, .unset] [(.ref o87)]))
      refine s_dup B X95 (pc' := 30) at_29 rfl rfl ?_
      refine s_iconst B X95 (pc' := 31) (v := (4 : Int32)) at_30 rfl rfl ?_
      obtain ⟨S_EQUAL, E_EQUAL, S_NOT_EQUAL, E_NOT_EQUAL, S_LESS, E_LESS, S_LESS_OR_EQUAL, E_LESS_OR_EQUAL, S_GREATER, E_GREATER, S_GREATER_OR_EQUAL, E_GREATER_OR_EQUAL, F_EQUAL_ordinal, F_LESS_ordinal, F_NOT_EQUAL_ordinal, F_GREATER_ordinal, F_LESS_OR_EQUAL_ordinal, F_GREATER_OR_EQUAL_ordinal⟩ := id F95
      refine s_getS B X95 (pc' := 34) e95 (tw12 hw) Via.refl S_GREATER at_31 rfl (fun T96 X96 e96 => ?_)
      refine s_stR B X96 (pc' := 35) (jn := 4) e96 A95 rfl (Ary.sto A95 V87 (Ins.self E_GREATER)) (by decide) (by decide) (by decide) at_34 rfl (fun T97 h97 X97 e97 W97 A97 => ?_)
      replace A97 := A97.full (show 4 < 6 by decide) (L' := [(.ref w_EQUAL), (.ref w_NOT_EQUAL), (.ref w_LESS), (.ref w_LESS_OR_EQUAL), (.ref w_GREATER), .null]) rfl
      have N97 := Fr.snoc X97 N95 ge_o87
      have O97 := (O95).wr W97 ge_o87
      have F97 := OwnF.ext O97.2 F0
      show Go p e below _ (T97.setTop (mkF m 35 #[.val (.int i0), .val (.int i1), .unset, .unset, .unset, .unset, .unset, .unset, .unset, .unset, .unset] [(.ref o87)]))
      refine s_dup B X97 (pc' := 36) at_35 rfl rfl ?_
      refine s_iconst B X97 (pc' := 37) (v := (5 : Int32)) at_36 rfl rfl ?_
      obtain ⟨S_EQUAL, E_EQUAL, S_NOT_EQUAL, E_NOT_EQUAL, S_LESS, E_LESS, S_LESS_OR_EQUAL, E_LESS_OR_EQUAL, S_GREATER, E_GREATER, S_GREATER_OR_EQUAL, E_GREATER_OR_EQUAL, F_EQUAL_ordinal, F_LESS_ordinal, F_NOT_EQUAL_ordinal, F_GREATER_ordinal, F_LESS_OR_EQUAL_ordinal, F_GREATER_OR_EQUAL_ordinal⟩ := id F97
      refine s_getS B X97 (pc' := 40) e97 (tw14 hw) Via.refl S_GREATER_OR_EQUAL at_37 rfl (fun T98 X98 e98 => ?_)
      refine s_stR B X98 (pc' := 41) (jn := 5) e98 A97 rfl (Ary.sto A97 V87 (Ins.self E_GREATER_OR_EQUAL)) (by decide) (by decide) (by decide) at_40 rfl (fun T99 h99 X99 e99 W99 A99 => ?_)
      replace A99 := A99.full (show 5 < 6 by decide) (L' := [(.ref w_EQUAL), (.ref w_NOT_EQUAL), (.ref w_LESS), (.ref w_LESS_OR_EQUAL), (.ref w_GREATER), (.ref w_GREATER_OR_EQUAL)]) rfl
      have N99 := Fr.snoc X99 N97 ge_o87
      have O99 := (O97).wr W99 ge_o87
      have F99 := OwnF.ext O99.2 F0
      show Go p e below _ (T99.setTop (mkF m 41 #[.val (.int i0), .val (.int i1), .unset, .unset, .unset, .unset, .unset, .unset, .unset, .unset, .unset] [(.ref o87)]))
      refine s_astoreN B X99 (pc' := 42) (Ls' := #[.val (.int i0), .val (.int i1), .val (.ref o87), .unset, .unset, .unset, .unset, .unset, .unset, .unset, .unset]) at_41 rfl rfl rfl ?_
      refine s_aloadN B X99 (pc' := 43) at_42 rfl rfl rfl ?_
      refine s_iloadN B X99 (pc' := 44) at_43 rfl rfl ?_
      refine s_ldc B X99 (pc' := 46) (v := (2147483647 : Int32)) (tw16 hw) at_44 rfl ?_
      refine s_iand B X99 (pc' := 47) (v := (i0 &&& (2147483647 : Int32))) at_46 rfl rfl ?_
      refine s_bipush B X99 (pc' := 49) (v := (6 : Int32)) at_47 rfl rfl ?_
      refine s_irem B X99 (pc' := 50) (v := (5 : Int32)) at_49 (hv1) (by decide) rfl ?_
      refine s_ldR B X99 (pc' := 51) (jn := 5) (v := (.ref w_GREATER_OR_EQUAL)) e99 A99 rfl (by decide) (by decide) (by decide) rfl at_50 rfl ?_
      refine s_astoreN B X99 (pc' := 52) (Ls' := #[.val (.int i0), .val (.int i1), .val (.ref o87), .val (.ref w_GREATER_OR_EQUAL), .unset, .unset, .unset, .unset, .unset, .unset, .unset]) at_51 rfl rfl rfl ?_
      refine s_iloadN B X99 (pc' := 53) at_52 rfl rfl ?_
      refine b_if_ge B X99 (py := 60) (pn := 56) at_53 (by decide) (by decide) rfl (fun q => absurd hA q) (fun _ => ?_)
      refine s_iconst B X99 (pc' := 57) (v := (1 : Int32)) at_56 rfl rfl ?_
      refine s_goto B X99 (pc' := 61) at_57 (by decide) (by decide) ?_
      refine s_istore B X99 (pc' := 63) (Ls' := #[.val (.int i0), .val (.int i1), .val (.ref o87), .val (.ref w_GREATER_OR_EQUAL), .val (.int (1 : Int32)), .unset, .unset, .unset, .unset, .unset, .unset]) at_61 rfl rfl ?_
      refine s_iloadN B X99 (pc' := 64) at_63 rfl rfl ?_
      refine b_if_ne B X99 (py := 71) (pn := 67) at_64 (by decide) (by decide) rfl (fun _ => ?_) (fun q => absurd q hE)
      refine s_iconst B X99 (pc' := 72) (v := (0 : Int32)) at_71 rfl rfl ?_
      refine s_istore B X99 (pc' := 74) (Ls' := #[.val (.int i0), .val (.int i1), .val (.ref o87), .val (.ref w_GREATER_OR_EQUAL), .val (.int (1 : Int32)), .val (.int (0 : Int32)), .unset, .unset, .unset, .unset, .unset]) at_72 rfl rfl ?_
      refine s_iloadN B X99 (pc' := 75) at_74 rfl rfl ?_
      refine b_if_le B X99 (py := 82) (pn := 78) at_75 (by decide) (by decide) rfl (fun _ => ?_) (fun q => absurd q hB)
      refine s_iconst B X99 (pc' := 83) (v := (0 : Int32)) at_82 rfl rfl ?_
      refine s_istore B X99 (pc' := 85) (Ls' := #[.val (.int i0), .val (.int i1), .val (.ref o87), .val (.ref w_GREATER_OR_EQUAL), .val (.int (1 : Int32)), .val (.int (0 : Int32)), .val (.int (0 : Int32)), .unset, .unset, .unset, .unset]) at_83 rfl rfl ?_
      refine s_aloadN B X99 (pc' := 86) at_85 rfl rfl rfl ?_
      obtain ⟨S_EQUAL, E_EQUAL, S_NOT_EQUAL, E_NOT_EQUAL, S_LESS, E_LESS, S_LESS_OR_EQUAL, E_LESS_OR_EQUAL, S_GREATER, E_GREATER, S_GREATER_OR_EQUAL, E_GREATER_OR_EQUAL, F_EQUAL_ordinal, F_LESS_ordinal, F_NOT_EQUAL_ordinal, F_GREATER_ordinal, F_LESS_OR_EQUAL_ordinal, F_GREATER_OR_EQUAL_ordinal⟩ := id F99
      refine s_getS B X99 (pc' := 89) e99 (tw2 hw) Via.refl S_EQUAL at_86 rfl (fun T100 X100 e100 => ?_)
      refine b_acmp_ne B X100 (py := 104) (pn := 92) at_89 (by decide) (by decide) rfl (fun _ => ?_) (fun q => absurd q (own_ne_w_GREATER_OR_EQUAL_w_EQUAL F99))
      refine s_aloadN B X100 (pc' := 105) at_104 rfl rfl rfl ?_
      refine s_getS B X100 (pc' := 108) e100 (tw6 hw) Via.refl S_NOT_EQUAL at_105 rfl (fun T101 X101 e101 => ?_)
      refine b_acmp_ne B X101 (py := 123) (pn := 111) at_108 (by decide) (by decide) rfl (fun _ => ?_) (fun q => absurd q (own_ne_w_GREATER_OR_EQUAL_w_NOT_EQUAL F99))
      refine s_aloadN B X101 (pc' := 124) at_123 rfl rfl rfl ?_
      refine s_getS B X101 (pc' := 127) e101 (tw8 hw) Via.refl S_LESS at_124 rfl (fun T102 X102 e102 => ?_)
      refine b_acmp_ne B X102 (py := 142) (pn := 130) at_127 (by decide) (by decide) rfl (fun _ => ?_) (fun q => absurd q (own_ne_w_GREATER_OR_EQUAL_w_LESS F99))
      refine s_aloadN B X102 (pc' := 143) at_142 rfl rfl rfl ?_
      refine s_getS B X102 (pc' := 146) e102 (tw10 hw) Via.refl S_LESS_OR_EQUAL at_143 rfl (fun T103 X103 e103 => ?_)
      refine b_acmp_ne B X103 (py := 161) (pn := 149) at_146 (by decide) (by decide) rfl (fun _ => ?_) (fun q => absurd q (own_ne_w_GREATER_OR_EQUAL_w_LESS_OR_EQUAL F99))
      refine s_aloadN B X103 (pc' := 162) at_161 rfl rfl rfl ?_
      refine s_getS B X103 (pc' := 165) e103 (tw12 hw) Via.refl S_GREATER at_162 rfl (fun T104 X104 e104 => ?_)
      refine b_acmp_ne B X104 (py := 180) (pn := 168) at_165 (by decide) (by decide) rfl (fun _ => ?_) (fun q => absurd q (own_ne_w_GREATER_OR_EQUAL_w_GREATER F99))
      refine s_iconst B X104 (pc' := 181) (v := (0 : Int32)) at_180 rfl rfl ?_
      refine s_istore B X104 (pc' := 183) (Ls' := #[.val (.int i0), .val (.int i1), .val (.ref o87), .val (.ref w_GREATER_OR_EQUAL), .val (.int (1 : Int32)), .val (.int (0 : Int32)), .val (.int (0 : Int32)), .val (.int (0 : Int32)), .unset, .unset, .unset]) at_181 rfl rfl ?_
      refine s_iconst B X104 (pc' := 184) (v := (1 : Int32)) at_183 rfl rfl ?_
      refine s_istore B X104 (pc' := 186) (Ls' := #[.val (.int i0), .val (.int i1), .val (.ref o87), .val (.ref w_GREATER_OR_EQUAL), .val (.int (1 : Int32)), .val (.int (0 : Int32)), .val (.int (0 : Int32)), .val (.int (0 : Int32)), .val (.int (1 : Int32)), .unset, .unset]) at_184 rfl rfl ?_
      refine s_iconst B X104 (pc' := 187) (v := (1 : Int32)) at_186 rfl rfl ?_
      refine s_istore B X104 (pc' := 189) (Ls' := #[.val (.int i0), .val (.int i1), .val (.ref o87), .val (.ref w_GREATER_OR_EQUAL), .val (.int (1 : Int32)), .val (.int (0 : Int32)), .val (.int (0 : Int32)), .val (.int (0 : Int32)), .val (.int (1 : Int32)), .val (.int (1 : Int32)), .unset]) at_187 rfl rfl ?_
      refine s_iload B X104 (pc' := 191) at_189 rfl rfl ?_
      refine s_ifN B X104 (pc' := 194) at_191 (by decide) rfl ?_
      refine s_iload B X104 (pc' := 196) at_194 rfl rfl ?_
      refine s_ifN B X104 (pc' := 199) at_196 (by decide) rfl ?_
      refine s_iload B X104 (pc' := 201) at_199 rfl rfl ?_
      refine s_ifY B X104 (pc' := 209) at_201 (by decide) (by decide) (by decide) ?_
      refine s_iload B X104 (pc' := 211) at_209 rfl rfl ?_
      refine s_ifY B X104 (pc' := 223) at_211 (by decide) (by decide) (by decide) ?_
      refine s_iconst B X104 (pc' := 224) (v := (0 : Int32)) at_223 rfl rfl ?_
      refine s_istore B X104 (pc' := 226) (Ls' := #[.val (.int i0), .val (.int i1), .val (.ref o87), .val (.ref w_GREATER_OR_EQUAL), .val (.int (1 : Int32)), .val (.int (0 : Int32)), .val (.int (0 : Int32)), .val (.int (0 : Int32)), .val (.int (1 : Int32)), .val (.int (1 : Int32)), .val (.int (0 : Int32))]) at_224 rfl rfl ?_
      refine s_aloadN B X104 (pc' := 227) at_226 rfl rfl rfl ?_
      refine s_iloadN B X104 (pc' := 228) at_227 rfl rfl ?_
      refine p_virtual B X104 (y := mn2) (pc' := 231) (argsL := [(.int i1)]) (under := []) (W := 0) e104 (tw17 hw) (tw18 hw) (tw20 hw) (tw19 hw) (tw21 hw) (tw3 hw) (by decide) (rm1_10 l Z a0 hw i1 w_EQUAL w_NOT_EQUAL w_LESS w_LESS_OR_EQUAL w_GREATER w_GREATER_OR_EQUAL h99 F99 hA hB hE) E_GREATER_OR_EQUAL (lenOf pd_1 rfl) rfl rfl (by decide) (by decide) rfl rfl (by decide) (by decide) rfl at_228 rfl (fun T105 X105 e105 => ?_)
      show Go p e below _ (T105.setTop (mkF m 231 #[.val (.int i0), .val (.int i1), .val (.ref o87), .val (.ref w_GREATER_OR_EQUAL), .val (.int (1 : Int32)), .val (.int (0 : Int32)), .val (.int (0 : Int32)), .val (.int (0 : Int32)), .val (.int (1 : Int32)), .val (.int (1 : Int32)), .val (.int (0 : Int32))] [(.int (0 : Int32))]))
      refine s_iload B X105 (pc' := 233) at_231 rfl rfl ?_
      refine s_icmpN B X105 (pc' := 236) at_233 (by decide) rfl ?_
      refine s_iconst B X105 (pc' := 237) (v := (1 : Int32)) at_236 rfl rfl ?_
      refine s_goto B X105 (pc' := 241) at_237 (by decide) (by decide) ?_
      exact r_nar B X105 (t := .boolean) (by simp) rfl at_241 ⟨rfl, N99⟩ (by decide) (by decide)
  · rcases own_rem6 i0 with hv106 | hv106 | hv106 | hv106 | hv106 | hv106
    · refine s_bipush B X0 (pc' := 2) (v := (6 : Int32)) at_0 rfl rfl ?_
      refine s_newR B X0 (pc' := 5) (N := 6) (cap := 6) e0 (tw0 hw) (tw1 hw) (by decide) (by decide) (by decide) (by decide) (by decide) (by decide) at_2 rfl (fun T107 h107 o107 k107 g107 X107 e107 E107 A107 V107 => ?_)
      have ge_o107 : Z.heap.size ≤ o107 := g107 ▸ old_le (Old.start Z)
      replace A107 : Ary Z h107 o107 k107 (.object "com/example/upmob/upmob/Operator") 6 (lst [.null, .null, .null, .null, .null, .null] .null) := A107.congr (own_rep 6)
      have O107 := ((Old.start Z)).ext E107
      have F107 := OwnF.ext O107.2 F0
      show Go p e below _ (T107.setTop (mkF m 5 #[.val (.int i0), .val (.int i1), .unset, .unset, .unset, .unset, .unset, .unset, .unset, .unset, .unset] [(.ref o107)]))
      refine s_dup B X107 (pc' := 6) at_5 rfl rfl ?_
      refine s_iconst B X107 (pc' := 7) (v := (0 : Int32)) at_6 rfl rfl ?_
      obtain ⟨S_EQUAL, E_EQUAL, S_NOT_EQUAL, E_NOT_EQUAL, S_LESS, E_LESS, S_LESS_OR_EQUAL, E_LESS_OR_EQUAL, S_GREATER, E_GREATER, S_GREATER_OR_EQUAL, E_GREATER_OR_EQUAL, F_EQUAL_ordinal, F_LESS_ordinal, F_NOT_EQUAL_ordinal, F_GREATER_ordinal, F_LESS_OR_EQUAL_ordinal, F_GREATER_OR_EQUAL_ordinal⟩ := id F107
      refine s_getS B X107 (pc' := 10) e107 (tw2 hw) Via.refl S_EQUAL at_7 rfl (fun T108 X108 e108 => ?_)
      refine s_stR B X108 (pc' := 11) (jn := 0) e108 A107 rfl (Ary.sto A107 V107 (Ins.self E_EQUAL)) (by decide) (by decide) (by decide) at_10 rfl (fun T109 h109 X109 e109 W109 A109 => ?_)
      replace A109 := A109.full (show 0 < 6 by decide) (L' := [(.ref w_EQUAL), .null, .null, .null, .null, .null]) rfl
      have N109 := Fr.snoc X109 (Fr.nil _) ge_o107
      have O109 := (O107).wr W109 ge_o107
      have F109 := OwnF.ext O109.2 F0
      show Go p e below _ (T109.setTop (mkF m 11 #[.val (.int i0), .val (.int i1), .unset, .unset, .unset, .unset, .unset, .unset, .unset, .unset, .unset] [(.ref o107)]))
      refine s_dup B X109 (pc' := 12) at_11 rfl rfl ?_
      refine s_iconst B X109 (pc' := 13) (v := (1 : Int32)) at_12 rfl rfl ?_
      obtain ⟨S_EQUAL, E_EQUAL, S_NOT_EQUAL, E_NOT_EQUAL, S_LESS, E_LESS, S_LESS_OR_EQUAL, E_LESS_OR_EQUAL, S_GREATER, E_GREATER, S_GREATER_OR_EQUAL, E_GREATER_OR_EQUAL, F_EQUAL_ordinal, F_LESS_ordinal, F_NOT_EQUAL_ordinal, F_GREATER_ordinal, F_LESS_OR_EQUAL_ordinal, F_GREATER_OR_EQUAL_ordinal⟩ := id F109
      refine s_getS B X109 (pc' := 16) e109 (tw6 hw) Via.refl S_NOT_EQUAL at_13 rfl (fun T110 X110 e110 => ?_)
      refine s_stR B X110 (pc' := 17) (jn := 1) e110 A109 rfl (Ary.sto A109 V107 (Ins.self E_NOT_EQUAL)) (by decide) (by decide) (by decide) at_16 rfl (fun T111 h111 X111 e111 W111 A111 => ?_)
      replace A111 := A111.full (show 1 < 6 by decide) (L' := [(.ref w_EQUAL), (.ref w_NOT_EQUAL), .null, .null, .null, .null]) rfl
      have N111 := Fr.snoc X111 N109 ge_o107
      have O111 := (O109).wr W111 ge_o107
      have F111 := OwnF.ext O111.2 F0
      show Go p e below _ (T111.setTop (mkF m 17 #[.val (.int i0), .val (.int i1), .unset, .unset, .unset, .unset, .unset, .unset, .unset, .unset, .unset] [(.ref o107)]))
      refine s_dup B X111 (pc' := 18) at_17 rfl rfl ?_
      refine s_iconst B X111 (pc' := 19) (v := (2 : Int32)) at_18 rfl rfl ?_
      obtain ⟨S_EQUAL, E_EQUAL, S_NOT_EQUAL, E_NOT_EQUAL, S_LESS, E_LESS, S_LESS_OR_EQUAL, E_LESS_OR_EQUAL, S_GREATER, E_GREATER, S_GREATER_OR_EQUAL, E_GREATER_OR_EQUAL, F_EQUAL_ordinal, F_LESS_ordinal, F_NOT_EQUAL_ordinal, F_GREATER_ordinal, F_LESS_OR_EQUAL_ordinal, F_GREATER_OR_EQUAL_ordinal⟩ := id F111
      refine s_getS B X111 (pc' := 22) e111 (tw8 hw) Via.refl S_LESS at_19 rfl (fun T112 X112 e112 => ?_)
      refine s_stR B X112 (pc' := 23) (jn := 2) e112 A111 rfl (Ary.sto A111 V107 (Ins.self E_LESS)) (by decide) (by decide) (by decide) at_22 rfl (fun T113 h113 X113 e113 W113 A113 => ?_)
      replace A113 := A113.full (show 2 < 6 by decide) (L' := [(.ref w_EQUAL), (.ref w_NOT_EQUAL), (.ref w_LESS), .null, .null, .null]) rfl
      have N113 := Fr.snoc X113 N111 ge_o107
      have O113 := (O111).wr W113 ge_o107
      have F113 := OwnF.ext O113.2 F0
      show Go p e below _ (T113.setTop (mkF m 23 #[.val (.int i0), .val (.int i1), .unset, .unset, .unset, .unset, .unset, .unset, .unset, .unset, .unset] [(.ref o107)]))
      refine s_dup B X113 (pc' := 24) at_23 rfl rfl ?_
      refine s_iconst B X113 (pc' := 25) (v := (3 : Int32)) at_24 rfl rfl ?_
      obtain ⟨S_EQUAL, E_EQUAL, S_NOT_EQUAL, E_NOT_EQUAL, S_LESS, E_LESS, S_LESS_OR_EQUAL, E_LESS_OR_EQUAL, S_GREATER, E_GREATER, S_GREATER_OR_EQUAL, E_GREATER_OR_EQUAL, F_EQUAL_ordinal, F_LESS_ordinal, F_NOT_EQUAL_ordinal, F_GREATER_ordinal, F_LESS_OR_EQUAL_ordinal, F_GREATER_OR_EQUAL_ordinal⟩ := id F113
      refine s_getS B X113 (pc' := 28) e113 (tw10 hw) Via.refl S_LESS_OR_EQUAL at_25 rfl (fun T114 X114 e114 => ?_)
      refine s_stR B X114 (pc' := 29) (jn := 3) e114 A113 rfl (Ary.sto A113 V107 (Ins.self E_LESS_OR_EQUAL)) (by decide) (by decide) (by decide) at_28 rfl (fun T115 h115 X115 e115 W115 A115 => ?_)
      replace A115 := A115.full (show 3 < 6 by decide) (L' := [(.ref w_EQUAL), (.ref w_NOT_EQUAL), (.ref w_LESS), (.ref w_LESS_OR_EQUAL), .null, .null]) rfl
      have N115 := Fr.snoc X115 N113 ge_o107
      have O115 := (O113).wr W115 ge_o107
      have F115 := OwnF.ext O115.2 F0
      show Go p e below _ (T115.setTop (mkF m 29 #[.val (.int i0), .val (.int i1), .unset, .unset, .unset, .unset, .unset, .unset, .unset, .unset, .unset] [(.ref o107)]))
      refine s_dup B X115 (pc' := 30) at_29 rfl rfl ?_
      refine s_iconst B X115 (pc' := 31) (v := (4 : Int32)) at_30 rfl rfl ?_
      obtain ⟨S_EQUAL, E_EQUAL, S_NOT_EQUAL, E_NOT_EQUAL, S_LESS, E_LESS, S_LESS_OR_EQUAL, E_LESS_OR_EQUAL, S_GREATER, E_GREATER, S_GREATER_OR_EQUAL, E_GREATER_OR_EQUAL, F_EQUAL_ordinal, F_LESS_ordinal, F_NOT_EQUAL_ordinal, F_GREATER_ordinal, F_LESS_OR_EQUAL_ordinal, F_GREATER_OR_EQUAL_ordinal⟩ := id F115
      refine s_getS B X115 (pc' := 34) e115 (tw12 hw) Via.refl S_GREATER at_31 rfl (fun T116 X116 e116 => ?_)
      refine s_stR B X116 (pc' := 35) (jn := 4) e116 A115 rfl (Ary.sto A115 V107 (Ins.self E_GREATER)) (by decide) (by decide) (by decide) at_34 rfl (fun T117 h117 X117 e117 W117 A117 => ?_)
      replace A117 := A117.full (show 4 < 6 by decide) (L' := [(.ref w_EQUAL), (.ref w_NOT_EQUAL), (.ref w_LESS), (.ref w_LESS_OR_EQUAL), (.ref w_GREATER), .null]) rfl
      have N117 := Fr.snoc X117 N115 ge_o107
      have O117 := (O115).wr W117 ge_o107
      have F117 := OwnF.ext O117.2 F0
      show Go p e below _ (T117.setTop (mkF m 35 #[.val (.int i0), .val (.int i1), .unset, .unset, .unset, .unset, .unset, .unset, .unset, .unset, .unset] [(.ref o107)]))
      refine s_dup B X117 (pc' := 36) at_35 rfl rfl ?_
      refine s_iconst B X117 (pc' := 37) (v := (5 : Int32)) at_36 rfl rfl ?_
      obtain ⟨S_EQUAL, E_EQUAL, S_NOT_EQUAL, E_NOT_EQUAL, S_LESS, E_LESS, S_LESS_OR_EQUAL, E_LESS_OR_EQUAL, S_GREATER, E_GREATER, S_GREATER_OR_EQUAL, E_GREATER_OR_EQUAL, F_EQUAL_ordinal, F_LESS_ordinal, F_NOT_EQUAL_ordinal, F_GREATER_ordinal, F_LESS_OR_EQUAL_ordinal, F_GREATER_OR_EQUAL_ordinal⟩ := id F117
      refine s_getS B X117 (pc' := 40) e117 (tw14 hw) Via.refl S_GREATER_OR_EQUAL at_37 rfl (fun T118 X118 e118 => ?_)
      refine s_stR B X118 (pc' := 41) (jn := 5) e118 A117 rfl (Ary.sto A117 V107 (Ins.self E_GREATER_OR_EQUAL)) (by decide) (by decide) (by decide) at_40 rfl (fun T119 h119 X119 e119 W119 A119 => ?_)
      replace A119 := A119.full (show 5 < 6 by decide) (L' := [(.ref w_EQUAL), (.ref w_NOT_EQUAL), (.ref w_LESS), (.ref w_LESS_OR_EQUAL), (.ref w_GREATER), (.ref w_GREATER_OR_EQUAL)]) rfl
      have N119 := Fr.snoc X119 N117 ge_o107
      have O119 := (O117).wr W119 ge_o107
      have F119 := OwnF.ext O119.2 F0
      show Go p e below _ (T119.setTop (mkF m 41 #[.val (.int i0), .val (.int i1), .unset, .unset, .unset, .unset, .unset, .unset, .unset, .unset, .unset] [(.ref o107)]))
      refine s_astoreN B X119 (pc' := 42) (Ls' := #[.val (.int i0), .val (.int i1), .val (.ref o107), .unset, .unset, .unset, .unset, .unset, .unset, .unset, .unset]) at_41 rfl rfl rfl ?_
      refine s_aloadN B X119 (pc' := 43) at_42 rfl rfl rfl ?_
      refine s_iloadN B X119 (pc' := 44) at_43 rfl rfl ?_
      refine s_ldc B X119 (pc' := 46) (v := (2147483647 : Int32)) (tw16 hw) at_44 rfl ?_
      refine s_iand B X119 (pc' := 47) (v := (i0 &&& (2147483647 : Int32))) at_46 rfl rfl ?_
      refine s_bipush B X119 (pc' := 49) (v := (6 : Int32)) at_47 rfl rfl ?_
      refine s_irem B X119 (pc' := 50) (v := (0 : Int32)) at_49 (hv106) (by decide) rfl ?_
      refine s_ldR B X119 (pc' := 51) (jn := 0) (v := (.ref w_EQUAL)) e119 A119 rfl (by decide) (by decide) (by decide) rfl at_50 rfl ?_
      refine s_astoreN B X119 (pc' := 52) (Ls' := #[.val (.int i0), .val (.int i1), .val (.ref o107), .val (.ref w_EQUAL), .unset, .unset, .unset, .unset, .unset, .unset, .unset]) at_51 rfl rfl rfl ?_
      refine s_iloadN B X119 (pc' := 53) at_52 rfl rfl ?_
      refine b_if_ge B X119 (py := 60) (pn := 56) at_53 (by decide) (by decide) rfl (fun _ => ?_) (fun q => absurd q hA)
      refine s_iconst B X119 (pc' := 61) (v := (0 : Int32)) at_60 rfl rfl ?_
      refine s_istore B X119 (pc' := 63) (Ls' := #[.val (.int i0), .val (.int i1), .val (.ref o107), .val (.ref w_EQUAL), .val (.int (0 : Int32)), .unset, .unset, .unset, .unset, .unset, .unset]) at_61 rfl rfl ?_
      refine s_iloadN B X119 (pc' := 64) at_63 rfl rfl ?_
      refine b_if_ne B X119 (py := 71) (pn := 67) at_64 (by decide) (by decide) rfl (fun q => absurd hE q) (fun _ => ?_)
      refine s_iconst B X119 (pc' := 68) (v := (1 : Int32)) at_67 rfl rfl ?_
      refine s_goto B X119 (pc' := 72) at_68 (by decide) (by decide) ?_
      refine s_istore B X119 (pc' := 74) (Ls' := #[.val (.int i0), .val (.int i1), .val (.ref o107), .val (.ref w_EQUAL), .val (.int (0 : Int32)), .val (.int (1 : Int32)), .unset, .unset, .unset, .unset, .unset]) at_72 rfl rfl ?_
      refine s_iloadN B X119 (pc' := 75) at_74 rfl rfl ?_
      refine b_if_le B X119 (py := 82) (pn := 78) at_75 (by decide) (by decide) rfl (fun _ => ?_) (fun q => absurd q hB)
      refine s_iconst B X119 (pc' := 83) (v := (0 : Int32)) at_82 rfl rfl ?_
      refine s_istore B X119 (pc' := 85) (Ls' := #[.val (.int i0), .val (.int i1), .val (.ref o107), .val (.ref w_EQUAL), .val (.int (0 : Int32)), .val (.int (1 : Int32)), .val (.int (0 : Int32)), .unset, .unset, .unset, .unset]) at_83 rfl rfl ?_
      refine s_aloadN B X119 (pc' := 86) at_85 rfl rfl rfl ?_
      obtain ⟨S_EQUAL, E_EQUAL, S_NOT_EQUAL, E_NOT_EQUAL, S_LESS, E_LESS, S_LESS_OR_EQUAL, E_LESS_OR_EQUAL, S_GREATER, E_GREATER, S_GREATER_OR_EQUAL, E_GREATER_OR_EQUAL, F_EQUAL_ordinal, F_LESS_ordinal, F_NOT_EQUAL_ordinal, F_GREATER_ordinal, F_LESS_OR_EQUAL_ordinal, F_GREATER_OR_EQUAL_ordinal⟩ := id F119
      refine s_getS B X119 (pc' := 89) e119 (tw2 hw) Via.refl S_EQUAL at_86 rfl (fun T120 X120 e120 => ?_)
      refine b_acmp_ne B X120 (py := 104) (pn := 92) at_89 (by decide) (by decide) rfl (fun q => absurd rfl q) (fun _ => ?_)
      refine s_iconst B X120 (pc' := 93) (v := (0 : Int32)) at_92 rfl rfl ?_
      refine s_istore B X120 (pc' := 95) (Ls' := #[.val (.int i0), .val (.int i1), .val (.ref o107), .val (.ref w_EQUAL), .val (.int (0 : Int32)), .val (.int (1 : Int32)), .val (.int (0 : Int32)), .val (.int (0 : Int32)), .unset, .unset, .unset]) at_93 rfl rfl ?_
      refine s_iconst B X120 (pc' := 96) (v := (1 : Int32)) at_95 rfl rfl ?_
      refine s_istore B X120 (pc' := 98) (Ls' := #[.val (.int i0), .val (.int i1), .val (.ref o107), .val (.ref w_EQUAL), .val (.int (0 : Int32)), .val (.int (1 : Int32)), .val (.int (0 : Int32)), .val (.int (0 : Int32)), .val (.int (1 : Int32)), .unset, .unset]) at_96 rfl rfl ?_
      refine s_iconst B X120 (pc' := 99) (v := (0 : Int32)) at_98 rfl rfl ?_
      refine s_istore B X120 (pc' := 101) (Ls' := #[.val (.int i0), .val (.int i1), .val (.ref o107), .val (.ref w_EQUAL), .val (.int (0 : Int32)), .val (.int (1 : Int32)), .val (.int (0 : Int32)), .val (.int (0 : Int32)), .val (.int (1 : Int32)), .val (.int (0 : Int32)), .unset]) at_99 rfl rfl ?_
      refine s_goto B X120 (pc' := 189) at_101 (by decide) (by decide) ?_
      refine s_iload B X120 (pc' := 191) at_189 rfl rfl ?_
      refine s_ifY B X120 (pc' := 199) at_191 (by decide) (by decide) (by decide) ?_
      refine s_iload B X120 (pc' := 201) at_199 rfl rfl ?_
      refine s_ifN B X120 (pc' := 204) at_201 (by decide) rfl ?_
      refine s_iload B X120 (pc' := 206) at_204 rfl rfl ?_
      refine s_ifY B X120 (pc' := 219) at_206 (by decide) (by decide) (by decide) ?_
      refine s_iconst B X120 (pc' := 220) (v := (1 : Int32)) at_219 rfl rfl ?_
      refine s_goto B X120 (pc' := 224) at_220 (by decide) (by decide) ?_
      refine s_istore B X120 (pc' := 226) (Ls' := #[.val (.int i0), .val (.int i1), .val (.ref o107), .val (.ref w_EQUAL), .val (.int (0 : Int32)), .val (.int (1 : Int32)), .val (.int (0 : Int32)), .val (.int (0 : Int32)), .val (.int (1 : Int32)), .val (.int (0 : Int32)), .val (.int (1 : Int32))]) at_224 rfl rfl ?_
      refine s_aloadN B X120 (pc' := 227) at_226 rfl rfl rfl ?_
      refine s_iloadN B X120 (pc' := 228) at_227 rfl rfl ?_
      refine p_virtual B X120 (y := mn2) (pc' := 231) (argsL := [(.int i1)]) (under := []) (W := 0) e120 (tw17 hw) (tw18 hw) (tw20 hw) (tw19 hw) (tw21 hw) (tw3 hw) (by decide) (rm1_12 l Z a0 hw i1 w_EQUAL w_NOT_EQUAL w_LESS w_LESS_OR_EQUAL w_GREATER w_GREATER_OR_EQUAL h119 F119 hA hB hE) E_EQUAL (lenOf pd_1 rfl) rfl rfl (by decide) (by decide) rfl rfl (by decide) (by decide) rfl at_228 rfl (fun T121 X121 e121 => ?_)
      show Go p e below _ (T121.setTop (mkF m 231 #[.val (.int i0), .val (.int i1), .val (.ref o107), .val (.ref w_EQUAL), .val (.int (0 : Int32)), .val (.int (1 : Int32)), .val (.int (0 : Int32)), .val (.int (0 : Int32)), .val (.int (1 : Int32)), .val (.int (0 : Int32)), .val (.int (1 : Int32))] [(.int (1 : Int32))]))
      refine s_iload B X121 (pc' := 233) at_231 rfl rfl ?_
      refine s_icmpN B X121 (pc' := 236) at_233 (by decide) rfl ?_
      refine s_iconst B X121 (pc' := 237) (v := (1 : Int32)) at_236 rfl rfl ?_
      refine s_goto B X121 (pc' := 241) at_237 (by decide) (by decide) ?_
      exact r_nar B X121 (t := .boolean) (by simp) rfl at_241 ⟨rfl, N119⟩ (by decide) (by decide)
    · refine s_bipush B X0 (pc' := 2) (v := (6 : Int32)) at_0 rfl rfl ?_
      refine s_newR B X0 (pc' := 5) (N := 6) (cap := 6) e0 (tw0 hw) (tw1 hw) (by decide) (by decide) (by decide) (by decide) (by decide) (by decide) at_2 rfl (fun T122 h122 o122 k122 g122 X122 e122 E122 A122 V122 => ?_)
      have ge_o122 : Z.heap.size ≤ o122 := g122 ▸ old_le (Old.start Z)
      replace A122 : Ary Z h122 o122 k122 (.object "com/example/upmob/upmob/Operator") 6 (lst [.null, .null, .null, .null, .null, .null] .null) := A122.congr (own_rep 6)
      have O122 := ((Old.start Z)).ext E122
      have F122 := OwnF.ext O122.2 F0
      show Go p e below _ (T122.setTop (mkF m 5 #[.val (.int i0), .val (.int i1), .unset, .unset, .unset, .unset, .unset, .unset, .unset, .unset, .unset] [(.ref o122)]))
      refine s_dup B X122 (pc' := 6) at_5 rfl rfl ?_
      refine s_iconst B X122 (pc' := 7) (v := (0 : Int32)) at_6 rfl rfl ?_
      obtain ⟨S_EQUAL, E_EQUAL, S_NOT_EQUAL, E_NOT_EQUAL, S_LESS, E_LESS, S_LESS_OR_EQUAL, E_LESS_OR_EQUAL, S_GREATER, E_GREATER, S_GREATER_OR_EQUAL, E_GREATER_OR_EQUAL, F_EQUAL_ordinal, F_LESS_ordinal, F_NOT_EQUAL_ordinal, F_GREATER_ordinal, F_LESS_OR_EQUAL_ordinal, F_GREATER_OR_EQUAL_ordinal⟩ := id F122
      refine s_getS B X122 (pc' := 10) e122 (tw2 hw) Via.refl S_EQUAL at_7 rfl (fun T123 X123 e123 => ?_)
      refine s_stR B X123 (pc' := 11) (jn := 0) e123 A122 rfl (Ary.sto A122 V122 (Ins.self E_EQUAL)) (by decide) (by decide) (by decide) at_10 rfl (fun T124 h124 X124 e124 W124 A124 => ?_)
      replace A124 := A124.full (show 0 < 6 by decide) (L' := [(.ref w_EQUAL), .null, .null, .null, .null, .null]) rfl
      have N124 := Fr.snoc X124 (Fr.nil _) ge_o122
      have O124 := (O122).wr W124 ge_o122
      have F124 := OwnF.ext O124.2 F0
      show Go p e below _ (T124.setTop (mkF m 11 #[.val (.int i0), .val (.int i1), .unset, .unset, .unset, .unset, .unset, .unset, .unset, .unset, .unset] [(.ref o122)]))
      refine s_dup B X124 (pc' := 12) at_11 rfl rfl ?_
      refine s_iconst B X124 (pc' := 13) (v := (1 : Int32)) at_12 rfl rfl ?_
      obtain ⟨S_EQUAL, E_EQUAL, S_NOT_EQUAL, E_NOT_EQUAL, S_LESS, E_LESS, S_LESS_OR_EQUAL, E_LESS_OR_EQUAL, S_GREATER, E_GREATER, S_GREATER_OR_EQUAL, E_GREATER_OR_EQUAL, F_EQUAL_ordinal, F_LESS_ordinal, F_NOT_EQUAL_ordinal, F_GREATER_ordinal, F_LESS_OR_EQUAL_ordinal, F_GREATER_OR_EQUAL_ordinal⟩ := id F124
      refine s_getS B X124 (pc' := 16) e124 (tw6 hw) Via.refl S_NOT_EQUAL at_13 rfl (fun T125 X125 e125 => ?_)
      refine s_stR B X125 (pc' := 17) (jn := 1) e125 A124 rfl (Ary.sto A124 V122 (Ins.self E_NOT_EQUAL)) (by decide) (by decide) (by decide) at_16 rfl (fun T126 h126 X126 e126 W126 A126 => ?_)
      replace A126 := A126.full (show 1 < 6 by decide) (L' := [(.ref w_EQUAL), (.ref w_NOT_EQUAL), .null, .null, .null, .null]) rfl
      have N126 := Fr.snoc X126 N124 ge_o122
      have O126 := (O124).wr W126 ge_o122
      have F126 := OwnF.ext O126.2 F0
      show Go p e below _ (T126.setTop (mkF m 17 #[.val (.int i0), .val (.int i1), .unset, .unset, .unset, .unset, .unset, .unset, .unset, .unset, .unset] [(.ref o122)]))
      refine s_dup B X126 (pc' := 18) at_17 rfl rfl ?_
      refine s_iconst B X126 (pc' := 19) (v := (2 : Int32)) at_18 rfl rfl ?_
      obtain ⟨S_EQUAL, E_EQUAL, S_NOT_EQUAL, E_NOT_EQUAL, S_LESS, E_LESS, S_LESS_OR_EQUAL, E_LESS_OR_EQUAL, S_GREATER, E_GREATER, S_GREATER_OR_EQUAL, E_GREATER_OR_EQUAL, F_EQUAL_ordinal, F_LESS_ordinal, F_NOT_EQUAL_ordinal, F_GREATER_ordinal, F_LESS_OR_EQUAL_ordinal, F_GREATER_OR_EQUAL_ordinal⟩ := id F126
      refine s_getS B X126 (pc' := 22) e126 (tw8 hw) Via.refl S_LESS at_19 rfl (fun T127 X127 e127 => ?_)
      refine s_stR B X127 (pc' := 23) (jn := 2) e127 A126 rfl (Ary.sto A126 V122 (Ins.self E_LESS)) (by decide) (by decide) (by decide) at_22 rfl (fun T128 h128 X128 e128 W128 A128 => ?_)
      replace A128 := A128.full (show 2 < 6 by decide) (L' := [(.ref w_EQUAL), (.ref w_NOT_EQUAL), (.ref w_LESS), .null, .null, .null]) rfl
      have N128 := Fr.snoc X128 N126 ge_o122
      have O128 := (O126).wr W128 ge_o122
      have F128 := OwnF.ext O128.2 F0
      show Go p e below _ (T128.setTop (mkF m 23 #[.val (.int i0), .val (.int i1), .unset, .unset, .unset, .unset, .unset, .unset, .unset, .unset, .unset] [(.ref o122)]))
      refine s_dup B X128 (pc' := 24) at_23 rfl rfl ?_
      refine s_iconst B X128 (pc' := 25) (v := (3 : Int32)) at_24 rfl rfl ?_
      obtain ⟨S_EQUAL, E_EQUAL, S_NOT_EQUAL, E_NOT_EQUAL, S_LESS, E_LESS, S_LESS_OR_EQUAL, E_LESS_OR_EQUAL, S_GREATER, E_GREATER, S_GREATER_OR_EQUAL, E_GREATER_OR_EQUAL, F_EQUAL_ordinal, F_LESS_ordinal, F_NOT_EQUAL_ordinal, F_GREATER_ordinal, F_LESS_OR_EQUAL_ordinal, F_GREATER_OR_EQUAL_ordinal⟩ := id F128
      refine s_getS B X128 (pc' := 28) e128 (tw10 hw) Via.refl S_LESS_OR_EQUAL at_25 rfl (fun T129 X129 e129 => ?_)
      refine s_stR B X129 (pc' := 29) (jn := 3) e129 A128 rfl (Ary.sto A128 V122 (Ins.self E_LESS_OR_EQUAL)) (by decide) (by decide) (by decide) at_28 rfl (fun T130 h130 X130 e130 W130 A130 => ?_)
      replace A130 := A130.full (show 3 < 6 by decide) (L' := [(.ref w_EQUAL), (.ref w_NOT_EQUAL), (.ref w_LESS), (.ref w_LESS_OR_EQUAL), .null, .null]) rfl
      have N130 := Fr.snoc X130 N128 ge_o122
      have O130 := (O128).wr W130 ge_o122
      have F130 := OwnF.ext O130.2 F0
      show Go p e below _ (T130.setTop (mkF m 29 #[.val (.int i0), .val (.int i1), .unset, .unset, .unset, .unset, .unset, .unset, .unset, .unset, .unset] [(.ref o122)]))
      refine s_dup B X130 (pc' := 30) at_29 rfl rfl ?_
      refine s_iconst B X130 (pc' := 31) (v := (4 : Int32)) at_30 rfl rfl ?_
      obtain ⟨S_EQUAL, E_EQUAL, S_NOT_EQUAL, E_NOT_EQUAL, S_LESS, E_LESS, S_LESS_OR_EQUAL, E_LESS_OR_EQUAL, S_GREATER, E_GREATER, S_GREATER_OR_EQUAL, E_GREATER_OR_EQUAL, F_EQUAL_ordinal, F_LESS_ordinal, F_NOT_EQUAL_ordinal, F_GREATER_ordinal, F_LESS_OR_EQUAL_ordinal, F_GREATER_OR_EQUAL_ordinal⟩ := id F130
      refine s_getS B X130 (pc' := 34) e130 (tw12 hw) Via.refl S_GREATER at_31 rfl (fun T131 X131 e131 => ?_)
      refine s_stR B X131 (pc' := 35) (jn := 4) e131 A130 rfl (Ary.sto A130 V122 (Ins.self E_GREATER)) (by decide) (by decide) (by decide) at_34 rfl (fun T132 h132 X132 e132 W132 A132 => ?_)
      replace A132 := A132.full (show 4 < 6 by decide) (L' := [(.ref w_EQUAL), (.ref w_NOT_EQUAL), (.ref w_LESS), (.ref w_LESS_OR_EQUAL), (.ref w_GREATER), .null]) rfl
      have N132 := Fr.snoc X132 N130 ge_o122
      have O132 := (O130).wr W132 ge_o122
      have F132 := OwnF.ext O132.2 F0
      show Go p e below _ (T132.setTop (mkF m 35 #[.val (.int i0), .val (.int i1), .unset, .unset, .unset, .unset, .unset, .unset, .unset, .unset, .unset] [(.ref o122)]))
      refine s_dup B X132 (pc' := 36) at_35 rfl rfl ?_
      refine s_iconst B X132 (pc' := 37) (v := (5 : Int32)) at_36 rfl rfl ?_
      obtain ⟨S_EQUAL, E_EQUAL, S_NOT_EQUAL, E_NOT_EQUAL, S_LESS, E_LESS, S_LESS_OR_EQUAL, E_LESS_OR_EQUAL, S_GREATER, E_GREATER, S_GREATER_OR_EQUAL, E_GREATER_OR_EQUAL, F_EQUAL_ordinal, F_LESS_ordinal, F_NOT_EQUAL_ordinal, F_GREATER_ordinal, F_LESS_OR_EQUAL_ordinal, F_GREATER_OR_EQUAL_ordinal⟩ := id F132
      refine s_getS B X132 (pc' := 40) e132 (tw14 hw) Via.refl S_GREATER_OR_EQUAL at_37 rfl (fun T133 X133 e133 => ?_)
      refine s_stR B X133 (pc' := 41) (jn := 5) e133 A132 rfl (Ary.sto A132 V122 (Ins.self E_GREATER_OR_EQUAL)) (by decide) (by decide) (by decide) at_40 rfl (fun T134 h134 X134 e134 W134 A134 => ?_)
      replace A134 := A134.full (show 5 < 6 by decide) (L' := [(.ref w_EQUAL), (.ref w_NOT_EQUAL), (.ref w_LESS), (.ref w_LESS_OR_EQUAL), (.ref w_GREATER), (.ref w_GREATER_OR_EQUAL)]) rfl
      have N134 := Fr.snoc X134 N132 ge_o122
      have O134 := (O132).wr W134 ge_o122
      have F134 := OwnF.ext O134.2 F0
      show Go p e below _ (T134.setTop (mkF m 41 #[.val (.int i0), .val (.int i1), .unset, .unset, .unset, .unset, .unset, .unset, .unset, .unset, .unset] [(.ref o122)]))
      refine s_astoreN B X134 (pc' := 42) (Ls' := #[.val (.int i0), .val (.int i1), .val (.ref o122), .unset, .unset, .unset, .unset, .unset, .unset, .unset, .unset]) at_41 rfl rfl rfl ?_
      refine s_aloadN B X134 (pc' := 43) at_42 rfl rfl rfl ?_
      refine s_iloadN B X134 (pc' := 44) at_43 rfl rfl ?_
      refine s_ldc B X134 (pc' := 46) (v := (2147483647 : Int32)) (tw16 hw) at_44 rfl ?_
      refine s_iand B X134 (pc' := 47) (v := (i0 &&& (2147483647 : Int32))) at_46 rfl rfl ?_
      refine s_bipush B X134 (pc' := 49) (v := (6 : Int32)) at_47 rfl rfl ?_
      refine s_irem B X134 (pc' := 50) (v := (1 : Int32)) at_49 (hv106) (by decide) rfl ?_
      refine s_ldR B X134 (pc' := 51) (jn := 1) (v := (.ref w_NOT_EQUAL)) e134 A134 rfl (by decide) (by decide) (by decide) rfl at_50 rfl ?_
      refine s_astoreN B X134 (pc' := 52) (Ls' := #[.val (.int i0), .val (.int i1), .val (.ref o122), .val (.ref w_NOT_EQUAL), .unset, .unset, .unset, .unset, .unset, .unset, .unset]) at_51 rfl rfl rfl ?_
      refine s_iloadN B X134 (pc' := 53) at_52 rfl rfl ?_
      refine b_if_ge B X134 (py := 60) (pn := 56) at_53 (by decide) (by decide) rfl (fun _ => ?_) (fun q => absurd q hA)
      refine s_iconst B X134 (pc' := 61) (v := (0 : Int32)) at_60 rfl rfl ?_
      refine s_istore B X134 (pc' := 63) (Ls' := #[.val (.int i0), .val (.int i1), .val (.ref o122), .val (.ref w_NOT_EQUAL), .val (.int (0 : Int32)), .unset, .unset, .unset, .unset, .unset, .unset]) at_61 rfl rfl ?_
      refine s_iloadN B X134 (pc' := 64) at_63 rfl rfl ?_
      refine b_if_ne B X134 (py := 71) (pn := 67) at_64 (by decide) (by decide) rfl (fun q => absurd hE q) (fun _ => ?_)
      refine s_iconst B X134 (pc' := 68) (v := (1 : Int32)) at_67 rfl rfl ?_
      refine s_goto B X134 (pc' := 72) at_68 (by decide) (by decide) ?_
      refine s_istore B X134 (pc' := 74) (Ls' := #[.val (.int i0), .val (.int i1), .val (.ref o122), .val (.ref w_NOT_EQUAL), .val (.int (0 : Int32)), .val (.int (1 : Int32)), .unset, .unset, .unset, .unset, .unset]) at_72 rfl rfl ?_
      refine s_iloadN B X134 (pc' := 75) at_74 rfl rfl ?_
      refine b_if_le B X134 (py := 82) (pn := 78) at_75 (by decide) (by decide) rfl (fun _ => ?_) (fun q => absurd q hB)
      refine s_iconst B X134 (pc' := 83) (v := (0 : Int32)) at_82 rfl rfl ?_
      refine s_istore B X134 (pc' := 85) (Ls' := #[.val (.int i0), .val (.int i1), .val (.ref o122), .val (.ref w_NOT_EQUAL), .val (.int (0 : Int32)), .val (.int (1 : Int32)), .val (.int (0 : Int32)), .unset, .unset, .unset, .unset]) at_83 rfl rfl ?_
      refine s_aloadN B X134 (pc' := 86) at_85 rfl rfl rfl ?_
      obtain ⟨S_EQUAL, E_EQUAL, S_NOT_EQUAL, E_NOT_EQUAL, S_LESS, E_LESS, S_LESS_OR_EQUAL, E_LESS_OR_EQUAL, S_GREATER, E_GREATER, S_GREATER_OR_EQUAL, E_GREATER_OR_EQUAL, F_EQUAL_ordinal, F_LESS_ordinal, F_NOT_EQUAL_ordinal, F_GREATER_ordinal, F_LESS_OR_EQUAL_ordinal, F_GREATER_OR_EQUAL_ordinal⟩ := id F134
      refine s_getS B X134 (pc' := 89) e134 (tw2 hw) Via.refl S_EQUAL at_86 rfl (fun T135 X135 e135 => ?_)
      refine b_acmp_ne B X135 (py := 104) (pn := 92) at_89 (by decide) (by decide) rfl (fun _ => ?_) (fun q => absurd q (own_ne_w_NOT_EQUAL_w_EQUAL F134))
      refine s_aloadN B X135 (pc' := 105) at_104 rfl rfl rfl ?_
      refine s_getS B X135 (pc' := 108) e135 (tw6 hw) Via.refl S_NOT_EQUAL at_105 rfl (fun T136 X136 e136 => ?_)
      refine b_acmp_ne B X136 (py := 123) (pn := 111) at_108 (by decide) (by decide) rfl (fun q => absurd rfl q) (fun _ => ?_)
      refine s_iconst B X136 (pc' := 112) (v := (1 : Int32)) at_111 rfl rfl ?_
      refine s_istore B X136 (pc' := 114) (Ls' := #[.val (.int i0), .val (.int i1), .val (.ref o122), .val (.ref w_NOT_EQUAL), .val (.int (0 : Int32)), .val (.int (1 : Int32)), .val (.int (0 : Int32)), .val (.int (1 : Int32)), .unset, .unset, .unset]) at_112 rfl rfl ?_
      refine s_iconst B X136 (pc' := 115) (v := (0 : Int32)) at_114 rfl rfl ?_
      refine s_istore B X136 (pc' := 117) (Ls' := #[.val (.int i0), .val (.int i1), .val (.ref o122), .val (.ref w_NOT_EQUAL), .val (.int (0 : Int32)), .val (.int (1 : Int32)), .val (.int (0 : Int32)), .val (.int (1 : Int32)), .val (.int (0 : Int32)), .unset, .unset]) at_115 rfl rfl ?_
      refine s_iconst B X136 (pc' := 118) (v := (1 : Int32)) at_117 rfl rfl ?_
      refine s_istore B X136 (pc' := 120) (Ls' := #[.val (.int i0), .val (.int i1), .val (.ref o122), .val (.ref w_NOT_EQUAL), .val (.int (0 : Int32)), .val (.int (1 : Int32)), .val (.int (0 : Int32)), .val (.int (1 : Int32)), .val (.int (0 : Int32)), .val (.int (1 : Int32)), .unset]) at_118 rfl rfl ?_
      refine s_goto B X136 (pc' := 189) at_120 (by decide) (by decide) ?_
      refine s_iload B X136 (pc' := 191) at_189 rfl rfl ?_
      refine s_ifY B X136 (pc' := 199) at_191 (by decide) (by decide) (by decide) ?_
      refine s_iload B X136 (pc' := 201) at_199 rfl rfl ?_
      refine s_ifN B X136 (pc' := 204) at_201 (by decide) rfl ?_
      refine s_iload B X136 (pc' := 206) at_204 rfl rfl ?_
      refine s_ifN B X136 (pc' := 209) at_206 (by decide) rfl ?_
      refine s_iload B X136 (pc' := 211) at_209 rfl rfl ?_
      refine s_ifY B X136 (pc' := 223) at_211 (by decide) (by decide) (by decide) ?_
      refine s_iconst B X136 (pc' := 224) (v := (0 : Int32)) at_223 rfl rfl ?_
      refine s_istore B X136 (pc' := 226) (Ls' := #[.val (.int i0), .val (.int i1), .val (.ref o122), .val (.ref w_NOT_EQUAL), .val (.int (0 : Int32)), .val (.int (1 : Int32)), .val (.int (0 : Int32)), .val (.int (1 : Int32)), .val (.int (0 : Int32)), .val (.int (1 : Int32)), .val (.int (0 : Int32))]) at_224 rfl rfl ?_
      refine s_aloadN B X136 (pc' := 227) at_226 rfl rfl rfl ?_
      refine s_iloadN B X136 (pc' := 228) at_227 rfl rfl ?_
      refine p_virtual B X136 (y := mn2) (pc' := 231) (argsL := [(.int i1)]) (under := []) (W := 0) e136 (tw17 hw) (tw18 hw) (tw20 hw) (tw19 hw) (tw21 hw) (tw3 hw) (by decide) (rm1_13 l Z a0 hw i1 w_EQUAL w_NOT_EQUAL w_LESS w_LESS_OR_EQUAL w_GREATER w_GREATER_OR_EQUAL h134 F134 hA hB hE) E_NOT_EQUAL (lenOf pd_1 rfl) rfl rfl (by decide) (by decide) rfl rfl (by decide) (by decide) rfl at_228 rfl (fun T137 X137 e137 => ?_)
      show Go p e below _ (T137.setTop (mkF m 231 #[.val (.int i0), .val (.int i1), .val (.ref o122), .val (.ref w_NOT_EQUAL), .val (.int (0 : Int32)), .val (.int (1 : Int32)), .val (.int (0 : Int32)), .val (.int (1 : Int32)), .val (.int (0 : Int32)), .val (.int (1 : Int32)), .val (.int (0 : Int32))] [(.int (0 : Int32))]))
      refine s_iload B X137 (pc' := 233) at_231 rfl rfl ?_
      refine s_icmpN B X137 (pc' := 236) at_233 (by decide) rfl ?_
      refine s_iconst B X137 (pc' := 237) (v := (1 : Int32)) at_236 rfl rfl ?_
      refine s_goto B X137 (pc' := 241) at_237 (by decide) (by decide) ?_
      exact r_nar B X137 (t := .boolean) (by simp) rfl at_241 ⟨rfl, N134⟩ (by decide) (by decide)
    · refine s_bipush B X0 (pc' := 2) (v := (6 : Int32)) at_0 rfl rfl ?_
      refine s_newR B X0 (pc' := 5) (N := 6) (cap := 6) e0 (tw0 hw) (tw1 hw) (by decide) (by decide) (by decide) (by decide) (by decide) (by decide) at_2 rfl (fun T138 h138 o138 k138 g138 X138 e138 E138 A138 V138 => ?_)
      have ge_o138 : Z.heap.size ≤ o138 := g138 ▸ old_le (Old.start Z)
      replace A138 : Ary Z h138 o138 k138 (.object "com/example/upmob/upmob/Operator") 6 (lst [.null, .null, .null, .null, .null, .null] .null) := A138.congr (own_rep 6)
      have O138 := ((Old.start Z)).ext E138
      have F138 := OwnF.ext O138.2 F0
      show Go p e below _ (T138.setTop (mkF m 5 #[.val (.int i0), .val (.int i1), .unset, .unset, .unset, .unset, .unset, .unset, .unset, .unset, .unset] [(.ref o138)]))
      refine s_dup B X138 (pc' := 6) at_5 rfl rfl ?_
      refine s_iconst B X138 (pc' := 7) (v := (0 : Int32)) at_6 rfl rfl ?_
      obtain ⟨S_EQUAL, E_EQUAL, S_NOT_EQUAL, E_NOT_EQUAL, S_LESS, E_LESS, S_LESS_OR_EQUAL, E_LESS_OR_EQUAL, S_GREATER, E_GREATER, S_GREATER_OR_EQUAL, E_GREATER_OR_EQUAL, F_EQUAL_ordinal, F_LESS_ordinal, F_NOT_EQUAL_ordinal, F_GREATER_ordinal, F_LESS_OR_EQUAL_ordinal, F_GREATER_OR_EQUAL_ordinal⟩ := id F138
      refine s_getS B X138 (pc' := 10) e138 (tw2 hw) Via.refl S_EQUAL at_7 rfl (fun T139 X139 e139 => ?_)
      refine s_stR B X139 (pc' := 11) (jn := 0) e139 A138 rfl (Ary.sto A138 V138 (Ins.self E_EQUAL)) (by decide) (by decide) (by decide) at_10 rfl (fun T140 h140 X140 e140 W140 A140 => ?_)
      replace A140 := A140.full (show 0 < 6 by decide) (L' := [(.ref w_EQUAL), .null, .null, .null, .null, .null]) rfl
      have N140 := Fr.snoc X140 (Fr.nil _) ge_o138
      have O140 := (O138).wr W140 ge_o138
      have F140 := OwnF.ext O140.2 F0
      show Go p e below _ (T140.setTop (mkF m 11 #[.val (.int i0), .val (.int i1), .unset, .unset, .unset, .unset, .unset, .unset, .unset, .unset, .unset] [(.ref o138)]))
      refine s_dup B X140 (pc' := 12) at_11 rfl rfl ?_
      refine s_iconst B X140 (pc' := 13) (v := (1 : Int32)) at_12 rfl rfl ?_
      obtain ⟨S_EQUAL, E_EQUAL, S_NOT_EQUAL, E_NOT_EQUAL, S_LESS, E_LESS, S_LESS_OR_EQUAL, E_LESS_OR_EQUAL, S_GREATER, E_GREATER, S_GREATER_OR_EQUAL, E_GREATER_OR_EQUAL, F_EQUAL_ordinal, F_LESS_ordinal, F_NOT_EQUAL_ordinal, F_GREATER_ordinal, F_LESS_OR_EQUAL_ordinal, F_GREATER_OR_EQUAL_ordinal⟩ := id F140
      refine s_getS B X140 (pc' := 16) e140 (tw6 hw) Via.refl S_NOT_EQUAL at_13 rfl (fun T141 X141 e141 => ?_)
      refine s_stR B X141 (pc' := 17) (jn := 1) e141 A140 rfl (Ary.sto A140 V138 (Ins.self E_NOT_EQUAL)) (by decide) (by decide) (by decide) at_16 rfl (fun T142 h142 X142 e142 W142 A142 => ?_)
      replace A142 := A142.full (show 1 < 6 by decide) (L' := [(.ref w_EQUAL), (.ref w_NOT_EQUAL), .null, .null, .null, .null]) rfl
      have N142 := Fr.snoc X142 N140 ge_o138
      have O142 := (O140).wr W142 ge_o138
      have F142 := OwnF.ext O142.2 F0
      show Go p e below _ (T142.setTop (mkF m 17 #[.val (.int i0), .val (.int i1), .unset, .unset, .unset, .unset, .unset, .unset, .unset, .unset, .unset] [(.ref o138)]))
      refine s_dup B X142 (pc' := 18) at_17 rfl rfl ?_
      refine s_iconst B X142 (pc' := 19) (v := (2 : Int32)) at_18 rfl rfl ?_
      obtain ⟨S_EQUAL, E_EQUAL, S_NOT_EQUAL, E_NOT_EQUAL, S_LESS, E_LESS, S_LESS_OR_EQUAL, E_LESS_OR_EQUAL, S_GREATER, E_GREATER, S_GREATER_OR_EQUAL, E_GREATER_OR_EQUAL, F_EQUAL_ordinal, F_LESS_ordinal, F_NOT_EQUAL_ordinal, F_GREATER_ordinal, F_LESS_OR_EQUAL_ordinal, F_GREATER_OR_EQUAL_ordinal⟩ := id F142
      refine s_getS B X142 (pc' := 22) e142 (tw8 hw) Via.refl S_LESS at_19 rfl (fun T143 X143 e143 => ?_)
      refine s_stR B X143 (pc' := 23) (jn := 2) e143 A142 rfl (Ary.sto A142 V138 (Ins.self E_LESS)) (by decide) (by decide) (by decide) at_22 rfl (fun T144 h144 X144 e144 W144 A144 => ?_)
      replace A144 := A144.full (show 2 < 6 by decide) (L' := [(.ref w_EQUAL), (.ref w_NOT_EQUAL), (.ref w_LESS), .null, .null, .null]) rfl
      have N144 := Fr.snoc X144 N142 ge_o138
      have O144 := (O142).wr W144 ge_o138
      have F144 := OwnF.ext O144.2 F0
      show Go p e below _ (T144.setTop (mkF m 23 #[.val (.int i0), .val (.int i1), .unset, .unset, .unset, .unset, .unset, .unset, .unset, .unset, .unset] [(.ref o138)]))
      refine s_dup B X144 (pc' := 24) at_23 rfl rfl ?_
      refine s_iconst B X144 (pc' := 25) (v := (3 : Int32)) at_24 rfl rfl ?_
      obtain ⟨S_EQUAL, E_EQUAL, S_NOT_EQUAL, E_NOT_EQUAL, S_LESS, E_LESS, S_LESS_OR_EQUAL, E_LESS_OR_EQUAL, S_GREATER, E_GREATER, S_GREATER_OR_EQUAL, E_GREATER_OR_EQUAL, F_EQUAL_ordinal, F_LESS_ordinal, F_NOT_EQUAL_ordinal, F_GREATER_ordinal, F_LESS_OR_EQUAL_ordinal, F_GREATER_OR_EQUAL_ordinal⟩ := id F144
      refine s_getS B X144 (pc' := 28) e144 (tw10 hw) Via.refl S_LESS_OR_EQUAL at_25 rfl (fun T145 X145 e145 => ?_)
      refine s_stR B X145 (pc' := 29) (jn := 3) e145 A144 rfl (Ary.sto A144 V138 (Ins.self E_LESS_OR_EQUAL)) (by decide) (by decide) (by decide) at_28 rfl (fun T146 h146 X146 e146 W146 A146 => ?_)
      replace A146 := A146.full (show 3 < 6 by decide) (L' := [(.ref w_EQUAL), (.ref w_NOT_EQUAL), (.ref w_LESS), (.ref w_LESS_OR_EQUAL), .null, .null]) rfl
      have N146 := Fr.snoc X146 N144 ge_o138
      have O146 := (O144).wr W146 ge_o138
      have F146 := OwnF.ext O146.2 F0
      show Go p e below _ (T146.setTop (mkF m 29 #[.val (.int i0), .val (.int i1), .unset, .unset, .unset, .unset, .unset, .unset, .unset, .unset, .unset] [(.ref o138)]))
      refine s_dup B X146 (pc' := 30) at_29 rfl rfl ?_
      refine s_iconst B X146 (pc' := 31) (v := (4 : Int32)) at_30 rfl rfl ?_
      obtain ⟨S_EQUAL, E_EQUAL, S_NOT_EQUAL, E_NOT_EQUAL, S_LESS, E_LESS, S_LESS_OR_EQUAL, E_LESS_OR_EQUAL, S_GREATER, E_GREATER, S_GREATER_OR_EQUAL, E_GREATER_OR_EQUAL, F_EQUAL_ordinal, F_LESS_ordinal, F_NOT_EQUAL_ordinal, F_GREATER_ordinal, F_LESS_OR_EQUAL_ordinal, F_GREATER_OR_EQUAL_ordinal⟩ := id F146
      refine s_getS B X146 (pc' := 34) e146 (tw12 hw) Via.refl S_GREATER at_31 rfl (fun T147 X147 e147 => ?_)
      refine s_stR B X147 (pc' := 35) (jn := 4) e147 A146 rfl (Ary.sto A146 V138 (Ins.self E_GREATER)) (by decide) (by decide) (by decide) at_34 rfl (fun T148 h148 X148 e148 W148 A148 => ?_)
      replace A148 := A148.full (show 4 < 6 by decide) (L' := [(.ref w_EQUAL), (.ref w_NOT_EQUAL), (.ref w_LESS), (.ref w_LESS_OR_EQUAL), (.ref w_GREATER), .null]) rfl
      have N148 := Fr.snoc X148 N146 ge_o138
      have O148 := (O146).wr W148 ge_o138
      have F148 := OwnF.ext O148.2 F0
      show Go p e below _ (T148.setTop (mkF m 35 #[.val (.int i0), .val (.int i1), .unset, .unset, .unset, .unset, .unset, .unset, .unset, .unset, .unset] [(.ref o138)]))
      refine s_dup B X148 (pc' := 36) at_35 rfl rfl ?_
      refine s_iconst B X148 (pc' := 37) (v := (5 : Int32)) at_36 rfl rfl ?_
      obtain ⟨S_EQUAL, E_EQUAL, S_NOT_EQUAL, E_NOT_EQUAL, S_LESS, E_LESS, S_LESS_OR_EQUAL, E_LESS_OR_EQUAL, S_GREATER, E_GREATER, S_GREATER_OR_EQUAL, E_GREATER_OR_EQUAL, F_EQUAL_ordinal, F_LESS_ordinal, F_NOT_EQUAL_ordinal, F_GREATER_ordinal, F_LESS_OR_EQUAL_ordinal, F_GREATER_OR_EQUAL_ordinal⟩ := id F148
      refine s_getS B X148 (pc' := 40) e148 (tw14 hw) Via.refl S_GREATER_OR_EQUAL at_37 rfl (fun T149 X149 e149 => ?_)
      refine s_stR B X149 (pc' := 41) (jn := 5) e149 A148 rfl (Ary.sto A148 V138 (Ins.self E_GREATER_OR_EQUAL)) (by decide) (by decide) (by decide) at_40 rfl (fun T150 h150 X150 e150 W150 A150 => ?_)
      replace A150 := A150.full (show 5 < 6 by decide) (L' := [(.ref w_EQUAL), (.ref w_NOT_EQUAL), (.ref w_LESS), (.ref w_LESS_OR_EQUAL), (.ref w_GREATER), (.ref w_GREATER_OR_EQUAL)]) rfl
      have N150 := Fr.snoc X150 N148 ge_o138
      have O150 := (O148).wr W150 ge_o138
      have F150 := OwnF.ext O150.2 F0
      show Go p e below _ (T150.setTop (mkF m 41 #[.val (.int i0), .val (.int i1), .unset, .unset, .unset, .unset, .unset, .unset, .unset, .unset, .unset] [(.ref o138)]))
      refine s_astoreN B X150 (pc' := 42) (Ls' := #[.val (.int i0), .val (.int i1), .val (.ref o138), .unset, .unset, .unset, .unset, .unset, .unset, .unset, .unset]) at_41 rfl rfl rfl ?_
      refine s_aloadN B X150 (pc' := 43) at_42 rfl rfl rfl ?_
      refine s_iloadN B X150 (pc' := 44) at_43 rfl rfl ?_
      refine s_ldc B X150 (pc' := 46) (v := (2147483647 : Int32)) (tw16 hw) at_44 rfl ?_
      refine s_iand B X150 (pc' := 47) (v := (i0 &&& (2147483647 : Int32))) at_46 rfl rfl ?_
      refine s_bipush B X150 (pc' := 49) (v := (6 : Int32)) at_47 rfl rfl ?_
      refine s_irem B X150 (pc' := 50) (v := (2 : Int32)) at_49 (hv106) (by decide) rfl ?_
      refine s_ldR B X150 (pc' := 51) (jn := 2) (v := (.ref w_LESS)) e150 A150 rfl (by decide) (by decide) (by decide) rfl at_50 rfl ?_
      refine s_astoreN B X150 (pc' := 52) (Ls' := #[.val (.int i0), .val (.int i1), .val (.ref o138), .val (.ref w_LESS), .unset, .unset, .unset, .unset, .unset, .unset, .unset]) at_51 rfl rfl rfl ?_
      refine s_iloadN B X150 (pc' := 53) at_52 rfl rfl ?_
      refine b_if_ge B X150 (py := 60) (pn := 56) at_53 (by decide) (by decide) rfl (fun _ => ?_) (fun q => absurd q hA)
      refine s_iconst B X150 (pc' := 61) (v := (0 : Int32)) at_60 rfl rfl ?_
      refine s_istore B X150 (pc' := 63) (Ls' := #[.val (.int i0), .val (.int i1), .val (.ref o138), .val (.ref w_LESS), .val (.int (0 : Int32)), .unset, .unset, .unset, .unset, .unset, .unset]) at_61 rfl rfl ?_
      refine s_iloadN B X150 (pc' := 64) at_63 rfl rfl ?_
      refine b_if_ne B X150 (py := 71) (pn := 67) at_64 (by decide) (by decide) rfl (fun q => absurd hE q) (fun _ => ?_)
      refine s_iconst B X150 (pc' := 68) (v := (1 : Int32)) at_67 rfl rfl ?_
      refine s_goto B X150 (pc' := 72) at_68 (by decide) (by decide) ?_
      refine s_istore B X150 (pc' := 74) (Ls' := #[.val (.int i0), .val (.int i1), .val (.ref o138), .val (.ref w_LESS), .val (.int (0 : Int32)), .val (.int (1 : Int32)), .unset, .unset, .unset, .unset, .unset]) at_72 rfl rfl ?_
      refine s_iloadN B X150 (pc' := 75) at_74 rfl rfl ?_
      refine b_if_le B X150 (py := 82) (pn := 78) at_75 (by decide) (by decide) rfl (fun _ => ?_) (fun q => absurd q hB)
      refine s_iconst B X150 (pc' := 83) (v := (0 : Int32)) at_82 rfl rfl ?_
      refine s_istore B X150 (pc' := 85) (Ls' := #[.val (.int i0), .val (.int i1), .val (.ref o138), .val (.ref w_LESS), .val (.int (0 : Int32)), .val (.int (1 : Int32)), .val (.int (0 : Int32)), .unset, .unset, .unset, .unset]) at_83 rfl rfl ?_
      refine s_aloadN B X150 (pc' := 86) at_85 rfl rfl rfl ?_
      obtain ⟨S_EQUAL, E_EQUAL, S_NOT_EQUAL, E_NOT_EQUAL, S_LESS, E_LESS, S_LESS_OR_EQUAL, E_LESS_OR_EQUAL, S_GREATER, E_GREATER, S_GREATER_OR_EQUAL, E_GREATER_OR_EQUAL, F_EQUAL_ordinal, F_LESS_ordinal, F_NOT_EQUAL_ordinal, F_GREATER_ordinal, F_LESS_OR_EQUAL_ordinal, F_GREATER_OR_EQUAL_ordinal⟩ := id F150
      refine s_getS B X150 (pc' := 89) e150 (tw2 hw) Via.refl S_EQUAL at_86 rfl (fun T151 X151 e151 => ?_)
      refine b_acmp_ne B X151 (py := 104) (pn := 92) at_89 (by decide) (by decide) rfl (fun _ => ?_) (fun q => absurd q (own_ne_w_LESS_w_EQUAL F150))
      refine s_aloadN B X151 (pc' := 105) at_104 rfl rfl rfl ?_
      refine s_getS B X151 (pc' := 108) e151 (tw6 hw) Via.refl S_NOT_EQUAL at_105 rfl (fun T152 X152 e152 => ?_)
      refine b_acmp_ne B X152 (py := 123) (pn := 111) at_108 (by decide) (by decide) rfl (fun _ => ?_) (fun q => absurd q (own_ne_w_LESS_w_NOT_EQUAL F150))
      refine s_aloadN B X152 (pc' := 124) at_123 rfl rfl rfl ?_
      refine s_getS B X152 (pc' := 127) e152 (tw8 hw) Via.refl S_LESS at_124 rfl (fun T153 X153 e153 => ?_)
      refine b_acmp_ne B X153 (py := 142) (pn := 130) at_127 (by decide) (by decide) rfl (fun q => absurd rfl q) (fun _ => ?_)
      refine s_iconst B X153 (pc' := 131) (v := (1 : Int32)) at_130 rfl rfl ?_
      refine s_istore B X153 (pc' := 133) (Ls' := #[.val (.int i0), .val (.int i1), .val (.ref o138), .val (.ref w_LESS), .val (.int (0 : Int32)), .val (.int (1 : Int32)), .val (.int (0 : Int32)), .val (.int (1 : Int32)), .unset, .unset, .unset]) at_131 rfl rfl ?_
      refine s_iconst B X153 (pc' := 134) (v := (0 : Int32)) at_133 rfl rfl ?_
      refine s_istore B X153 (pc' := 136) (Ls' := #[.val (.int i0), .val (.int i1), .val (.ref o138), .val (.ref w_LESS), .val (.int (0 : Int32)), .val (.int (1 : Int32)), .val (.int (0 : Int32)), .val (.int (1 : Int32)), .val (.int (0 : Int32)), .unset, .unset]) at_134 rfl rfl ?_
      refine s_iconst B X153 (pc' := 137) (v := (0 : Int32)) at_136 rfl rfl ?_
      refine s_istore B X153 (pc' := 139) (Ls' := #[.val (.int i0), .val (.int i1), .val (.ref o138), .val (.ref w_LESS), .val (.int (0 : Int32)), .val (.int (1 : Int32)), .val (.int (0 : Int32)), .val (.int (1 : Int32)), .val (.int (0 : Int32)), .val (.int (0 : Int32)), .unset]) at_137 rfl rfl ?_
      refine s_goto B X153 (pc' := 189) at_139 (by decide) (by decide) ?_
      refine s_iload B X153 (pc' := 191) at_189 rfl rfl ?_
      refine s_ifY B X153 (pc' := 199) at_191 (by decide) (by decide) (by decide) ?_
      refine s_iload B X153 (pc' := 201) at_199 rfl rfl ?_
      refine s_ifN B X153 (pc' := 204) at_201 (by decide) rfl ?_
      refine s_iload B X153 (pc' := 206) at_204 rfl rfl ?_
      refine s_ifN B X153 (pc' := 209) at_206 (by decide) rfl ?_
      refine s_iload B X153 (pc' := 211) at_209 rfl rfl ?_
      refine s_ifY B X153 (pc' := 223) at_211 (by decide) (by decide) (by decide) ?_
      refine s_iconst B X153 (pc' := 224) (v := (0 : Int32)) at_223 rfl rfl ?_
      refine s_istore B X153 (pc' := 226) (Ls' := #[.val (.int i0), .val (.int i1), .val (.ref o138), .val (.ref w_LESS), .val (.int (0 : Int32)), .val (.int (1 : Int32)), .val (.int (0 : Int32)), .val (.int (1 : Int32)), .val (.int (0 : Int32)), .val (.int (0 : Int32)), .val (.int (0 : Int32))]) at_224 rfl rfl ?_
      refine s_aloadN B X153 (pc' := 227) at_226 rfl rfl rfl ?_
      refine s_iloadN B X153 (pc' := 228) at_227 rfl rfl ?_
      refine p_virtual B X153 (y := mn2) (pc' := 231) (argsL := [(.int i1)]) (under := []) (W := 0) e153 (tw17 hw) (tw18 hw) (tw20 hw) (tw19 hw) (tw21 hw) (tw3 hw) (by decide) (rm1_14 l Z a0 hw i1 w_EQUAL w_NOT_EQUAL w_LESS w_LESS_OR_EQUAL w_GREATER w_GREATER_OR_EQUAL h150 F150 hA hB hE) E_LESS (lenOf pd_1 rfl) rfl rfl (by decide) (by decide) rfl rfl (by decide) (by decide) rfl at_228 rfl (fun T154 X154 e154 => ?_)
      show Go p e below _ (T154.setTop (mkF m 231 #[.val (.int i0), .val (.int i1), .val (.ref o138), .val (.ref w_LESS), .val (.int (0 : Int32)), .val (.int (1 : Int32)), .val (.int (0 : Int32)), .val (.int (1 : Int32)), .val (.int (0 : Int32)), .val (.int (0 : Int32)), .val (.int (0 : Int32))] [(.int (0 : Int32))]))
      refine s_iload B X154 (pc' := 233) at_231 rfl rfl ?_
      refine s_icmpN B X154 (pc' := 236) at_233 (by decide) rfl ?_
      refine s_iconst B X154 (pc' := 237) (v := (1 : Int32)) at_236 rfl rfl ?_
      refine s_goto B X154 (pc' := 241) at_237 (by decide) (by decide) ?_
      exact r_nar B X154 (t := .boolean) (by simp) rfl at_241 ⟨rfl, N150⟩ (by decide) (by decide)
    · refine s_bipush B X0 (pc' := 2) (v := (6 : Int32)) at_0 rfl rfl ?_
      refine s_newR B X0 (pc' := 5) (N := 6) (cap := 6) e0 (tw0 hw) (tw1 hw) (by decide) (by decide) (by decide) (by decide) (by decide) (by decide) at_2 rfl (fun T155 h155 o155 k155 g155 X155 e155 E155 A155 V155 => ?_)
      have ge_o155 : Z.heap.size ≤ o155 := g155 ▸ old_le (Old.start Z)
      replace A155 : Ary Z h155 o155 k155 (.object "com/example/upmob/upmob/Operator") 6 (lst [.null, .null, .null, .null, .null, .null] .null) := A155.congr (own_rep 6)
      have O155 := ((Old.start Z)).ext E155
      have F155 := OwnF.ext O155.2 F0
      show Go p e below _ (T155.setTop (mkF m 5 #[.val (.int i0), .val (.int i1), .unset, .unset, .unset, .unset, .unset, .unset, .unset, .unset, .unset] [(.ref o155)]))
      refine s_dup B X155 (pc' := 6) at_5 rfl rfl ?_
      refine s_iconst B X155 (pc' := 7) (v := (0 : Int32)) at_6 rfl rfl ?_
      obtain ⟨S_EQUAL, E_EQUAL, S_NOT_EQUAL, E_NOT_EQUAL, S_LESS, E_LESS, S_LESS_OR_EQUAL, E_LESS_OR_EQUAL, S_GREATER, E_GREATER, S_GREATER_OR_EQUAL, E_GREATER_OR_EQUAL, F_EQUAL_ordinal, F_LESS_ordinal, F_NOT_EQUAL_ordinal, F_GREATER_ordinal, F_LESS_OR_EQUAL_ordinal, F_GREATER_OR_EQUAL_ordinal⟩ := id F155
      refine s_getS B X155 (pc' := 10) e155 (tw2 hw) Via.refl S_EQUAL at_7 rfl (fun T156 X156 e156 => ?_)
      refine s_stR B X156 (pc' := 11) (jn := 0) e156 A155 rfl (Ary.sto A155 V155 (Ins.self E_EQUAL)) (by decide) (by decide) (by decide) at_10 rfl (fun T157 h157 X157 e157 W157 A157 => ?_)
      replace A157 := A157.full (show 0 < 6 by decide) (L' := [(.ref w_EQUAL), .null, .null, .null, .null, .null]) rfl
      have N157 := Fr.snoc X157 (Fr.nil _) ge_o155
      have O157 := (O155).wr W157 ge_o155
      have F157 := OwnF.ext O157.2 F0
      show Go p e below _ (T157.setTop (mkF m 11 #[.val (.int i0), .val (.int i1), .unset, .unset, .unset, .unset, .unset, .unset, .unset, .unset, .unset] [(.ref o155)]))
      refine s_dup B X157 (pc' := 12) at_11 rfl rfl ?_
      refine s_iconst B X157 (pc' := 13) (v := (1 : Int32)) at_12 rfl rfl ?_
      obtain ⟨S_EQUAL, E_EQUAL, S_NOT_EQUAL, E_NOT_EQUAL, S_LESS, E_LESS, S_LESS_OR_EQUAL, E_LESS_OR_EQUAL, S_GREATER, E_GREATER, S_GREATER_OR_EQUAL, E_GREATER_OR_EQUAL, F_EQUAL_ordinal, F_LESS_ordinal, F_NOT_EQUAL_ordinal, F_GREATER_ordinal, F_LESS_OR_EQUAL_ordinal, F_GREATER_OR_EQUAL_ordinal⟩ := id F157
      refine s_getS B X157 (pc' := 16) e157 (tw6 hw) Via.refl S_NOT_EQUAL at_13 rfl (fun T158 X158 e158 => ?_)
      refine s_stR B X158 (pc' := 17) (jn := 1) e158 A157 rfl (Ary.sto A157 V155 (Ins.self E_NOT_EQUAL)) (by decide) (by decide) (by decide) at_16 rfl (fun T159 h159 X159 e159 W159 A159 => ?_)
      replace A159 := A159.full (show 1 < 6 by decide) (L' := [(.ref w_EQUAL), (.ref w_NOT_EQUAL), .null, .null, .null, .null]) rfl
      have N159 := Fr.snoc X159 N157 ge_o155
      have O159 := (O157).wr W159 ge_o155
      have F159 := OwnF.ext O159.2 F0
      show Go p e below _ (T159.setTop (mkF m 17 #[.val (.int i0), .val (.int i1), .unset, .unset, .unset, .unset, .unset, .unset, .unset, .unset, .unset] [(.ref o155)]))
      refine s_dup B X159 (pc' := 18) at_17 rfl rfl ?_
      refine s_iconst B X159 (pc' := 19) (v := (2 : Int32)) at_18 rfl rfl ?_
      obtain ⟨S_EQUAL, E_EQUAL, S_NOT_EQUAL, E_NOT_EQUAL, S_LESS, E_LESS, S_LESS_OR_EQUAL, E_LESS_OR_EQUAL, S_GREATER, E_GREATER, S_GREATER_OR_EQUAL, E_GREATER_OR_EQUAL, F_EQUAL_ordinal, F_LESS_ordinal, F_NOT_EQUAL_ordinal, F_GREATER_ordinal, F_LESS_OR_EQUAL_ordinal, F_GREATER_OR_EQUAL_ordinal⟩ := id F159
      refine s_getS B X159 (pc' := 22) e159 (tw8 hw) Via.refl S_LESS at_19 rfl (fun T160 X160 e160 => ?_)
      refine s_stR B X160 (pc' := 23) (jn := 2) e160 A159 rfl (Ary.sto A159 V155 (Ins.self E_LESS)) (by decide) (by decide) (by decide) at_22 rfl (fun T161 h161 X161 e161 W161 A161 => ?_)
      replace A161 := A161.full (show 2 < 6 by decide) (L' := [(.ref w_EQUAL), (.ref w_NOT_EQUAL), (.ref w_LESS), .null, .null, .null]) rfl
      have N161 := Fr.snoc X161 N159 ge_o155
      have O161 := (O159).wr W161 ge_o155
      have F161 := OwnF.ext O161.2 F0
      show Go p e below _ (T161.setTop (mkF m 23 #[.val (.int i0), .val (.int i1), .unset, .unset, .unset, .unset, .unset, .unset, .unset, .unset, .unset] [(.ref o155)]))
      refine s_dup B X161 (pc' := 24) at_23 rfl rfl ?_
      refine s_iconst B X161 (pc' := 25) (v := (3 : Int32)) at_24 rfl rfl ?_
      obtain ⟨S_EQUAL, E_EQUAL, S_NOT_EQUAL, E_NOT_EQUAL, S_LESS, E_LESS, S_LESS_OR_EQUAL, E_LESS_OR_EQUAL, S_GREATER, E_GREATER, S_GREATER_OR_EQUAL, E_GREATER_OR_EQUAL, F_EQUAL_ordinal, F_LESS_ordinal, F_NOT_EQUAL_ordinal, F_GREATER_ordinal, F_LESS_OR_EQUAL_ordinal, F_GREATER_OR_EQUAL_ordinal⟩ := id F161
      refine s_getS B X161 (pc' := 28) e161 (tw10 hw) Via.refl S_LESS_OR_EQUAL at_25 rfl (fun T162 X162 e162 => ?_)
      refine s_stR B X162 (pc' := 29) (jn := 3) e162 A161 rfl (Ary.sto A161 V155 (Ins.self E_LESS_OR_EQUAL)) (by decide) (by decide) (by decide) at_28 rfl (fun T163 h163 X163 e163 W163 A163 => ?_)
      replace A163 := A163.full (show 3 < 6 by decide) (L' := [(.ref w_EQUAL), (.ref w_NOT_EQUAL), (.ref w_LESS), (.ref w_LESS_OR_EQUAL), .null, .null]) rfl
      have N163 := Fr.snoc X163 N161 ge_o155
      have O163 := (O161).wr W163 ge_o155
      have F163 := OwnF.ext O163.2 F0
      show Go p e below _ (T163.setTop (mkF m 29 #[.val (.int i0), .val (.int i1), .unset, .unset, .unset, .unset, .unset, .unset, .unset, .unset, .unset] [(.ref o155)]))
      refine s_dup B X163 (pc' := 30) at_29 rfl rfl ?_
      refine s_iconst B X163 (pc' := 31) (v := (4 : Int32)) at_30 rfl rfl ?_
      obtain ⟨S_EQUAL, E_EQUAL, S_NOT_EQUAL, E_NOT_EQUAL, S_LESS, E_LESS, S_LESS_OR_EQUAL, E_LESS_OR_EQUAL, S_GREATER, E_GREATER, S_GREATER_OR_EQUAL, E_GREATER_OR_EQUAL, F_EQUAL_ordinal, F_LESS_ordinal, F_NOT_EQUAL_ordinal, F_GREATER_ordinal, F_LESS_OR_EQUAL_ordinal, F_GREATER_OR_EQUAL_ordinal⟩ := id F163
      refine s_getS B X163 (pc' := 34) e163 (tw12 hw) Via.refl S_GREATER at_31 rfl (fun T164 X164 e164 => ?_)
      refine s_stR B X164 (pc' := 35) (jn := 4) e164 A163 rfl (Ary.sto A163 V155 (Ins.self E_GREATER)) (by decide) (by decide) (by decide) at_34 rfl (fun T165 h165 X165 e165 W165 A165 => ?_)
      replace A165 := A165.full (show 4 < 6 by decide) (L' := [(.ref w_EQUAL), (.ref w_NOT_EQUAL), (.ref w_LESS), (.ref w_LESS_OR_EQUAL), (.ref w_GREATER), .null]) rfl
      have N165 := Fr.snoc X165 N163 ge_o155
      have O165 := (O163).wr W165 ge_o155
      have F165 := OwnF.ext O165.2 F0
      show Go p e below _ (T165.setTop (mkF m 35 #[.val (.int i0), .val (.int i1), .unset, .unset, .unset, .unset, .unset, .unset, .unset, .unset, .unset] [(.ref o155)]))
      refine s_dup B X165 (pc' := 36) at_35 rfl rfl ?_
      refine s_iconst B X165 (pc' := 37) (v := (5 : Int32)) at_36 rfl rfl ?_
      obtain ⟨S_EQUAL, E_EQUAL, S_NOT_EQUAL, E_NOT_EQUAL, S_LESS, E_LESS, S_LESS_OR_EQUAL, E_LESS_OR_EQUAL, S_GREATER, E_GREATER, S_GREATER_OR_EQUAL, E_GREATER_OR_EQUAL, F_EQUAL_ordinal, F_LESS_ordinal, F_NOT_EQUAL_ordinal, F_GREATER_ordinal, F_LESS_OR_EQUAL_ordinal, F_GREATER_OR_EQUAL_ordinal⟩ := id F165
      refine s_getS B X165 (pc' := 40) e165 (tw14 hw) Via.refl S_GREATER_OR_EQUAL at_37 rfl (fun T166 X166 e166 => ?_)
      refine s_stR B X166 (pc' := 41) (jn := 5) e166 A165 rfl (Ary.sto A165 V155 (Ins.self E_GREATER_OR_EQUAL)) (by decide) (by decide) (by decide) at_40 rfl (fun T167 h167 X167 e167 W167 A167 => ?_)
      replace A167 := A167.full (show 5 < 6 by decide) (L' := [(.ref w_EQUAL), (.ref w_NOT_EQUAL), (.ref w_LESS), (.ref w_LESS_OR_EQUAL), (.ref w_GREATER), (.ref w_GREATER_OR_EQUAL)]) rfl
      have N167 := Fr.snoc X167 N165 ge_o155
      have O167 := (O165).wr W167 ge_o155
      have F167 := OwnF.ext O167.2 F0
      show Go p e below _ (T167.setTop (mkF m 41 #[.val (.int i0), .val (.int i1), .unset, .unset, .unset, .unset, .unset, .unset, .unset, .unset, .unset] [(.ref o155)]))
      refine s_astoreN B X167 (pc' := 42) (Ls' := #[.val (.int i0), .val (.int i1), .val (.ref o155), .unset, .unset, .unset, .unset, .unset, .unset, .unset, .unset]) at_41 rfl rfl rfl ?_
      refine s_aloadN B X167 (pc' := 43) at_42 rfl rfl rfl ?_
      refine s_iloadN B X167 (pc' := 44) at_43 rfl rfl ?_
      refine s_ldc B X167 (pc' := 46) (v := (2147483647 : Int32)) (tw16 hw) at_44 rfl ?_
      refine s_iand B X167 (pc' := 47) (v := (i0 &&& (2147483647 : Int32))) at_46 rfl rfl ?_
      refine s_bipush B X167 (pc' := 49) (v := (6 : Int32)) at_47 rfl rfl ?_
      refine s_irem B X167 (pc' := 50) (v := (3 : Int32)) at_49 (hv106) (by decide) rfl ?_
      refine s_ldR B X167 (pc' := 51) (jn := 3) (v := (.ref w_LESS_OR_EQUAL)) e167 A167 rfl (by decide) (by decide) (by decide) rfl at_50 rfl ?_
      refine s_astoreN B X167 (pc' := 52) (Ls' := #[.val (.int i0), .val (.int i1), .val (.ref o155), .val (.ref w_LESS_OR_EQUAL), .unset, .unset, .unset, .unset, .unset, .unset, .unset]) at_51 rfl rfl rfl ?_
      refine s_iloadN B X167 (pc' := 53) at_52 rfl rfl ?_
      refine b_if_ge B X167 (py := 60) (pn := 56) at_53 (by decide) (by decide) rfl (fun _ => ?_) (fun q => absurd q hA)
      refine s_iconst B X167 (pc' := 61) (v := (0 : Int32)) at_60 rfl rfl ?_
      refine s_istore B X167 (pc' := 63) (Ls' := #[.val (.int i0), .val (.int i1), .val (.ref o155), .val (.ref w_LESS_OR_EQUAL), .val (.int (0 : Int32)), .unset, .unset, .unset, .unset, .unset, .unset]) at_61 rfl rfl ?_
      refine s_iloadN B X167 (pc' := 64) at_63 rfl rfl ?_
      refine b_if_ne B X167 (py := 71) (pn := 67) at_64 (by decide) (by decide) rfl (fun q => absurd hE q) (fun _ => ?_)
      refine s_iconst B X167 (pc' := 68) (v := (1 : Int32)) at_67 rfl rfl ?_
      refine s_goto B X167 (pc' := 72) at_68 (by decide) (by decide) ?_
      refine s_istore B X167 (pc' := 74) (Ls' := #[.val (.int i0), .val (.int i1), .val (.ref o155), .val (.ref w_LESS_OR_EQUAL), .val (.int (0 : Int32)), .val (.int (1 : Int32)), .unset, .unset, .unset, .unset, .unset]) at_72 rfl rfl ?_
      refine s_iloadN B X167 (pc' := 75) at_74 rfl rfl ?_
      refine b_if_le B X167 (py := 82) (pn := 78) at_75 (by decide) (by decide) rfl (fun _ => ?_) (fun q => absurd q hB)
      refine s_iconst B X167 (pc' := 83) (v := (0 : Int32)) at_82 rfl rfl ?_
      refine s_istore B X167 (pc' := 85) (Ls' := #[.val (.int i0), .val (.int i1), .val (.ref o155), .val (.ref w_LESS_OR_EQUAL), .val (.int (0 : Int32)), .val (.int (1 : Int32)), .val (.int (0 : Int32)), .unset, .unset, .unset, .unset]) at_83 rfl rfl ?_
      refine s_aloadN B X167 (pc' := 86) at_85 rfl rfl rfl ?_
      obtain ⟨S_EQUAL, E_EQUAL, S_NOT_EQUAL, E_NOT_EQUAL, S_LESS, E_LESS, S_LESS_OR_EQUAL, E_LESS_OR_EQUAL, S_GREATER, E_GREATER, S_GREATER_OR_EQUAL, E_GREATER_OR_EQUAL, F_EQUAL_ordinal, F_LESS_ordinal, F_NOT_EQUAL_ordinal, F_GREATER_ordinal, F_LESS_OR_EQUAL_ordinal, F_GREATER_OR_EQUAL_ordinal⟩ := id F167
      refine s_getS B X167 (pc' := 89) e167 (tw2 hw) Via.refl S_EQUAL at_86 rfl (fun T168 X168 e168 => ?_)
      refine b_acmp_ne B X168 (py := 104) (pn := 92) at_89 (by decide) (by decide) rfl (fun _ => ?_) (fun q => absurd q (own_ne_w_LESS_OR_EQUAL_w_EQUAL F167))
      refine s_aloadN B X168 (pc' := 105) at_104 rfl rfl rfl ?_
      refine s_getS B X168 (pc' := 108) e168 (tw6 hw) Via.refl S_NOT_EQUAL at_105 rfl (fun T169 X169 e169 => ?_)
      refine b_acmp_ne B X169 (py := 123) (pn := 111) at_108 (by decide) (by decide) rfl (fun _ => ?_) (fun q => absurd q (own_ne_w_LESS_OR_EQUAL_w_NOT_EQUAL F167))
      refine s_aloadN B X169 (pc' := 124) at_123 rfl rfl rfl ?_
      refine s_getS B X169 (pc' := 127) e169 (tw8 hw) Via.refl S_LESS at_124 rfl (fun T170 X170 e170 => ?_)
      refine b_acmp_ne B X170 (py := 142) (pn := 130) at_127 (by decide) (by decide) rfl (fun _ => ?_) (fun q => absurd q (own_ne_w_LESS_OR_EQUAL_w_LESS F167))
      refine s_aloadN B X170 (pc' := 143) at_142 rfl rfl rfl ?_
      refine s_getS B X170 (pc' := 146) e170 (tw10 hw) Via.refl S_LESS_OR_EQUAL at_143 rfl (fun T171 X171 e171 => ?_)
      refine b_acmp_ne B X171 (py := 161) (pn := 149) at_146 (by decide) (by decide) rfl (fun q => absurd rfl q) (fun _ => ?_)
      refine s_iconst B X171 (pc' := 150) (v := (1 : Int32)) at_149 rfl rfl ?_
      refine s_istore B X171 (pc' := 152) (Ls' := #[.val (.int i0), .val (.int i1), .val (.ref o155), .val (.ref w_LESS_OR_EQUAL), .val (.int (0 : Int32)), .val (.int (1 : Int32)), .val (.int (0 : Int32)), .val (.int (1 : Int32)), .unset, .unset, .unset]) at_150 rfl rfl ?_
      refine s_iconst B X171 (pc' := 153) (v := (1 : Int32)) at_152 rfl rfl ?_
      refine s_istore B X171 (pc' := 155) (Ls' := #[.val (.int i0), .val (.int i1), .val (.ref o155), .val (.ref w_LESS_OR_EQUAL), .val (.int (0 : Int32)), .val (.int (1 : Int32)), .val (.int (0 : Int32)), .val (.int (1 : Int32)), .val (.int (1 : Int32)), .unset, .unset]) at_153 rfl rfl ?_
      refine s_iconst B X171 (pc' := 156) (v := (0 : Int32)) at_155 rfl rfl ?_
      refine s_istore B X171 (pc' := 158) (Ls' := #[.val (.int i0), .val (.int i1), .val (.ref o155), .val (.ref w_LESS_OR_EQUAL), .val (.int (0 : Int32)), .val (.int (1 : Int32)), .val (.int (0 : Int32)), .val (.int (1 : Int32)), .val (.int (1 : Int32)), .val (.int (0 : Int32)), .unset]) at_156 rfl rfl ?_
      refine s_goto B X171 (pc' := 189) at_158 (by decide) (by decide) ?_
      refine s_iload B X171 (pc' := 191) at_189 rfl rfl ?_
      refine s_ifY B X171 (pc' := 199) at_191 (by decide) (by decide) (by decide) ?_
      refine s_iload B X171 (pc' := 201) at_199 rfl rfl ?_
      refine s_ifN B X171 (pc' := 204) at_201 (by decide) rfl ?_
      refine s_iload B X171 (pc' := 206) at_204 rfl rfl ?_
      refine s_ifY B X171 (pc' := 219) at_206 (by decide) (by decide) (by decide) ?_
      refine s_iconst B X171 (pc' := 220) (v := (1 : Int32)) at_219 rfl rfl ?_
      refine s_goto B X171 (pc' := 224) at_220 (by decide) (by decide) ?_
      refine s_istore B X171 (pc' := 226) (Ls' := #[.val (.int i0), .val (.int i1), .val (.ref o155), .val (.ref w_LESS_OR_EQUAL), .val (.int (0 : Int32)), .val (.int (1 : Int32)), .val (.int (0 : Int32)), .val (.int (1 : Int32)), .val (.int (1 : Int32)), .val (.int (0 : Int32)), .val (.int (1 : Int32))]) at_224 rfl rfl ?_
      refine s_aloadN B X171 (pc' := 227) at_226 rfl rfl rfl ?_
      refine s_iloadN B X171 (pc' := 228) at_227 rfl rfl ?_
      refine p_virtual B X171 (y := mn2) (pc' := 231) (argsL := [(.int i1)]) (under := []) (W := 0) e171 (tw17 hw) (tw18 hw) (tw20 hw) (tw19 hw) (tw21 hw) (tw3 hw) (by decide) (rm1_15 l Z a0 hw i1 w_EQUAL w_NOT_EQUAL w_LESS w_LESS_OR_EQUAL w_GREATER w_GREATER_OR_EQUAL h167 F167 hA hB hE) E_LESS_OR_EQUAL (lenOf pd_1 rfl) rfl rfl (by decide) (by decide) rfl rfl (by decide) (by decide) rfl at_228 rfl (fun T172 X172 e172 => ?_)
      show Go p e below _ (T172.setTop (mkF m 231 #[.val (.int i0), .val (.int i1), .val (.ref o155), .val (.ref w_LESS_OR_EQUAL), .val (.int (0 : Int32)), .val (.int (1 : Int32)), .val (.int (0 : Int32)), .val (.int (1 : Int32)), .val (.int (1 : Int32)), .val (.int (0 : Int32)), .val (.int (1 : Int32))] [(.int (1 : Int32))]))
      refine s_iload B X172 (pc' := 233) at_231 rfl rfl ?_
      refine s_icmpN B X172 (pc' := 236) at_233 (by decide) rfl ?_
      refine s_iconst B X172 (pc' := 237) (v := (1 : Int32)) at_236 rfl rfl ?_
      refine s_goto B X172 (pc' := 241) at_237 (by decide) (by decide) ?_
      exact r_nar B X172 (t := .boolean) (by simp) rfl at_241 ⟨rfl, N167⟩ (by decide) (by decide)
    · refine s_bipush B X0 (pc' := 2) (v := (6 : Int32)) at_0 rfl rfl ?_
      refine s_newR B X0 (pc' := 5) (N := 6) (cap := 6) e0 (tw0 hw) (tw1 hw) (by decide) (by decide) (by decide) (by decide) (by decide) (by decide) at_2 rfl (fun T173 h173 o173 k173 g173 X173 e173 E173 A173 V173 => ?_)
      have ge_o173 : Z.heap.size ≤ o173 := g173 ▸ old_le (Old.start Z)
      replace A173 : Ary Z h173 o173 k173 (.object "com/example/upmob/upmob/Operator") 6 (lst [.null, .null, .null, .null, .null, .null] .null) := A173.congr (own_rep 6)
      have O173 := ((Old.start Z)).ext E173
      have F173 := OwnF.ext O173.2 F0
      show Go p e below _ (T173.setTop (mkF m 5 #[.val (.int i0), .val (.int i1), .unset, .unset, .unset, .unset, .unset, .unset, .unset, .unset, .unset] [(.ref o173)]))
      refine s_dup B X173 (pc' := 6) at_5 rfl rfl ?_
      refine s_iconst B X173 (pc' := 7) (v := (0 : Int32)) at_6 rfl rfl ?_
      obtain ⟨S_EQUAL, E_EQUAL, S_NOT_EQUAL, E_NOT_EQUAL, S_LESS, E_LESS, S_LESS_OR_EQUAL, E_LESS_OR_EQUAL, S_GREATER, E_GREATER, S_GREATER_OR_EQUAL, E_GREATER_OR_EQUAL, F_EQUAL_ordinal, F_LESS_ordinal, F_NOT_EQUAL_ordinal, F_GREATER_ordinal, F_LESS_OR_EQUAL_ordinal, F_GREATER_OR_EQUAL_ordinal⟩ := id F173
      refine s_getS B X173 (pc' := 10) e173 (tw2 hw) Via.refl S_EQUAL at_7 rfl (fun T174 X174 e174 => ?_)
      refine s_stR B X174 (pc' := 11) (jn := 0) e174 A173 rfl (Ary.sto A173 V173 (Ins.self E_EQUAL)) (by decide) (by decide) (by decide) at_10 rfl (fun T175 h175 X175 e175 W175 A175 => ?_)
      replace A175 := A175.full (show 0 < 6 by decide) (L' := [(.ref w_EQUAL), .null, .null, .null, .null, .null]) rfl
      have N175 := Fr.snoc X175 (Fr.nil _) ge_o173
      have O175 := (O173).wr W175 ge_o173
      have F175 := OwnF.ext O175.2 F0
      show Go p e below _ (T175.setTop (mkF m 11 #[.val (.int i0), .val (.int i1), .unset, .unset, .unset, .unset, .unset, .unset, .unset, .unset, .unset] [(.ref o173)]))
      refine s_dup B X175 (pc' := 12) at_11 rfl rfl ?_
      refine s_iconst B X175 (pc' := 13) (v := (1 : Int32)) at_12 rfl rfl ?_
      obtain ⟨S_EQUAL, E_EQUAL, S_NOT_EQUAL, E_NOT_EQUAL, S_LESS, E_LESS, S_LESS_OR_EQUAL, E_LESS_OR_EQUAL, S_GREATER, E_GREATER, S_GREATER_OR_EQUAL, E_GREATER_OR_EQUAL, F_EQUAL_ordinal, F_LESS_ordinal, F_NOT_EQUAL_ordinal, F_GREATER_ordinal, F_LESS_OR_EQUAL_ordinal, F_GREATER_OR_EQUAL_ordinal⟩ := id F175
      refine s_getS B X175 (pc' := 16) e175 (tw6 hw) Via.refl S_NOT_EQUAL at_13 rfl (fun T176 X176 e176 => ?_)
      refine s_stR B X176 (pc' := 17) (jn := 1) e176 A175 rfl (Ary.sto A175 V173 (Ins.self E_NOT_EQUAL)) (by decide) (by decide) (by decide) at_16 rfl (fun T177 h177 X177 e177 W177 A177 => ?_)
      replace A177 := A177.full (show 1 < 6 by decide) (L' := [(.ref w_EQUAL), (.ref w_NOT_EQUAL), .null, .null, .null, .null]) rfl
      have N177 := Fr.snoc X177 N175 ge_o173
      have O177 := (O175).wr W177 ge_o173
      have F177 := OwnF.ext O177.2 F0
      show Go p e below _ (T177.setTop (mkF m 17 #[.val (.int i0), .val (.int i1), .unset, .unset, .unset, .unset, .unset, .unset, .unset, .unset, .unset] [(.ref o173)]))
      refine s_dup B X177 (pc' := 18) at_17 rfl rfl ?_
      refine s_iconst B X177 (pc' := 19) (v := (2 : Int32)) at_18 rfl rfl ?_
      obtain ⟨S_EQUAL, E_EQUAL, S_NOT_EQUAL, E_NOT_EQUAL, S_LESS, E_LESS, S_LESS_OR_EQUAL, E_LESS_OR_EQUAL, S_GREATER, E_GREATER, S_GREATER_OR_EQUAL, E_GREATER_OR_EQUAL, F_EQUAL_ordinal, F_LESS_ordinal, F_NOT_EQUAL_ordinal, F_GREATER_ordinal, F_LESS_OR_EQUAL_ordinal, F_GREATER_OR_EQUAL_ordinal⟩ := id F177
      refine s_getS B X177 (pc' := 22) e177 (tw8 hw) Via.refl S_LESS at_19 rfl (fun T178 X178 e178 => ?_)
      refine s_stR B X178 (pc' := 23) (jn := 2) e178 A177 rfl (Ary.sto A177 V173 (Ins.self E_LESS)) (by decide) (by decide) (by decide) at_22 rfl (fun T179 h179 X179 e179 W179 A179 => ?_)
      replace A179 := A179.full (show 2 < 6 by decide) (L' := [(.ref w_EQUAL), (.ref w_NOT_EQUAL), (.ref w_LESS), .null, .null, .null]) rfl
      have N179 := Fr.snoc X179 N177 ge_o173
      have O179 := (O177).wr W179 ge_o173
      have F179 := OwnF.ext O179.2 F0
      show Go p e below _ (T179.setTop (mkF m 23 #[.val (.int i0), .val (.int i1), .unset, .unset, .unset, .unset, .unset, .unset, .unset, .unset, .unset] [(.ref o173)]))
      refine s_dup B X179 (pc' := 24) at_23 rfl rfl ?_
      refine s_iconst B X179 (pc' := 25) (v := (3 : Int32)) at_24 rfl rfl ?_
      obtain ⟨S_EQUAL, E_EQUAL, S_NOT_EQUAL, E_NOT_EQUAL, S_LESS, E_LESS, S_LESS_OR_EQUAL, E_LESS_OR_EQUAL, S_GREATER, E_GREATER, S_GREATER_OR_EQUAL, E_GREATER_OR_EQUAL, F_EQUAL_ordinal, F_LESS_ordinal, F_NOT_EQUAL_ordinal, F_GREATER_ordinal, F_LESS_OR_EQUAL_ordinal, F_GREATER_OR_EQUAL_ordinal⟩ := id F179
      refine s_getS B X179 (pc' := 28) e179 (tw10 hw) Via.refl S_LESS_OR_EQUAL at_25 rfl (fun T180 X180 e180 => ?_)
      refine s_stR B X180 (pc' := 29) (jn := 3) e180 A179 rfl (Ary.sto A179 V173 (Ins.self E_LESS_OR_EQUAL)) (by decide) (by decide) (by decide) at_28 rfl (fun T181 h181 X181 e181 W181 A181 => ?_)
      replace A181 := A181.full (show 3 < 6 by decide) (L' := [(.ref w_EQUAL), (.ref w_NOT_EQUAL), (.ref w_LESS), (.ref w_LESS_OR_EQUAL), .null, .null]) rfl
      have N181 := Fr.snoc X181 N179 ge_o173
      have O181 := (O179).wr W181 ge_o173
      have F181 := OwnF.ext O181.2 F0
      show Go p e below _ (T181.setTop (mkF m 29 #[.val (.int i0), .val (.int i1), .unset, .unset, .unset, .unset, .unset, .unset, .unset, .unset, .unset] [(.ref o173)]))
      refine s_dup B X181 (pc' := 30) at_29 rfl rfl ?_
      refine s_iconst B X181 (pc' := 31) (v := (4 : Int32)) at_30 rfl rfl ?_
      obtain ⟨S_EQUAL, E_EQUAL, S_NOT_EQUAL, E_NOT_EQUAL, S_LESS, E_LESS, S_LESS_OR_EQUAL, E_LESS_OR_EQUAL, S_GREATER, E_GREATER, S_GREATER_OR_EQUAL, E_GREATER_OR_EQUAL, F_EQUAL_ordinal, F_LESS_ordinal, F_NOT_EQUAL_ordinal, F_GREATER_ordinal, F_LESS_OR_EQUAL_ordinal, F_GREATER_OR_EQUAL_ordinal⟩ := id F181
      refine s_getS B X181 (pc' := 34) e181 (tw12 hw) Via.refl S_GREATER at_31 rfl (fun T182 X182 e182 => ?_)
      refine s_stR B X182 (pc' := 35) (jn := 4) e182 A181 rfl (Ary.sto A181 V173 (Ins.self E_GREATER)) (by decide) (by decide) (by decide) at_34 rfl (fun T183 h183 X183 e183 W183 A183 => ?_)
      replace A183 := A183.full (show 4 < 6 by decide) (L' := [(.ref w_EQUAL), (.ref w_NOT_EQUAL), (.ref w_LESS), (.ref w_LESS_OR_EQUAL), (.ref w_GREATER), .null]) rfl
      have N183 := Fr.snoc X183 N181 ge_o173
      have O183 := (O181).wr W183 ge_o173
      have F183 := OwnF.ext O183.2 F0
      show Go p e below _ (T183.setTop (mkF m 35 #[.val (.int i0), .val (.int i1), .unset, .unset, .unset, .unset, .unset, .unset, .unset, .unset, .unset] [(.ref o173)]))
      refine s_dup B X183 (pc' := 36) at_35 rfl rfl ?_
      refine s_iconst B X183 (pc' := 37) (v := (5 : Int32)) at_36 rfl rfl ?_
      obtain ⟨S_EQUAL, E_EQUAL, S_NOT_EQUAL, E_NOT_EQUAL, S_LESS, E_LESS, S_LESS_OR_EQUAL, E_LESS_OR_EQUAL, S_GREATER, E_GREATER, S_GREATER_OR_EQUAL, E_GREATER_OR_EQUAL, F_EQUAL_ordinal, F_LESS_ordinal, F_NOT_EQUAL_ordinal, F_GREATER_ordinal, F_LESS_OR_EQUAL_ordinal, F_GREATER_OR_EQUAL_ordinal⟩ := id F183
      refine s_getS B X183 (pc' := 40) e183 (tw14 hw) Via.refl S_GREATER_OR_EQUAL at_37 rfl (fun T184 X184 e184 => ?_)
      refine s_stR B X184 (pc' := 41) (jn := 5) e184 A183 rfl (Ary.sto A183 V173 (Ins.self E_GREATER_OR_EQUAL)) (by decide) (by decide) (by decide) at_40 rfl (fun T185 h185 X185 e185 W185 A185 => ?_)
      replace A185 := A185.full (show 5 < 6 by decide) (L' := [(.ref w_EQUAL), (.ref w_NOT_EQUAL), (.ref w_LESS), (.ref w_LESS_OR_EQUAL), (.ref w_GREATER), (.ref w_GREATER_OR_EQUAL)]) rfl
      have N185 := Fr.snoc X185 N183 ge_o173
      have O185 := (O183).wr W185 ge_o173
      have F185 := OwnF.ext O185.2 F0
      show Go p e below _ (T185.setTop (mkF m 41 #[.val (.int i0), .val (.int i1), .unset, .unset, .unset, .unset, .unset, .unset, .unset, .unset, .unset] [(.ref o173)]))
      refine s_astoreN B X185 (pc' := 42) (Ls' := #[.val (.int i0), .val (.int i1), .val (.ref o173), .unset, .unset, .unset, .unset, .unset, .unset, .unset, .unset]) at_41 rfl rfl rfl ?_
      refine s_aloadN B X185 (pc' := 43) at_42 rfl rfl rfl ?_
      refine s_iloadN B X185 (pc' := 44) at_43 rfl rfl ?_
      refine s_ldc B X185 (pc' := 46) (v := (2147483647 : Int32)) (tw16 hw) at_44 rfl ?_
      refine s_iand B X185 (pc' := 47) (v := (i0 &&& (2147483647 : Int32))) at_46 rfl rfl ?_
      refine s_bipush B X185 (pc' := 49) (v := (6 : Int32)) at_47 rfl rfl ?_
      refine s_irem B X185 (pc' := 50) (v := (4 : Int32)) at_49 (hv106) (by decide) rfl ?_
      refine s_ldR B X185 (pc' := 51) (jn := 4) (v := (.ref w_GREATER)) e185 A185 rfl (by decide) (by decide) (by decide) rfl at_50 rfl ?_
      refine s_astoreN B X185 (pc' := 52) (Ls' := #[.val (.int i0), .val (.int i1), .val (.ref o173), .val (.ref w_GREATER), .unset, .unset, .unset, .unset, .unset, .unset, .unset]) at_51 rfl rfl rfl ?_
      refine s_iloadN B X185 (pc' := 53) at_52 rfl rfl ?_
      refine b_if_ge B X185 (py := 60) (pn := 56) at_53 (by decide) (by decide) rfl (fun _ => ?_) (fun q => absurd q hA)
      refine s_iconst B X185 (pc' := 61) (v := (0 : Int32)) at_60 rfl rfl ?_
      refine s_istore B X185 (pc' := 63) (Ls' := #[.val (.int i0), .val (.int i1), .val (.ref o173), .val (.ref w_GREATER), .val (.int (0 : Int32)), .unset, .unset, .unset, .unset, .unset, .unset]) at_61 rfl rfl ?_
      refine s_iloadN B X185 (pc' := 64) at_63 rfl rfl ?_
      refine b_if_ne B X185 (py := 71) (pn := 67) at_64 (by decide) (by decide) rfl (fun q => absurd hE q) (fun _ => ?_)
      refine s_iconst B X185 (pc' := 68) (v := (1 : Int32)) at_67 rfl rfl ?_
      refine s_goto B X185 (pc' := 72) at_68 (by decide) (by decide) ?_
      refine s_istore B X185 (pc' := 74) (Ls' := #[.val (.int i0), .val (.int i1), .val (.ref o173), .val (.ref w_GREATER), .val (.int (0 : Int32)), .val (.int (1 : Int32)), .unset, .unset, .unset, .unset, .unset]) at_72 rfl rfl ?_
      refine s_iloadN B X185 (pc' := 75) at_74 rfl rfl ?_
      refine b_if_le B X185 (py := 82) (pn := 78) at_75 (by decide) (by decide) rfl (fun _ => ?_) (fun q => absurd q hB)
      refine s_iconst B X185 (pc' := 83) (v := (0 : Int32)) at_82 rfl rfl ?_
      refine s_istore B X185 (pc' := 85) (Ls' := #[.val (.int i0), .val (.int i1), .val (.ref o173), .val (.ref w_GREATER), .val (.int (0 : Int32)), .val (.int (1 : Int32)), .val (.int (0 : Int32)), .unset, .unset, .unset, .unset]) at_83 rfl rfl ?_
      refine s_aloadN B X185 (pc' := 86) at_85 rfl rfl rfl ?_
      obtain ⟨S_EQUAL, E_EQUAL, S_NOT_EQUAL, E_NOT_EQUAL, S_LESS, E_LESS, S_LESS_OR_EQUAL, E_LESS_OR_EQUAL, S_GREATER, E_GREATER, S_GREATER_OR_EQUAL, E_GREATER_OR_EQUAL, F_EQUAL_ordinal, F_LESS_ordinal, F_NOT_EQUAL_ordinal, F_GREATER_ordinal, F_LESS_OR_EQUAL_ordinal, F_GREATER_OR_EQUAL_ordinal⟩ := id F185
      refine s_getS B X185 (pc' := 89) e185 (tw2 hw) Via.refl S_EQUAL at_86 rfl (fun T186 X186 e186 => ?_)
      refine b_acmp_ne B X186 (py := 104) (pn := 92) at_89 (by decide) (by decide) rfl (fun _ => ?_) (fun q => absurd q (own_ne_w_GREATER_w_EQUAL F185))
      refine s_aloadN B X186 (pc' := 105) at_104 rfl rfl rfl ?_
      refine s_getS B X186 (pc' := 108) e186 (tw6 hw) Via.refl S_NOT_EQUAL at_105 rfl (fun T187 X187 e187 => ?_)
      refine b_acmp_ne B X187 (py := 123) (pn := 111) at_108 (by decide) (by decide) rfl (fun _ => ?_) (fun q => absurd q (own_ne_w_GREATER_w_NOT_EQUAL F185))
      refine s_aloadN B X187 (pc' := 124) at_123 rfl rfl rfl ?_
      refine s_getS B X187 (pc' := 127) e187 (tw8 hw) Via.refl S_LESS at_124 rfl (fun T188 X188 e188 => ?_)
      refine b_acmp_ne B X188 (py := 142) (pn := 130) at_127 (by decide) (by decide) rfl (fun _ => ?_) (fun q => absurd q (own_ne_w_GREATER_w_LESS F185))
      refine s_aloadN B X188 (pc' := 143) at_142 rfl rfl rfl ?_
      refine s_getS B X188 (pc' := 146) e188 (tw10 hw) Via.refl S_LESS_OR_EQUAL at_143 rfl (fun T189 X189 e189 => ?_)
      refine b_acmp_ne B X189 (py := 161) (pn := 149) at_146 (by decide) (by decide) rfl (fun _ => ?_) (fun q => absurd q (own_ne_w_GREATER_w_LESS_OR_EQUAL F185))
      refine s_aloadN B X189 (pc' := 162) at_161 rfl rfl rfl ?_
      refine s_getS B X189 (pc' := 165) e189 (tw12 hw) Via.refl S_GREATER at_162 rfl (fun T190 X190 e190 => ?_)
      refine b_acmp_ne B X190 (py := 180) (pn := 168) at_165 (by decide) (by decide) rfl (fun q => absurd rfl q) (fun _ => ?_)
      refine s_iconst B X190 (pc' := 169) (v := (0 : Int32)) at_168 rfl rfl ?_
      refine s_istore B X190 (pc' := 171) (Ls' := #[.val (.int i0), .val (.int i1), .val (.ref o173), .val (.ref w_GREATER), .val (.int (0 : Int32)), .val (.int (1 : Int32)), .val (.int (0 : Int32)), .val (.int (0 : Int32)), .unset, .unset, .unset]) at_169 rfl rfl ?_
      refine s_iconst B X190 (pc' := 172) (v := (0 : Int32)) at_171 rfl rfl ?_
      refine s_istore B X190 (pc' := 174) (Ls' := #[.val (.int i0), .val (.int i1), .val (.ref o173), .val (.ref w_GREATER), .val (.int (0 : Int32)), .val (.int (1 : Int32)), .val (.int (0 : Int32)), .val (.int (0 : Int32)), .val (.int (0 : Int32)), .unset, .unset]) at_172 rfl rfl ?_
      refine s_iconst B X190 (pc' := 175) (v := (1 : Int32)) at_174 rfl rfl ?_
      refine s_istore B X190 (pc' := 177) (Ls' := #[.val (.int i0), .val (.int i1), .val (.ref o173), .val (.ref w_GREATER), .val (.int (0 : Int32)), .val (.int (1 : Int32)), .val (.int (0 : Int32)), .val (.int (0 : Int32)), .val (.int (0 : Int32)), .val (.int (1 : Int32)), .unset]) at_175 rfl rfl ?_
      refine s_goto B X190 (pc' := 189) at_177 (by decide) (by decide) ?_
      refine s_iload B X190 (pc' := 191) at_189 rfl rfl ?_
      refine s_ifY B X190 (pc' := 199) at_191 (by decide) (by decide) (by decide) ?_
      refine s_iload B X190 (pc' := 201) at_199 rfl rfl ?_
      refine s_ifN B X190 (pc' := 204) at_201 (by decide) rfl ?_
      refine s_iload B X190 (pc' := 206) at_204 rfl rfl ?_
      refine s_ifN B X190 (pc' := 209) at_206 (by decide) rfl ?_
      refine s_iload B X190 (pc' := 211) at_209 rfl rfl ?_
      refine s_ifY B X190 (pc' := 223) at_211 (by decide) (by decide) (by decide) ?_
      refine s_iconst B X190 (pc' := 224) (v := (0 : Int32)) at_223 rfl rfl ?_
      refine s_istore B X190 (pc' := 226) (Ls' := #[.val (.int i0), .val (.int i1), .val (.ref o173), .val (.ref w_GREATER), .val (.int (0 : Int32)), .val (.int (1 : Int32)), .val (.int (0 : Int32)), .val (.int (0 : Int32)), .val (.int (0 : Int32)), .val (.int (1 : Int32)), .val (.int (0 : Int32))]) at_224 rfl rfl ?_
      refine s_aloadN B X190 (pc' := 227) at_226 rfl rfl rfl ?_
      refine s_iloadN B X190 (pc' := 228) at_227 rfl rfl ?_
      refine p_virtual B X190 (y := mn2) (pc' := 231) (argsL := [(.int i1)]) (under := []) (W := 0) e190 (tw17 hw) (tw18 hw) (tw20 hw) (tw19 hw) (tw21 hw) (tw3 hw) (by decide) (rm1_16 l Z a0 hw i1 w_EQUAL w_NOT_EQUAL w_LESS w_LESS_OR_EQUAL w_GREATER w_GREATER_OR_EQUAL h185 F185 hA hB hE) E_GREATER (lenOf pd_1 rfl) rfl rfl (by decide) (by decide) rfl rfl (by decide) (by decide) rfl at_228 rfl (fun T191 X191 e191 => ?_)
      show Go p e below _ (T191.setTop (mkF m 231 #[.val (.int i0), .val (.int i1), .val (.ref o173), .val (.ref w_GREATER), .val (.int (0 : Int32)), .val (.int (1 : Int32)), .val (.int (0 : Int32)), .val (.int (0 : Int32)), .val (.int (0 : Int32)), .val (.int (1 : Int32)), .val (.int (0 : Int32))] [(.int (0 : Int32))]))
      refine s_iload B X191 (pc' := 233) at_231 rfl rfl ?_
      refine s_icmpN B X191 (pc' := 236) at_233 (by decide) rfl ?_
      refine s_iconst B X191 (pc' := 237) (v := (1 : Int32)) at_236 rfl rfl ?_
      refine s_goto B X191 (pc' := 241) at_237 (by decide) (by decide) ?_
      exact r_nar B X191 (t := .boolean) (by simp) rfl at_241 ⟨rfl, N185⟩ (by decide) (by decide)
    · refine s_bipush B X0 (pc' := 2) (v := (6 : Int32)) at_0 rfl rfl ?_
      refine s_newR B X0 (pc' := 5) (N := 6) (cap := 6) e0 (tw0 hw) (tw1 hw) (by decide) (by decide) (by decide) (by decide) (by decide) (by decide) at_2 rfl (fun T192 h192 o192 k192 g192 X192 e192 E192 A192 V192 => ?_)
      have ge_o192 : Z.heap.size ≤ o192 := g192 ▸ old_le (Old.start Z)
      replace A192 : Ary Z h192 o192 k192 (.object "com/example/upmob/upmob/Operator") 6 (lst [.null, .null, .null, .null, .null, .null] .null) := A192.congr (own_rep 6)
      have O192 := ((Old.start Z)).ext E192
      have F192 := OwnF.ext O192.2 F0
      show Go p e below _ (T192.setTop (mkF m 5 #[.val (.int i0), .val (.int i1), .unset, .unset, .unset, .unset, .unset, .unset, .unset, .unset, .unset] [(.ref o192)]))
      refine s_dup B X192 (pc' := 6) at_5 rfl rfl ?_
      refine s_iconst B X192 (pc' := 7) (v := (0 : Int32)) at_6 rfl rfl ?_
      obtain ⟨S_EQUAL, E_EQUAL, S_NOT_EQUAL, E_NOT_EQUAL, S_LESS, E_LESS, S_LESS_OR_EQUAL, E_LESS_OR_EQUAL, S_GREATER, E_GREATER, S_GREATER_OR_EQUAL, E_GREATER_OR_EQUAL, F_EQUAL_ordinal, F_LESS_ordinal, F_NOT_EQUAL_ordinal, F_GREATER_ordinal, F_LESS_OR_EQUAL_ordinal, F_GREATER_OR_EQUAL_ordinal⟩ := id F192
      refine s_getS B X192 (pc' := 10) e192 (tw2 hw) Via.refl S_EQUAL at_7 rfl (fun T193 X193 e193 => ?_)
      refine s_stR B X193 (pc' := 11) (jn := 0) e193 A192 rfl (Ary.sto A192 V192 (Ins.self E_EQUAL)) (by decide) (by decide) (by decide) at_10 rfl (fun T194 h194 X194 e194 W194 A194 => ?_)
      replace A194 := A194.full (show 0 < 6 by decide) (L' := [(.ref w_EQUAL), .null, .null, .null, .null, .null]) rfl
      have N194 := Fr.snoc X194 (Fr.nil _) ge_o192
      have O194 := (O192).wr W194 ge_o192
      have F194 := OwnF.ext O194.2 F0
      show Go p e below _ (T194.setTop (mkF m 11 #[.val (.int i0), .val (.int i1), .unset, .unset, .unset, .unset, .unset, .unset, .unset, .unset, .unset] [(.ref o192)]))
      refine s_dup B X194 (pc' := 12) at_11 rfl rfl ?_
      refine s_iconst B X194 (pc' := 13) (v := (1 : Int32)) at_12 rfl rfl ?_
      obtain ⟨S_EQUAL, E_EQUAL, S_NOT_EQUAL, E_NOT_EQUAL, S_LESS, E_LESS, S_LESS_OR_EQUAL, E_LESS_OR_EQUAL, S_GREATER, E_GREATER, S_GREATER_OR_EQUAL, E_GREATER_OR_EQUAL, F_EQUAL_ordinal, F_LESS_ordinal, F_NOT_EQUAL_ordinal, F_GREATER_ordinal, F_LESS_OR_EQUAL_ordinal, F_GREATER_OR_EQUAL_ordinal⟩ := id F194
      refine s_getS B X194 (pc' := 16) e194 (tw6 hw) Via.refl S_NOT_EQUAL at_13 rfl (fun T195 X195 e195 => ?_)
      refine s_stR B X195 (pc' := 17) (jn := 1) e195 A194 rfl (Ary.sto A194 V192 (Ins.self E_NOT_EQUAL)) (by decide) (by decide) (by decide) at_16 rfl (fun T196 h196 X196 e196 W196 A196 => ?_)
      replace A196 := A196.full (show 1 < 6 by decide) (L' := [(.ref w_EQUAL), (.ref w_NOT_EQUAL), .null, .null, .null, .null]) rfl
      have N196 := Fr.snoc X196 N194 ge_o192
      have O196 := (O194).wr W196 ge_o192
      have F196 := OwnF.ext O196.2 F0
      show Go p e below _ (T196.setTop (mkF m 17 #[.val (.int i0), .val (.int i1), .unset, .unset, .unset, .unset, .unset, .unset, .unset, .unset, .unset] [(.ref o192)]))
      refine s_dup B X196 (pc' := 18) at_17 rfl rfl ?_
      refine s_iconst B X196 (pc' := 19) (v := (2 : Int32)) at_18 rfl rfl ?_
      obtain ⟨S_EQUAL, E_EQUAL, S_NOT_EQUAL, E_NOT_EQUAL, S_LESS, E_LESS, S_LESS_OR_EQUAL, E_LESS_OR_EQUAL, S_GREATER, E_GREATER, S_GREATER_OR_EQUAL, E_GREATER_OR_EQUAL, F_EQUAL_ordinal, F_LESS_ordinal, F_NOT_EQUAL_ordinal, F_GREATER_ordinal, F_LESS_OR_EQUAL_ordinal, F_GREATER_OR_EQUAL_ordinal⟩ := id F196
      refine s_getS B X196 (pc' := 22) e196 (tw8 hw) Via.refl S_LESS at_19 rfl (fun T197 X197 e197 => ?_)
      refine s_stR B X197 (pc' := 23) (jn := 2) e197 A196 rfl (Ary.sto A196 V192 (Ins.self E_LESS)) (by decide) (by decide) (by decide) at_22 rfl (fun T198 h198 X198 e198 W198 A198 => ?_)
      replace A198 := A198.full (show 2 < 6 by decide) (L' := [(.ref w_EQUAL), (.ref w_NOT_EQUAL), (.ref w_LESS), .null, .null, .null]) rfl
      have N198 := Fr.snoc X198 N196 ge_o192
      have O198 := (O196).wr W198 ge_o192
      have F198 := OwnF.ext O198.2 F0
      show Go p e below _ (T198.setTop (mkF m 23 #[.val (.int i0), .val (.int i1), .unset, .unset, .unset, .unset, .unset, .unset, .unset, .unset, .unset] [(.ref o192)]))
      refine s_dup B X198 (pc' := 24) at_23 rfl rfl ?_
      refine s_iconst B X198 (pc' := 25) (v := (3 : Int32)) at_24 rfl rfl ?_
      obtain ⟨S_EQUAL, E_EQUAL, S_NOT_EQUAL, E_NOT_EQUAL, S_LESS, E_LESS, S_LESS_OR_EQUAL, E_LESS_OR_EQUAL, S_GREATER, E_GREATER, S_GREATER_OR_EQUAL, E_GREATER_OR_EQUAL, F_EQUAL_ordinal, F_LESS_ordinal, F_NOT_EQUAL_ordinal, F_GREATER_ordinal, F_LESS_OR_EQUAL_ordinal, F_GREATER_OR_EQUAL_ordinal⟩ := id F198
      refine s_getS B X198 (pc' := 28) e198 (tw10 hw) Via.refl S_LESS_OR_EQUAL at_25 rfl (fun T199 X199 e199 => ?_)
      refine s_stR B X199 (pc' := 29) (jn := 3) e199 A198 rfl (Ary.sto A198 V192 (Ins.self E_LESS_OR_EQUAL)) (by decide) (by decide) (by decide) at_28 rfl (fun T200 h200 X200 e200 W200 A200 => ?_)
      replace A200 := A200.full (show 3 < 6 by decide) (L' := [(.ref w_EQUAL), (.ref w_NOT_EQUAL), (.ref w_LESS), (.ref w_LESS_OR_EQUAL), .null, .null]) rfl
      have N200 := Fr.snoc X200 N198 ge_o192
      have O200 := (O198).wr W200 ge_o192
      have F200 := OwnF.ext O200.2 F0
      show Go p e below _ (T200.setTop (mkF m 29 #[.val (.int i0), .val (.int i1), .unset, .unset, .unset, .unset, .unset, .unset, .unset, .unset, .unset] [(.ref o192)]))
      refine s_dup B X200 (pc' := 30) at_29 rfl rfl ?_
      refine s_iconst B X200 (pc' := 31) (v := (4 : Int32)) at_30 rfl rfl ?_
      obtain ⟨S_EQUAL, E_EQUAL, S_NOT_EQUAL, E_NOT_EQUAL, S_LESS, E_LESS, S_LESS_OR_EQUAL, E_LESS_OR_EQUAL, S_GREATER, E_GREATER, S_GREATER_OR_EQUAL, E_GREATER_OR_EQUAL, F_EQUAL_ordinal, F_LESS_ordinal, F_NOT_EQUAL_ordinal, F_GREATER_ordinal, F_LESS_OR_EQUAL_ordinal, F_GREATER_OR_EQUAL_ordinal⟩ := id F200
      refine s_getS B X200 (pc' := 34) e200 (tw12 hw) Via.refl S_GREATER at_31 rfl (fun T201 X201 e201 => ?_)
      refine s_stR B X201 (pc' := 35) (jn := 4) e201 A200 rfl (Ary.sto A200 V192 (Ins.self E_GREATER)) (by decide) (by decide) (by decide) at_34 rfl (fun T202 h202 X202 e202 W202 A202 => ?_)
      replace A202 := A202.full (show 4 < 6 by decide) (L' := [(.ref w_EQUAL), (.ref w_NOT_EQUAL), (.ref w_LESS), (.ref w_LESS_OR_EQUAL), (.ref w_GREATER), .null]) rfl
      have N202 := Fr.snoc X202 N200 ge_o192
      have O202 := (O200).wr W202 ge_o192
      have F202 := OwnF.ext O202.2 F0
      show Go p e below _ (T202.setTop (mkF m 35 #[.val (.int i0), .val (.int i1), .unset, .unset, .unset, .unset, .unset, .unset, .unset, .unset, .unset] [(.ref o192)]))
      refine s_dup B X202 (pc' := 36) at_35 rfl rfl ?_
      refine s_iconst B X202 (pc' := 37) (v := (5 : Int32)) at_36 rfl rfl ?_
      obtain ⟨S_EQUAL, E_EQUAL, S_NOT_EQUAL, E_NOT_EQUAL, S_LESS, E_LESS, S_LESS_OR_EQUAL, E_LESS_OR_EQUAL, S_GREATER, E_GREATER, S_GREATER_OR_EQUAL, E_GREATER_OR_EQUAL, F_EQUAL_ordinal, F_LESS_ordinal, F_NOT_EQUAL_ordinal, F_GREATER_ordinal, F_LESS_OR_EQUAL_ordinal, F_GREATER_OR_EQUAL_ordinal⟩ := id F202
      refine s_getS B X202 (pc' := 40) e202 (tw14 hw) Via.refl S_GREATER_OR_EQUAL at_37 rfl (fun T203 X203 e203 => ?_)
      refine s_stR B X203 (pc' := 41) (jn := 5) e203 A202 rfl (Ary.sto A202 V192 (Ins.self E_GREATER_OR_EQUAL)) (by decide) (by decide) (by decide) at_40 rfl (fun T204 h204 X204 e204 W204 A204 => ?_)
      replace A204 := A204.full (show 5 < 6 by decide) (L' := [(.ref w_EQUAL), (.ref w_NOT_EQUAL), (.ref w_LESS), (.ref w_LESS_OR_EQUAL), (.ref w_GREATER), (.ref w_GREATER_OR_EQUAL)]) rfl
      have N204 := Fr.snoc X204 N202 ge_o192
      have O204 := (O202).wr W204 ge_o192
      have F204 := OwnF.ext O204.2 F0
      show Go p e below _ (T204.setTop (mkF m 41 #[.val (.int i0), .val (.int i1), .unset, .unset, .unset, .unset, .unset, .unset, .unset, .unset, .unset] [(.ref o192)]))
      refine s_astoreN B X204 (pc' := 42) (Ls' := #[.val (.int i0), .val (.int i1), .val (.ref o192), .unset, .unset, .unset, .unset, .unset, .unset, .unset, .unset]) at_41 rfl rfl rfl ?_
      refine s_aloadN B X204 (pc' := 43) at_42 rfl rfl rfl ?_
      refine s_iloadN B X204 (pc' := 44) at_43 rfl rfl ?_
      refine s_ldc B X204 (pc' := 46) (v := (2147483647 : Int32)) (tw16 hw) at_44 rfl ?_
      refine s_iand B X204 (pc' := 47) (v := (i0 &&& (2147483647 : Int32))) at_46 rfl rfl ?_
      refine s_bipush B X204 (pc' := 49) (v := (6 : Int32)) at_47 rfl rfl ?_
      refine s_irem B X204 (pc' := 50) (v := (5 : Int32)) at_49 (hv106) (by decide) rfl ?_
      refine s_ldR B X204 (pc' := 51) (jn := 5) (v := (.ref w_GREATER_OR_EQUAL)) e204 A204 rfl (by decide) (by decide) (by decide) rfl at_50 rfl ?_
      refine s_astoreN B X204 (pc' := 52) (Ls' := #[.val (.int i0), .val (.int i1), .val (.ref o192), .val (.ref w_GREATER_OR_EQUAL), .unset, .unset, .unset, .unset, .unset, .unset, .unset]) at_51 rfl rfl rfl ?_
      refine s_iloadN B X204 (pc' := 53) at_52 rfl rfl ?_
      refine b_if_ge B X204 (py := 60) (pn := 56) at_53 (by decide) (by decide) rfl (fun _ => ?_) (fun q => absurd q hA)
      refine s_iconst B X204 (pc' := 61) (v := (0 : Int32)) at_60 rfl rfl ?_
      refine s_istore B X204 (pc' := 63) (Ls' := #[.val (.int i0), .val (.int i1), .val (.ref o192), .val (.ref w_GREATER_OR_EQUAL), .val (.int (0 : Int32)), .unset, .unset, .unset, .unset, .unset, .unset]) at_61 rfl rfl ?_
      refine s_iloadN B X204 (pc' := 64) at_63 rfl rfl ?_
      refine b_if_ne B X204 (py := 71) (pn := 67) at_64 (by decide) (by decide) rfl (fun q => absurd hE q) (fun _ => ?_)
      refine s_iconst B X204 (pc' := 68) (v := (1 : Int32)) at_67 rfl rfl ?_
      refine s_goto B X204 (pc' := 72) at_68 (by decide) (by decide) ?_
      refine s_istore B X204 (pc' := 74) (Ls' := #[.val (.int i0), .val (.int i1), .val (.ref o192), .val (.ref w_GREATER_OR_EQUAL), .val (.int (0 : Int32)), .val (.int (1 : Int32)), .unset, .unset, .unset, .unset, .unset]) at_72 rfl rfl ?_
      refine s_iloadN B X204 (pc' := 75) at_74 rfl rfl ?_
      refine b_if_le B X204 (py := 82) (pn := 78) at_75 (by decide) (by decide) rfl (fun _ => ?_) (fun q => absurd q hB)
      refine s_iconst B X204 (pc' := 83) (v := (0 : Int32)) at_82 rfl rfl ?_
      refine s_istore B X204 (pc' := 85) (Ls' := #[.val (.int i0), .val (.int i1), .val (.ref o192), .val (.ref w_GREATER_OR_EQUAL), .val (.int (0 : Int32)), .val (.int (1 : Int32)), .val (.int (0 : Int32)), .unset, .unset, .unset, .unset]) at_83 rfl rfl ?_
      refine s_aloadN B X204 (pc' := 86) at_85 rfl rfl rfl ?_
      obtain ⟨S_EQUAL, E_EQUAL, S_NOT_EQUAL, E_NOT_EQUAL, S_LESS, E_LESS, S_LESS_OR_EQUAL, E_LESS_OR_EQUAL, S_GREATER, E_GREATER, S_GREATER_OR_EQUAL, E_GREATER_OR_EQUAL, F_EQUAL_ordinal, F_LESS_ordinal, F_NOT_EQUAL_ordinal, F_GREATER_ordinal, F_LESS_OR_EQUAL_ordinal, F_GREATER_OR_EQUAL_ordinal⟩ := id F204
      refine s_getS B X204 (pc' := 89) e204 (tw2 hw) Via.refl S_EQUAL at_86 rfl (fun T205 X205 e205 => ?_)
      refine b_acmp_ne B X205 (py := 104) (pn := 92) at_89 (by decide) (by decide) rfl (fun _ => ?_) (fun q => absurd q (own_ne_w_GREATER_OR_EQUAL_w_EQUAL F204))
      refine s_aloadN B X205 (pc' := 105) at_104 rfl rfl rfl ?_
      refine s_getS B X205 (pc' := 108) e205 (tw6 hw) Via.refl S_NOT_EQUAL at_105 rfl (fun T206 X206 e206 => ?_)
      refine b_acmp_ne B X206 (py := 123) (pn := 111) at_108 (by decide) (by decide) rfl (fun _ => ?_) (fun q => absurd q (own_ne_w_GREATER_OR_EQUAL_w_NOT_EQUAL F204))
      refine s_aloadN B X206 (pc' := 124) at_123 rfl rfl rfl ?_
      refine s_getS B X206 (pc' := 127) e206 (tw8 hw) Via.refl S_LESS at_124 rfl (fun T207 X207 e207 => ?_)
      refine b_acmp_ne B X207 (py := 142) (pn := 130) at_127 (by decide) (by decide) rfl (fun _ => ?_) (fun q => absurd q (own_ne_w_GREATER_OR_EQUAL_w_LESS F204))
      refine s_aloadN B X207 (pc' := 143) at_142 rfl rfl rfl ?_
      refine s_getS B X207 (pc' := 146) e207 (tw10 hw) Via.refl S_LESS_OR_EQUAL at_143 rfl (fun T208 X208 e208 => ?_)
      refine b_acmp_ne B X208 (py := 161) (pn := 149) at_146 (by decide) (by decide) rfl (fun _ => ?_) (fun q => absurd q (own_ne_w_GREATER_OR_EQUAL_w_LESS_OR_EQUAL F204))
      refine s_aloadN B X208 (pc' := 162) at_161 rfl rfl rfl ?_
      refine s_getS B X208 (pc' := 165) e208 (tw12 hw) Via.refl S_GREATER at_162 rfl (fun T209 X209 e209 => ?_)
      refine b_acmp_ne B X209 (py := 180) (pn := 168) at_165 (by decide) (by decide) rfl (fun _ => ?_) (fun q => absurd q (own_ne_w_GREATER_OR_EQUAL_w_GREATER F204))
      refine s_iconst B X209 (pc' := 181) (v := (0 : Int32)) at_180 rfl rfl ?_
      refine s_istore B X209 (pc' := 183) (Ls' := #[.val (.int i0), .val (.int i1), .val (.ref o192), .val (.ref w_GREATER_OR_EQUAL), .val (.int (0 : Int32)), .val (.int (1 : Int32)), .val (.int (0 : Int32)), .val (.int (0 : Int32)), .unset, .unset, .unset]) at_181 rfl rfl ?_
      refine s_iconst B X209 (pc' := 184) (v := (1 : Int32)) at_183 rfl rfl ?_
      refine s_istore B X209 (pc' := 186) (Ls' := #[.val (.int i0), .val (.int i1), .val (.ref o192), .val (.ref w_GREATER_OR_EQUAL), .val (.int (0 : Int32)), .val (.int (1 : Int32)), .val (.int (0 : Int32)), .val (.int (0 : Int32)), .val (.int (1 : Int32)), .unset, .unset]) at_184 rfl rfl ?_
      refine s_iconst B X209 (pc' := 187) (v := (1 : Int32)) at_186 rfl rfl ?_
      refine s_istore B X209 (pc' := 189) (Ls' := #[.val (.int i0), .val (.int i1), .val (.ref o192), .val (.ref w_GREATER_OR_EQUAL), .val (.int (0 : Int32)), .val (.int (1 : Int32)), .val (.int (0 : Int32)), .val (.int (0 : Int32)), .val (.int (1 : Int32)), .val (.int (1 : Int32)), .unset]) at_187 rfl rfl ?_
      refine s_iload B X209 (pc' := 191) at_189 rfl rfl ?_
      refine s_ifY B X209 (pc' := 199) at_191 (by decide) (by decide) (by decide) ?_
      refine s_iload B X209 (pc' := 201) at_199 rfl rfl ?_
      refine s_ifN B X209 (pc' := 204) at_201 (by decide) rfl ?_
      refine s_iload B X209 (pc' := 206) at_204 rfl rfl ?_
      refine s_ifY B X209 (pc' := 219) at_206 (by decide) (by decide) (by decide) ?_
      refine s_iconst B X209 (pc' := 220) (v := (1 : Int32)) at_219 rfl rfl ?_
      refine s_goto B X209 (pc' := 224) at_220 (by decide) (by decide) ?_
      refine s_istore B X209 (pc' := 226) (Ls' := #[.val (.int i0), .val (.int i1), .val (.ref o192), .val (.ref w_GREATER_OR_EQUAL), .val (.int (0 : Int32)), .val (.int (1 : Int32)), .val (.int (0 : Int32)), .val (.int (0 : Int32)), .val (.int (1 : Int32)), .val (.int (1 : Int32)), .val (.int (1 : Int32))]) at_224 rfl rfl ?_
      refine s_aloadN B X209 (pc' := 227) at_226 rfl rfl rfl ?_
      refine s_iloadN B X209 (pc' := 228) at_227 rfl rfl ?_
      refine p_virtual B X209 (y := mn2) (pc' := 231) (argsL := [(.int i1)]) (under := []) (W := 0) e209 (tw17 hw) (tw18 hw) (tw20 hw) (tw19 hw) (tw21 hw) (tw3 hw) (by decide) (rm1_17 l Z a0 hw i1 w_EQUAL w_NOT_EQUAL w_LESS w_LESS_OR_EQUAL w_GREATER w_GREATER_OR_EQUAL h204 F204 hA hB hE) E_GREATER_OR_EQUAL (lenOf pd_1 rfl) rfl rfl (by decide) (by decide) rfl rfl (by decide) (by decide) rfl at_228 rfl (fun T210 X210 e210 => ?_)
      show Go p e below _ (T210.setTop (mkF m 231 #[.val (.int i0), .val (.int i1), .val (.ref o192), .val (.ref w_GREATER_OR_EQUAL), .val (.int (0 : Int32)), .val (.int (1 : Int32)), .val (.int (0 : Int32)), .val (.int (0 : Int32)), .val (.int (1 : Int32)), .val (.int (1 : Int32)), .val (.int (1 : Int32))] [(.int (1 : Int32))]))
      refine s_iload B X210 (pc' := 233) at_231 rfl rfl ?_
      refine s_icmpN B X210 (pc' := 236) at_233 (by decide) rfl ?_
      refine s_iconst B X210 (pc' := 237) (v := (1 : Int32)) at_236 rfl rfl ?_
      refine s_goto B X210 (pc' := 241) at_237 (by decide) (by decide) ?_
      exact r_nar B X210 (t := .boolean) (by simp) rfl at_241 ⟨rfl, N204⟩ (by decide) (by decide)
  · rcases own_rem6 i0 with hv211 | hv211 | hv211 | hv211 | hv211 | hv211
    · refine s_bipush B X0 (pc' := 2) (v := (6 : Int32)) at_0 rfl rfl ?_
      refine s_newR B X0 (pc' := 5) (N := 6) (cap := 6) e0 (tw0 hw) (tw1 hw) (by decide) (by decide) (by decide) (by decide) (by decide) (by decide) at_2 rfl (fun T212 h212 o212 k212 g212 X212 e212 E212 A212 V212 => ?_)
      have ge_o212 : Z.heap.size ≤ o212 := g212 ▸ old_le (Old.start Z)
      replace A212 : Ary Z h212 o212 k212 (.object "com/example/upmob/upmob/Operator") 6 (lst [.null, .null, .null, .null, .null, .null] .null) := A212.congr (own_rep 6)
      have O212 := ((Old.start Z)).ext E212
      have F212 := OwnF.ext O212.2 F0
      show Go p e below _ (T212.setTop (mkF m 5 #[.val (.int i0), .val (.int i1), .unset, .unset, .unset, .unset, .unset, .unset, .unset, .unset, .unset] [(.ref o212)]))
      refine s_dup B X212 (pc' := 6) at_5 rfl rfl ?_
      refine s_iconst B X212 (pc' := 7) (v := (0 : Int32)) at_6 rfl rfl ?_
      obtain ⟨S_EQUAL, E_EQUAL, S_NOT_EQUAL, E_NOT_EQUAL, S_LESS, E_LESS, S_LESS_OR_EQUAL, E_LESS_OR_EQUAL, S_GREATER, E_GREATER, S_GREATER_OR_EQUAL, E_GREATER_OR_EQUAL, F_EQUAL_ordinal, F_LESS_ordinal, F_NOT_EQUAL_ordinal, F_GREATER_ordinal, F_LESS_OR_EQUAL_ordinal, F_GREATER_OR_EQUAL_ordinal⟩ := id F212
      refine s_getS B X212 (pc' := 10) e212 (tw2 hw) Via.refl S_EQUAL at_7 rfl (fun T213 X213 e213 => ?_)
      refine s_stR B X213 (pc' := 11) (jn := 0) e213 A212 rfl (Ary.sto A212 V212 (Ins.self E_EQUAL)) (by decide) (by decide) (by decide) at_10 rfl (fun T214 h214 X214 e214 W214 A214 => ?_)
      replace A214 := A214.full (show 0 < 6 by decide) (L' := [(.ref w_EQUAL), .null, .null, .null, .null, .null]) rfl
      have N214 := Fr.snoc X214 (Fr.nil _) ge_o212
      have O214 := (O212).wr W214 ge_o212
      have F214 := OwnF.ext O214.2 F0
      show Go p e below _ (T214.setTop (mkF m 11 #[.val (.int i0), .val (.int i1), .unset, .unset, .unset, .unset, .unset, .unset, .unset, .unset, .unset] [(.ref o212)]))
      refine s_dup B X214 (pc' := 12) at_11 rfl rfl ?_
      refine s_iconst B X214 (pc' := 13) (v := (1 : Int32)) at_12 rfl rfl ?_
      obtain ⟨S_EQUAL, E_EQUAL, S_NOT_EQUAL, E_NOT_EQUAL, S_LESS, E_LESS, S_LESS_OR_EQUAL, E_LESS_OR_EQUAL, S_GREATER, E_GREATER, S_GREATER_OR_EQUAL, E_GREATER_OR_EQUAL, F_EQUAL_ordinal, F_LESS_ordinal, F_NOT_EQUAL_ordinal, F_GREATER_ordinal, F_LESS_OR_EQUAL_ordinal, F_GREATER_OR_EQUAL_ordinal⟩ := id F214
      refine s_getS B X214 (pc' := 16) e214 (tw6 hw) Via.refl S_NOT_EQUAL at_13 rfl (fun T215 X215 e215 => ?_)
      refine s_stR B X215 (pc' := 17) (jn := 1) e215 A214 rfl (Ary.sto A214 V212 (Ins.self E_NOT_EQUAL)) (by decide) (by decide) (by decide) at_16 rfl (fun T216 h216 X216 e216 W216 A216 => ?_)
      replace A216 := A216.full (show 1 < 6 by decide) (L' := [(.ref w_EQUAL), (.ref w_NOT_EQUAL), .null, .null, .null, .null]) rfl
      have N216 := Fr.snoc X216 N214 ge_o212
      have O216 := (O214).wr W216 ge_o212
      have F216 := OwnF.ext O216.2 F0
      show Go p e below _ (T216.setTop (mkF m 17 #[.val (.int i0), .val (.int i1), .unset, .unset, .unset, .unset, .unset, .unset, .unset, .unset, .unset] [(.ref o212)]))
      refine s_dup B X216 (pc' := 18) at_17 rfl rfl ?_
      refine s_iconst B X216 (pc' := 19) (v := (2 : Int32)) at_18 rfl rfl ?_
      obtain ⟨S_EQUAL, E_EQUAL, S_NOT_EQUAL, E_NOT_EQUAL, S_LESS, E_LESS, S_LESS_OR_EQUAL, E_LESS_OR_EQUAL, S_GREATER, E_GREATER, S_GREATER_OR_EQUAL, E_GREATER_OR_EQUAL, F_EQUAL_ordinal, F_LESS_ordinal, F_NOT_EQUAL_ordinal, F_GREATER_ordinal, F_LESS_OR_EQUAL_ordinal, F_GREATER_OR_EQUAL_ordinal⟩ := id F216
      refine s_getS B X216 (pc' := 22) e216 (tw8 hw) Via.refl S_LESS at_19 rfl (fun T217 X217 e217 => ?_)
      refine s_stR B X217 (pc' := 23) (jn := 2) e217 A216 rfl (Ary.sto A216 V212 (Ins.self E_LESS)) (by decide) (by decide) (by decide) at_22 rfl (fun T218 h218 X218 e218 W218 A218 => ?_)
      replace A218 := A218.full (show 2 < 6 by decide) (L' := [(.ref w_EQUAL), (.ref w_NOT_EQUAL), (.ref w_LESS), .null, .null, .null]) rfl
      have N218 := Fr.snoc X218 N216 ge_o212
      have O218 := (O216).wr W218 ge_o212
      have F218 := OwnF.ext O218.2 F0
      show Go p e below _ (T218.setTop (mkF m 23 #[.val (.int i0), .val (.int i1), .unset, .unset, .unset, .unset, .unset, .unset, .unset, .unset, .unset] [(.ref o212)]))
      refine s_dup B X218 (pc' := 24) at_23 rfl rfl ?_
      refine s_iconst B X218 (pc' := 25) (v := (3 : Int32)) at_24 rfl rfl ?_
      obtain ⟨S_EQUAL, E_EQUAL, S_NOT_EQUAL, E_NOT_EQUAL, S_LESS, E_LESS, S_LESS_OR_EQUAL, E_LESS_OR_EQUAL, S_GREATER, E_GREATER, S_GREATER_OR_EQUAL, E_GREATER_OR_EQUAL, F_EQUAL_ordinal, F_LESS_ordinal, F_NOT_EQUAL_ordinal, F_GREATER_ordinal, F_LESS_OR_EQUAL_ordinal, F_GREATER_OR_EQUAL_ordinal⟩ := id F218
      refine s_getS B X218 (pc' := 28) e218 (tw10 hw) Via.refl S_LESS_OR_EQUAL at_25 rfl (fun T219 X219 e219 => ?_)
      refine s_stR B X219 (pc' := 29) (jn := 3) e219 A218 rfl (Ary.sto A218 V212 (Ins.self E_LESS_OR_EQUAL)) (by decide) (by decide) (by decide) at_28 rfl (fun T220 h220 X220 e220 W220 A220 => ?_)
      replace A220 := A220.full (show 3 < 6 by decide) (L' := [(.ref w_EQUAL), (.ref w_NOT_EQUAL), (.ref w_LESS), (.ref w_LESS_OR_EQUAL), .null, .null]) rfl
      have N220 := Fr.snoc X220 N218 ge_o212
      have O220 := (O218).wr W220 ge_o212
      have F220 := OwnF.ext O220.2 F0
      show Go p e below _ (T220.setTop (mkF m 29 #[.val (.int i0), .val (.int i1), .unset, .unset, .unset, .unset, .unset, .unset, .unset, .unset, .unset] [(.ref o212)]))
      refine s_dup B X220 (pc' := 30) at_29 rfl rfl ?_
      refine s_iconst B X220 (pc' := 31) (v := (4 : Int32)) at_30 rfl rfl ?_
      obtain ⟨S_EQUAL, E_EQUAL, S_NOT_EQUAL, E_NOT_EQUAL, S_LESS, E_LESS, S_LESS_OR_EQUAL, E_LESS_OR_EQUAL, S_GREATER, E_GREATER, S_GREATER_OR_EQUAL, E_GREATER_OR_EQUAL, F_EQUAL_ordinal, F_LESS_ordinal, F_NOT_EQUAL_ordinal, F_GREATER_ordinal, F_LESS_OR_EQUAL_ordinal, F_GREATER_OR_EQUAL_ordinal⟩ := id F220
      refine s_getS B X220 (pc' := 34) e220 (tw12 hw) Via.refl S_GREATER at_31 rfl (fun T221 X221 e221 => ?_)
      refine s_stR B X221 (pc' := 35) (jn := 4) e221 A220 rfl (Ary.sto A220 V212 (Ins.self E_GREATER)) (by decide) (by decide) (by decide) at_34 rfl (fun T222 h222 X222 e222 W222 A222 => ?_)
      replace A222 := A222.full (show 4 < 6 by decide) (L' := [(.ref w_EQUAL), (.ref w_NOT_EQUAL), (.ref w_LESS), (.ref w_LESS_OR_EQUAL), (.ref w_GREATER), .null]) rfl
      have N222 := Fr.snoc X222 N220 ge_o212
      have O222 := (O220).wr W222 ge_o212
      have F222 := OwnF.ext O222.2 F0
      show Go p e below _ (T222.setTop (mkF m 35 #[.val (.int i0), .val (.int i1), .unset, .unset, .unset, .unset, .unset, .unset, .unset, .unset, .unset] [(.ref o212)]))
      refine s_dup B X222 (pc' := 36) at_35 rfl rfl ?_
      refine s_iconst B X222 (pc' := 37) (v := (5 : Int32)) at_36 rfl rfl ?_
      obtain ⟨S_EQUAL, E_EQUAL, S_NOT_EQUAL, E_NOT_EQUAL, S_LESS, E_LESS, S_LESS_OR_EQUAL, E_LESS_OR_EQUAL, S_GREATER, E_GREATER, S_GREATER_OR_EQUAL, E_GREATER_OR_EQUAL, F_EQUAL_ordinal, F_LESS_ordinal, F_NOT_EQUAL_ordinal, F_GREATER_ordinal, F_LESS_OR_EQUAL_ordinal, F_GREATER_OR_EQUAL_ordinal⟩ := id F222
      refine s_getS B X222 (pc' := 40) e222 (tw14 hw) Via.refl S_GREATER_OR_EQUAL at_37 rfl (fun T223 X223 e223 => ?_)
      refine s_stR B X223 (pc' := 41) (jn := 5) e223 A222 rfl (Ary.sto A222 V212 (Ins.self E_GREATER_OR_EQUAL)) (by decide) (by decide) (by decide) at_40 rfl (fun T224 h224 X224 e224 W224 A224 => ?_)
      replace A224 := A224.full (show 5 < 6 by decide) (L' := [(.ref w_EQUAL), (.ref w_NOT_EQUAL), (.ref w_LESS), (.ref w_LESS_OR_EQUAL), (.ref w_GREATER), (.ref w_GREATER_OR_EQUAL)]) rfl
      have N224 := Fr.snoc X224 N222 ge_o212
      have O224 := (O222).wr W224 ge_o212
      have F224 := OwnF.ext O224.2 F0
      show Go p e below _ (T224.setTop (mkF m 41 #[.val (.int i0), .val (.int i1), .unset, .unset, .unset, .unset, .unset, .unset, .unset, .unset, .unset] [(.ref o212)]))
      refine s_astoreN B X224 (pc' := 42) (Ls' := #[.val (.int i0), .val (.int i1), .val (.ref o212), .unset, .unset, .unset, .unset, .unset, .unset, .unset, .unset]) at_41 rfl rfl rfl ?_
      refine s_aloadN B X224 (pc' := 43) at_42 rfl rfl rfl ?_
      refine s_iloadN B X224 (pc' := 44) at_43 rfl rfl ?_
      refine s_ldc B X224 (pc' := 46) (v := (2147483647 : Int32)) (tw16 hw) at_44 rfl ?_
      refine s_iand B X224 (pc' := 47) (v := (i0 &&& (2147483647 : Int32))) at_46 rfl rfl ?_
      refine s_bipush B X224 (pc' := 49) (v := (6 : Int32)) at_47 rfl rfl ?_
      refine s_irem B X224 (pc' := 50) (v := (0 : Int32)) at_49 (hv211) (by decide) rfl ?_
      refine s_ldR B X224 (pc' := 51) (jn := 0) (v := (.ref w_EQUAL)) e224 A224 rfl (by decide) (by decide) (by decide) rfl at_50 rfl ?_
      refine s_astoreN B X224 (pc' := 52) (Ls' := #[.val (.int i0), .val (.int i1), .val (.ref o212), .val (.ref w_EQUAL), .unset, .unset, .unset, .unset, .unset, .unset, .unset]) at_51 rfl rfl rfl ?_
      refine s_iloadN B X224 (pc' := 53) at_52 rfl rfl ?_
      refine b_if_ge B X224 (py := 60) (pn := 56) at_53 (by decide) (by decide) rfl (fun _ => ?_) (fun q => absurd q hA)
      refine s_iconst B X224 (pc' := 61) (v := (0 : Int32)) at_60 rfl rfl ?_
      refine s_istore B X224 (pc' := 63) (Ls' := #[.val (.int i0), .val (.int i1), .val (.ref o212), .val (.ref w_EQUAL), .val (.int (0 : Int32)), .unset, .unset, .unset, .unset, .unset, .unset]) at_61 rfl rfl ?_
      refine s_iloadN B X224 (pc' := 64) at_63 rfl rfl ?_
      refine b_if_ne B X224 (py := 71) (pn := 67) at_64 (by decide) (by decide) rfl (fun _ => ?_) (fun q => absurd q hE)
      refine s_iconst B X224 (pc' := 72) (v := (0 : Int32)) at_71 rfl rfl ?_
      refine s_istore B X224 (pc' := 74) (Ls' := #[.val (.int i0), .val (.int i1), .val (.ref o212), .val (.ref w_EQUAL), .val (.int (0 : Int32)), .val (.int (0 : Int32)), .unset, .unset, .unset, .unset, .unset]) at_72 rfl rfl ?_
      refine s_iloadN B X224 (pc' := 75) at_74 rfl rfl ?_
      refine b_if_le B X224 (py := 82) (pn := 78) at_75 (by decide) (by decide) rfl (fun q => absurd hB q) (fun _ => ?_)
      refine s_iconst B X224 (pc' := 79) (v := (1 : Int32)) at_78 rfl rfl ?_
      refine s_goto B X224 (pc' := 83) at_79 (by decide) (by decide) ?_
      refine s_istore B X224 (pc' := 85) (Ls' := #[.val (.int i0), .val (.int i1), .val (.ref o212), .val (.ref w_EQUAL), .val (.int (0 : Int32)), .val (.int (0 : Int32)), .val (.int (1 : Int32)), .unset, .unset, .unset, .unset]) at_83 rfl rfl ?_
      refine s_aloadN B X224 (pc' := 86) at_85 rfl rfl rfl ?_
      obtain ⟨S_EQUAL, E_EQUAL, S_NOT_EQUAL, E_NOT_EQUAL, S_LESS, E_LESS, S_LESS_OR_EQUAL, E_LESS_OR_EQUAL, S_GREATER, E_GREATER, S_GREATER_OR_EQUAL, E_GREATER_OR_EQUAL, F_EQUAL_ordinal, F_LESS_ordinal, F_NOT_EQUAL_ordinal, F_GREATER_ordinal, F_LESS_OR_EQUAL_ordinal, F_GREATER_OR_EQUAL_ordinal⟩ := id F224
      refine s_getS B X224 (pc' := 89) e224 (tw2 hw) Via.refl S_EQUAL at_86 rfl (fun T225 X225 e225 => ?_)
      refine b_acmp_ne B X225 (py := 104) (pn := 92) at_89 (by decide) (by decide) rfl (fun q => absurd rfl q) (fun _ => ?_)
      refine s_iconst B X225 (pc' := 93) (v := (0 : Int32)) at_92 rfl rfl ?_
      refine s_istore B X225 (pc' := 95) (Ls' := #[.val (.int i0), .val (.int i1), .val (.ref o212), .val (.ref w_EQUAL), .val (.int (0 : Int32)), .val (.int (0 : Int32)), .val (.int (1 : Int32)), .val (.int (0 : Int32)), .unset, .unset, .unset]) at_93 rfl rfl ?_
      refine s_iconst B X225 (pc' := 96) (v := (1 : Int32)) at_95 rfl rfl ?_
      refine s_istore B X225 (pc' := 98) (Ls' := #[.val (.int i0), .val (.int i1), .val (.ref o212), .val (.ref w_EQUAL), .val (.int (0 : Int32)), .val (.int (0 : Int32)), .val (.int (1 : Int32)), .val (.int (0 : Int32)), .val (.int (1 : Int32)), .unset, .unset]) at_96 rfl rfl ?_
      refine s_iconst B X225 (pc' := 99) (v := (0 : Int32)) at_98 rfl rfl ?_
      refine s_istore B X225 (pc' := 101) (Ls' := #[.val (.int i0), .val (.int i1), .val (.ref o212), .val (.ref w_EQUAL), .val (.int (0 : Int32)), .val (.int (0 : Int32)), .val (.int (1 : Int32)), .val (.int (0 : Int32)), .val (.int (1 : Int32)), .val (.int (0 : Int32)), .unset]) at_99 rfl rfl ?_
      refine s_goto B X225 (pc' := 189) at_101 (by decide) (by decide) ?_
      refine s_iload B X225 (pc' := 191) at_189 rfl rfl ?_
      refine s_ifY B X225 (pc' := 199) at_191 (by decide) (by decide) (by decide) ?_
      refine s_iload B X225 (pc' := 201) at_199 rfl rfl ?_
      refine s_ifY B X225 (pc' := 209) at_201 (by decide) (by decide) (by decide) ?_
      refine s_iload B X225 (pc' := 211) at_209 rfl rfl ?_
      refine s_ifN B X225 (pc' := 214) at_211 (by decide) rfl ?_
      refine s_iload B X225 (pc' := 216) at_214 rfl rfl ?_
      refine s_ifY B X225 (pc' := 223) at_216 (by decide) (by decide) (by decide) ?_
      refine s_iconst B X225 (pc' := 224) (v := (0 : Int32)) at_223 rfl rfl ?_
      refine s_istore B X225 (pc' := 226) (Ls' := #[.val (.int i0), .val (.int i1), .val (.ref o212), .val (.ref w_EQUAL), .val (.int (0 : Int32)), .val (.int (0 : Int32)), .val (.int (1 : Int32)), .val (.int (0 : Int32)), .val (.int (1 : Int32)), .val (.int (0 : Int32)), .val (.int (0 : Int32))]) at_224 rfl rfl ?_
      refine s_aloadN B X225 (pc' := 227) at_226 rfl rfl rfl ?_
      refine s_iloadN B X225 (pc' := 228) at_227 rfl rfl ?_
      refine p_virtual B X225 (y := mn2) (pc' := 231) (argsL := [(.int i1)]) (under := []) (W := 0) e225 (tw17 hw) (tw18 hw) (tw20 hw) (tw19 hw) (tw21 hw) (tw3 hw) (by decide) (rm1_18 l Z a0 hw i1 w_EQUAL w_NOT_EQUAL w_LESS w_LESS_OR_EQUAL w_GREATER w_GREATER_OR_EQUAL h224 F224 hA hB hE) E_EQUAL (lenOf pd_1 rfl) rfl rfl (by decide) (by decide) rfl rfl (by decide) (by decide) rfl at_228 rfl (fun T226 X226 e226 => ?_)
      show Go p e below _ (T226.setTop (mkF m 231 #[.val (.int i0), .val (.int i1), .val (.ref o212), .val (.ref w_EQUAL), .val (.int (0 : Int32)), .val (.int (0 : Int32)), .val (.int (1 : Int32)), .val (.int (0 : Int32)), .val (.int (1 : Int32)), .val (.int (0 : Int32)), .val (.int (0 : Int32))] [(.int (0 : Int32))]))
      refine s_iload B X226 (pc' := 233) at_231 rfl rfl ?_
      refine s_icmpN B X226 (pc' := 236) at_233 (by decide) rfl ?_
      refine s_iconst B X226 (pc' := 237) (v := (1 : Int32)) at_236 rfl rfl ?_
      refine s_goto B X226 (pc' := 241) at_237 (by decide) (by decide) ?_
      exact r_nar B X226 (t := .boolean) (by simp) rfl at_241 ⟨rfl, N224⟩ (by decide) (by decide)
    · refine s_bipush B X0 (pc' := 2) (v := (6 : Int32)) at_0 rfl rfl ?_
      refine s_newR B X0 (pc' := 5) (N := 6) (cap := 6) e0 (tw0 hw) (tw1 hw) (by decide) (by decide) (by decide) (by decide) (by decide) (by decide) at_2 rfl (fun T227 h227 o227 k227 g227 X227 e227 E227 A227 V227 => ?_)
      have ge_o227 : Z.heap.size ≤ o227 := g227 ▸ old_le (Old.start Z)
      replace A227 : Ary Z h227 o227 k227 (.object "com/example/upmob/upmob/Operator") 6 (lst [.null, .null, .null, .null, .null, .null] .null) := A227.congr (own_rep 6)
      have O227 := ((Old.start Z)).ext E227
      have F227 := OwnF.ext O227.2 F0
      show Go p e below _ (T227.setTop (mkF m 5 #[.val (.int i0), .val (.int i1), .unset, .unset, .unset, .unset, .unset, .unset, .unset, .unset, .unset] [(.ref o227)]))
      refine s_dup B X227 (pc' := 6) at_5 rfl rfl ?_
      refine s_iconst B X227 (pc' := 7) (v := (0 : Int32)) at_6 rfl rfl ?_
      obtain ⟨S_EQUAL, E_EQUAL, S_NOT_EQUAL, E_NOT_EQUAL, S_LESS, E_LESS, S_LESS_OR_EQUAL, E_LESS_OR_EQUAL, S_GREATER, E_GREATER, S_GREATER_OR_EQUAL, E_GREATER_OR_EQUAL, F_EQUAL_ordinal, F_LESS_ordinal, F_NOT_EQUAL_ordinal, F_GREATER_ordinal, F_LESS_OR_EQUAL_ordinal, F_GREATER_OR_EQUAL_ordinal⟩ := id F227
      refine s_getS B X227 (pc' := 10) e227 (tw2 hw) Via.refl S_EQUAL at_7 rfl (fun T228 X228 e228 => ?_)
      refine s_stR B X228 (pc' := 11) (jn := 0) e228 A227 rfl (Ary.sto A227 V227 (Ins.self E_EQUAL)) (by decide) (by decide) (by decide) at_10 rfl (fun T229 h229 X229 e229 W229 A229 => ?_)
      replace A229 := A229.full (show 0 < 6 by decide) (L' := [(.ref w_EQUAL), .null, .null, .null, .null, .null]) rfl
      have N229 := Fr.snoc X229 (Fr.nil _) ge_o227
      have O229 := (O227).wr W229 ge_o227
      have F229 := OwnF.ext O229.2 F0
      show Go p e below _ (T229.setTop (mkF m 11 #[.val (.int i0), .val (.int i1), .unset, .unset, .unset, .unset, .unset, .unset, .unset, .unset, .unset] [(.ref o227)]))
      refine s_dup B X229 (pc' := 12) at_11 rfl rfl ?_
      refine s_iconst B X229 (pc' := 13) (v := (1 : Int32)) at_12 rfl rfl ?_
      obtain ⟨S_EQUAL, E_EQUAL, S_NOT_EQUAL, E_NOT_EQUAL, S_LESS, E_LESS, S_LESS_OR_EQUAL, E_LESS_OR_EQUAL, S_GREATER, E_GREATER, S_GREATER_OR_EQUAL, E_GREATER_OR_EQUAL, F_EQUAL_ordinal, F_LESS_ordinal, F_NOT_EQUAL_ordinal, F_GREATER_ordinal, F_LESS_OR_EQUAL_ordinal, F_GREATER_OR_EQUAL_ordinal⟩ := id F229
      refine s_getS B X229 (pc' := 16) e229 (tw6 hw) Via.refl S_NOT_EQUAL at_13 rfl (fun T230 X230 e230 => ?_)
      refine s_stR B X230 (pc' := 17) (jn := 1) e230 A229 rfl (Ary.sto A229 V227 (Ins.self E_NOT_EQUAL)) (by decide) (by decide) (by decide) at_16 rfl (fun T231 h231 X231 e231 W231 A231 => ?_)
      replace A231 := A231.full (show 1 < 6 by decide) (L' := [(.ref w_EQUAL), (.ref w_NOT_EQUAL), .null, .null, .null, .null]) rfl
      have N231 := Fr.snoc X231 N229 ge_o227
      have O231 := (O229).wr W231 ge_o227
      have F231 := OwnF.ext O231.2 F0
      show Go p e below _ (T231.setTop (mkF m 17 #[.val (.int i0), .val (.int i1), .unset, .unset, .unset, .unset, .unset, .unset, .unset, .unset, .unset] [(.ref o227)]))
      refine s_dup B X231 (pc' := 18) at_17 rfl rfl ?_
      refine s_iconst B X231 (pc' := 19) (v := (2 : Int32)) at_18 rfl rfl ?_
      obtain ⟨S_EQUAL, E_EQUAL, S_NOT_EQUAL, E_NOT_EQUAL, S_LESS, E_LESS, S_LESS_OR_EQUAL, E_LESS_OR_EQUAL, S_GREATER, E_GREATER, S_GREATER_OR_EQUAL, E_GREATER_OR_EQUAL, F_EQUAL_ordinal, F_LESS_ordinal, F_NOT_EQUAL_ordinal, F_GREATER_ordinal, F_LESS_OR_EQUAL_ordinal, F_GREATER_OR_EQUAL_ordinal⟩ := id F231
      refine s_getS B X231 (pc' := 22) e231 (tw8 hw) Via.refl S_LESS at_19 rfl (fun T232 X232 e232 => ?_)
      refine s_stR B X232 (pc' := 23) (jn := 2) e232 A231 rfl (Ary.sto A231 V227 (Ins.self E_LESS)) (by decide) (by decide) (by decide) at_22 rfl (fun T233 h233 X233 e233 W233 A233 => ?_)
      replace A233 := A233.full (show 2 < 6 by decide) (L' := [(.ref w_EQUAL), (.ref w_NOT_EQUAL), (.ref w_LESS), .null, .null, .null]) rfl
      have N233 := Fr.snoc X233 N231 ge_o227
      have O233 := (O231).wr W233 ge_o227
      have F233 := OwnF.ext O233.2 F0
      show Go p e below _ (T233.setTop (mkF m 23 #[.val (.int i0), .val (.int i1), .unset, .unset, .unset, .unset, .unset, .unset, .unset, .unset, .unset] [(.ref o227)]))
      refine s_dup B X233 (pc' := 24) at_23 rfl rfl ?_
      refine s_iconst B X233 (pc' := 25) (v := (3 : Int32)) at_24 rfl rfl ?_
      obtain ⟨S_EQUAL, E_EQUAL, S_NOT_EQUAL, E_NOT_EQUAL, S_LESS, E_LESS, S_LESS_OR_EQUAL, E_LESS_OR_EQUAL, S_GREATER, E_GREATER, S_GREATER_OR_EQUAL, E_GREATER_OR_EQUAL, F_EQUAL_ordinal, F_LESS_ordinal, F_NOT_EQUAL_ordinal, F_GREATER_ordinal, F_LESS_OR_EQUAL_ordinal, F_GREATER_OR_EQUAL_ordinal⟩ := id F233
      refine s_getS B X233 (pc' := 28) e233 (tw10 hw) Via.refl S_LESS_OR_EQUAL at_25 rfl (fun T234 X234 e234 => ?_)
      refine s_stR B X234 (pc' := 29) (jn := 3) e234 A233 rfl (Ary.sto A233 V227 (Ins.self E_LESS_OR_EQUAL)) (by decide) (by decide) (by decide) at_28 rfl (fun T235 h235 X235 e235 W235 A235 => ?_)
      replace A235 := A235.full (show 3 < 6 by decide) (L' := [(.ref w_EQUAL), (.ref w_NOT_EQUAL), (.ref w_LESS), (.ref w_LESS_OR_EQUAL), .null, .null]) rfl
      have N235 := Fr.snoc X235 N233 ge_o227
      have O235 := (O233).wr W235 ge_o227
      have F235 := OwnF.ext O235.2 F0
      show Go p e below _ (T235.setTop (mkF m 29 #[.val (.int i0), .val (.int i1), .unset, .unset, .unset, .unset, .unset, .unset, .unset, .unset, .unset] [(.ref o227)]))
      refine s_dup B X235 (pc' := 30) at_29 rfl rfl ?_
      refine s_iconst B X235 (pc' := 31) (v := (4 : Int32)) at_30 rfl rfl ?_
      obtain ⟨S_EQUAL, E_EQUAL, S_NOT_EQUAL, E_NOT_EQUAL, S_LESS, E_LESS, S_LESS_OR_EQUAL, E_LESS_OR_EQUAL, S_GREATER, E_GREATER, S_GREATER_OR_EQUAL, E_GREATER_OR_EQUAL, F_EQUAL_ordinal, F_LESS_ordinal, F_NOT_EQUAL_ordinal, F_GREATER_ordinal, F_LESS_OR_EQUAL_ordinal, F_GREATER_OR_EQUAL_ordinal⟩ := id F235
      refine s_getS B X235 (pc' := 34) e235 (tw12 hw) Via.refl S_GREATER at_31 rfl (fun T236 X236 e236 => ?_)
      refine s_stR B X236 (pc' := 35) (jn := 4) e236 A235 rfl (Ary.sto A235 V227 (Ins.self E_GREATER)) (by decide) (by decide) (by decide) at_34 rfl (fun T237 h237 X237 e237 W237 A237 => ?_)
      replace A237 := A237.full (show 4 < 6 by decide) (L' := [(.ref w_EQUAL), (.ref w_NOT_EQUAL), (.ref w_LESS), (.ref w_LESS_OR_EQUAL), (.ref w_GREATER), .null]) rfl
      have N237 := Fr.snoc X237 N235 ge_o227
      have O237 := (O235).wr W237 ge_o227
      have F237 := OwnF.ext O237.2 F0
      show Go p e below _ (T237.setTop (mkF m 35 #[.val (.int i0), .val (.int i1), .unset, .unset, .unset, .unset, .unset, .unset, .unset, .unset, .unset] [(.ref o227)]))
      refine s_dup B X237 (pc' := 36) at_35 rfl rfl ?_
      refine s_iconst B X237 (pc' := 37) (v := (5 : Int32)) at_36 rfl rfl ?_
      obtain ⟨S_EQUAL, E_EQUAL, S_NOT_EQUAL, E_NOT_EQUAL, S_LESS, E_LESS, S_LESS_OR_EQUAL, E_LESS_OR_EQUAL, S_GREATER, E_GREATER, S_GREATER_OR_EQUAL, E_GREATER_OR_EQUAL, F_EQUAL_ordinal, F_LESS_ordinal, F_NOT_EQUAL_ordinal, F_GREATER_ordinal, F_LESS_OR_EQUAL_ordinal, F_GREATER_OR_EQUAL_ordinal⟩ := id F237
      refine s_getS B X237 (pc' := 40) e237 (tw14 hw) Via.refl S_GREATER_OR_EQUAL at_37 rfl (fun T238 X238 e238 => ?_)
      refine s_stR B X238 (pc' := 41) (jn := 5) e238 A237 rfl (Ary.sto A237 V227 (Ins.self E_GREATER_OR_EQUAL)) (by decide) (by decide) (by decide) at_40 rfl (fun T239 h239 X239 e239 W239 A239 => ?_)
      replace A239 := A239.full (show 5 < 6 by decide) (L' := [(.ref w_EQUAL), (.ref w_NOT_EQUAL), (.ref w_LESS), (.ref w_LESS_OR_EQUAL), (.ref w_GREATER), (.ref w_GREATER_OR_EQUAL)]) rfl
      have N239 := Fr.snoc X239 N237 ge_o227
      have O239 := (O237).wr W239 ge_o227
      have F239 := OwnF.ext O239.2 F0
      show Go p e below _ (T239.setTop (mkF m 41 #[.val (.int i0), .val (.int i1), .unset, .unset, .unset, .unset, .unset, .unset, .unset, .unset, .unset] [(.ref o227)]))
      refine s_astoreN B X239 (pc' := 42) (Ls' := #[.val (.int i0), .val (.int i1), .val (.ref o227), .unset, .unset, .unset, .unset, .unset, .unset, .unset, .unset]) at_41 rfl rfl rfl ?_
      refine s_aloadN B X239 (pc' := 43) at_42 rfl rfl rfl ?_
      refine s_iloadN B X239 (pc' := 44) at_43 rfl rfl ?_
      refine s_ldc B X239 (pc' := 46) (v := (2147483647 : Int32)) (tw16 hw) at_44 rfl ?_
      refine s_iand B X239 (pc' := 47) (v := (i0 &&& (2147483647 : Int32))) at_46 rfl rfl ?_
      refine s_bipush B X239 (pc' := 49) (v := (6 : Int32)) at_47 rfl rfl ?_
      refine s_irem B X239 (pc' := 50) (v := (1 : Int32)) at_49 (hv211) (by decide) rfl ?_
      refine s_ldR B X239 (pc' := 51) (jn := 1) (v := (.ref w_NOT_EQUAL)) e239 A239 rfl (by decide) (by decide) (by decide) rfl at_50 rfl ?_
      refine s_astoreN B X239 (pc' := 52) (Ls' := #[.val (.int i0), .val (.int i1), .val (.ref o227), .val (.ref w_NOT_EQUAL), .unset, .unset, .unset, .unset, .unset, .unset, .unset]) at_51 rfl rfl rfl ?_
      refine s_iloadN B X239 (pc' := 53) at_52 rfl rfl ?_
      refine b_if_ge B X239 (py := 60) (pn := 56) at_53 (by decide) (by decide) rfl (fun _ => ?_) (fun q => absurd q hA)
      refine s_iconst B X239 (pc' := 61) (v := (0 : Int32)) at_60 rfl rfl ?_
      refine s_istore B X239 (pc' := 63) (Ls' := #[.val (.int i0), .val (.int i1), .val (.ref o227), .val (.ref w_NOT_EQUAL), .val (.int (0 : Int32)), .unset, .unset, .unset, .unset, .unset, .unset]) at_61 rfl rfl ?_
      refine s_iloadN B X239 (pc' := 64) at_63 rfl rfl ?_
      refine b_if_ne B X239 (py := 71) (pn := 67) at_64 (by decide) (by decide) rfl (fun _ => ?_) (fun q => absurd q hE)
      refine s_iconst B X239 (pc' := 72) (v := (0 : Int32)) at_71 rfl rfl ?_
      refine s_istore B X239 (pc' := 74) (Ls' := #[.val (.int i0), .val (.int i1), .val (.ref o227), .val (.ref w_NOT_EQUAL), .val (.int (0 : Int32)), .val (.int (0 : Int32)), .unset, .unset, .unset, .unset, .unset]) at_72 rfl rfl ?_
      refine s_iloadN B X239 (pc' := 75) at_74 rfl rfl ?_
      refine b_if_le B X239 (py := 82) (pn := 78) at_75 (by decide) (by decide) rfl (fun q => absurd hB q) (fun _ => ?_)
      refine s_iconst B X239 (pc' := 79) (v := (1 : Int32)) at_78 rfl rfl ?_
      refine s_goto B X239 (pc' := 83) at_79 (by decide) (by decide) ?_
      refine s_istore B X239 (pc' := 85) (Ls' := #[.val (.int i0), .val (.int i1), .val (.ref o227), .val (.ref w_NOT_EQUAL), .val (.int (0 : Int32)), .val (.int (0 : Int32)), .val (.int (1 : Int32)), .unset, .unset, .unset, .unset]) at_83 rfl rfl ?_
      refine s_aloadN B X239 (pc' := 86) at_85 rfl rfl rfl ?_
      obtain ⟨S_EQUAL, E_EQUAL, S_NOT_EQUAL, E_NOT_EQUAL, S_LESS, E_LESS, S_LESS_OR_EQUAL, E_LESS_OR_EQUAL, S_GREATER, E_GREATER, S_GREATER_OR_EQUAL, E_GREATER_OR_EQUAL, F_EQUAL_ordinal, F_LESS_ordinal, F_NOT_EQUAL_ordinal, F_GREATER_ordinal, F_LESS_OR_EQUAL_ordinal, F_GREATER_OR_EQUAL_ordinal⟩ := id F239
      refine s_getS B X239 (pc' := 89) e239 (tw2 hw) Via.refl S_EQUAL at_86 rfl (fun T240 X240 e240 => ?_)
      refine b_acmp_ne B X240 (py := 104) (pn := 92) at_89 (by decide) (by decide) rfl (fun _ => ?_) (fun q => absurd q (own_ne_w_NOT_EQUAL_w_EQUAL F239))
      refine s_aloadN B X240 (pc' := 105) at_104 rfl rfl rfl ?_
      refine s_getS B X240 (pc' := 108) e240 (tw6 hw) Via.refl S_NOT_EQUAL at_105 rfl (fun T241 X241 e241 => ?_)
      refine b_acmp_ne B X241 (py := 123) (pn := 111) at_108 (by decide) (by decide) rfl (fun q => absurd rfl q) (fun _ => ?_)
      refine s_iconst B X241 (pc' := 112) (v := (1 : Int32)) at_111 rfl rfl ?_
      refine s_istore B X241 (pc' := 114) (Ls' := #[.val (.int i0), .val (.int i1), .val (.ref o227), .val (.ref w_NOT_EQUAL), .val (.int (0 : Int32)), .val (.int (0 : Int32)), .val (.int (1 : Int32)), .val (.int (1 : Int32)), .unset, .unset, .unset]) at_112 rfl rfl ?_
      refine s_iconst B X241 (pc' := 115) (v := (0 : Int32)) at_114 rfl rfl ?_
      refine s_istore B X241 (pc' := 117) (Ls' := #[.val (.int i0), .val (.int i1), .val (.ref o227), .val (.ref w_NOT_EQUAL), .val (.int (0 : Int32)), .val (.int (0 : Int32)), .val (.int (1 : Int32)), .val (.int (1 : Int32)), .val (.int (0 : Int32)), .unset, .unset]) at_115 rfl rfl ?_
      refine s_iconst B X241 (pc' := 118) (v := (1 : Int32)) at_117 rfl rfl ?_
      refine s_istore B X241 (pc' := 120) (Ls' := #[.val (.int i0), .val (.int i1), .val (.ref o227), .val (.ref w_NOT_EQUAL), .val (.int (0 : Int32)), .val (.int (0 : Int32)), .val (.int (1 : Int32)), .val (.int (1 : Int32)), .val (.int (0 : Int32)), .val (.int (1 : Int32)), .unset]) at_118 rfl rfl ?_
      refine s_goto B X241 (pc' := 189) at_120 (by decide) (by decide) ?_
      refine s_iload B X241 (pc' := 191) at_189 rfl rfl ?_
      refine s_ifY B X241 (pc' := 199) at_191 (by decide) (by decide) (by decide) ?_
      refine s_iload B X241 (pc' := 201) at_199 rfl rfl ?_
      refine s_ifY B X241 (pc' := 209) at_201 (by decide) (by decide) (by decide) ?_
      refine s_iload B X241 (pc' := 211) at_209 rfl rfl ?_
      refine s_ifN B X241 (pc' := 214) at_211 (by decide) rfl ?_
      refine s_iload B X241 (pc' := 216) at_214 rfl rfl ?_
      refine s_ifN B X241 (pc' := 219) at_216 (by decide) rfl ?_
      refine s_iconst B X241 (pc' := 220) (v := (1 : Int32)) at_219 rfl rfl ?_
      refine s_goto B X241 (pc' := 224) at_220 (by decide) (by decide) ?_
      refine s_istore B X241 (pc' := 226) (Ls' := #[.val (.int i0), .val (.int i1), .val (.ref o227), .val (.ref w_NOT_EQUAL), .val (.int (0 : Int32)), .val (.int (0 : Int32)), .val (.int (1 : Int32)), .val (.int (1 : Int32)), .val (.int (0 : Int32)), .val (.int (1 : Int32)), .val (.int (1 : Int32))]) at_224 rfl rfl ?_
      refine s_aloadN B X241 (pc' := 227) at_226 rfl rfl rfl ?_
      refine s_iloadN B X241 (pc' := 228) at_227 rfl rfl ?_
      refine p_virtual B X241 (y := mn2) (pc' := 231) (argsL := [(.int i1)]) (under := []) (W := 0) e241 (tw17 hw) (tw18 hw) (tw20 hw) (tw19 hw) (tw21 hw) (tw3 hw) (by decide) (rm1_19 l Z a0 hw i1 w_EQUAL w_NOT_EQUAL w_LESS w_LESS_OR_EQUAL w_GREATER w_GREATER_OR_EQUAL h239 F239 hA hB hE) E_NOT_EQUAL (lenOf pd_1 rfl) rfl rfl (by decide) (by decide) rfl rfl (by decide) (by decide) rfl at_228 rfl (fun T242 X242 e242 => ?_)
      show Go p e below _ (T242.setTop (mkF m 231 #[.val (.int i0), .val (.int i1), .val (.ref o227), .val (.ref w_NOT_EQUAL), .val (.int (0 : Int32)), .val (.int (0 : Int32)), .val (.int (1 : Int32)), .val (.int (1 : Int32)), .val (.int (0 : Int32)), .val (.int (1 : Int32)), .val (.int (1 : Int32))] [(.int (1 : Int32))]))
      refine s_iload B X242 (pc' := 233) at_231 rfl rfl ?_
      refine s_icmpN B X242 (pc' := 236) at_233 (by decide) rfl ?_
      refine s_iconst B X242 (pc' := 237) (v := (1 : Int32)) at_236 rfl rfl ?_
      refine s_goto B X242 (pc' := 241) at_237 (by decide) (by decide) ?_
      exact r_nar B X242 (t := .boolean) (by simp) rfl at_241 ⟨rfl, N239⟩ (by decide) (by decide)
    · refine s_bipush B X0 (pc' := 2) (v := (6 : Int32)) at_0 rfl rfl ?_
      refine s_newR B X0 (pc' := 5) (N := 6) (cap := 6) e0 (tw0 hw) (tw1 hw) (by decide) (by decide) (by decide) (by decide) (by decide) (by decide) at_2 rfl (fun T243 h243 o243 k243 g243 X243 e243 E243 A243 V243 => ?_)
      have ge_o243 : Z.heap.size ≤ o243 := g243 ▸ old_le (Old.start Z)
      replace A243 : Ary Z h243 o243 k243 (.object "com/example/upmob/upmob/Operator") 6 (lst [.null, .null, .null, .null, .null, .null] .null) := A243.congr (own_rep 6)
      have O243 := ((Old.start Z)).ext E243
      have F243 := OwnF.ext O243.2 F0
      show Go p e below _ (T243.setTop (mkF m 5 #[.val (.int i0), .val (.int i1), .unset, .unset, .unset, .unset, .unset, .unset, .unset, .unset, .unset] [(.ref o243)]))
      refine s_dup B X243 (pc' := 6) at_5 rfl rfl ?_
      refine s_iconst B X243 (pc' := 7) (v := (0 : Int32)) at_6 rfl rfl ?_
      obtain ⟨S_EQUAL, E_EQUAL, S_NOT_EQUAL, E_NOT_EQUAL, S_LESS, E_LESS, S_LESS_OR_EQUAL, E_LESS_OR_EQUAL, S_GREATER, E_GREATER, S_GREATER_OR_EQUAL, E_GREATER_OR_EQUAL, F_EQUAL_ordinal, F_LESS_ordinal, F_NOT_EQUAL_ordinal, F_GREATER_ordinal, F_LESS_OR_EQUAL_ordinal, F_GREATER_OR_EQUAL_ordinal⟩ := id F243
      refine s_getS B X243 (pc' := 10) e243 (tw2 hw) Via.refl S_EQUAL at_7 rfl (fun T244 X244 e244 => ?_)
      refine s_stR B X244 (pc' := 11) (jn := 0) e244 A243 rfl (Ary.sto A243 V243 (Ins.self E_EQUAL)) (by decide) (by decide) (by decide) at_10 rfl (fun T245 h245 X245 e245 W245 A245 => ?_)
      replace A245 := A245.full (show 0 < 6 by decide) (L' := [(.ref w_EQUAL), .null, .null, .null, .null, .null]) rfl
      have N245 := Fr.snoc X245 (Fr.nil _) ge_o243
      have O245 := (O243).wr W245 ge_o243
      have F245 := OwnF.ext O245.2 F0
      show Go p e below _ (T245.setTop (mkF m 11 #[.val (.int i0), .val (.int i1), .unset, .unset, .unset, .unset, .unset, .unset, .unset, .unset, .unset] [(.ref o243)]))
      refine s_dup B X245 (pc' := 12) at_11 rfl rfl ?_
      refine s_iconst B X245 (pc' := 13) (v := (1 : Int32)) at_12 rfl rfl ?_
      obtain ⟨S_EQUAL, E_EQUAL, S_NOT_EQUAL, E_NOT_EQUAL, S_LESS, E_LESS, S_LESS_OR_EQUAL, E_LESS_OR_EQUAL, S_GREATER, E_GREATER, S_GREATER_OR_EQUAL, E_GREATER_OR_EQUAL, F_EQUAL_ordinal, F_LESS_ordinal, F_NOT_EQUAL_ordinal, F_GREATER_ordinal, F_LESS_OR_EQUAL_ordinal, F_GREATER_OR_EQUAL_ordinal⟩ := id F245
      refine s_getS B X245 (pc' := 16) e245 (tw6 hw) Via.refl S_NOT_EQUAL at_13 rfl (fun T246 X246 e246 => ?_)
      refine s_stR B X246 (pc' := 17) (jn := 1) e246 A245 rfl (Ary.sto A245 V243 (Ins.self E_NOT_EQUAL)) (by decide) (by decide) (by decide) at_16 rfl (fun T247 h247 X247 e247 W247 A247 => ?_)
      replace A247 := A247.full (show 1 < 6 by decide) (L' := [(.ref w_EQUAL), (.ref w_NOT_EQUAL), .null, .null, .null, .null]) rfl
      have N247 := Fr.snoc X247 N245 ge_o243
      have O247 := (O245).wr W247 ge_o243
      have F247 := OwnF.ext O247.2 F0
      show Go p e below _ (T247.setTop (mkF m 17 #[.val (.int i0), .val (.int i1), .unset, .unset, .unset, .unset, .unset, .unset, .unset, .unset, .unset] [(.ref o243)]))
      refine s_dup B X247 (pc' := 18) at_17 rfl rfl ?_
      refine s_iconst B X247 (pc' := 19) (v := (2 : Int32)) at_18 rfl rfl ?_
      obtain ⟨S_EQUAL, E_EQUAL, S_NOT_EQUAL, E_NOT_EQUAL, S_LESS, E_LESS, S_LESS_OR_EQUAL, E_LESS_OR_EQUAL, S_GREATER, E_GREATER, S_GREATER_OR_EQUAL, E_GREATER_OR_EQUAL, F_EQUAL_ordinal, F_LESS_ordinal, F_NOT_EQUAL_ordinal, F_GREATER_ordinal, F_LESS_OR_EQUAL_ordinal, F_GREATER_OR_EQUAL_ordinal⟩ := id F247
      refine s_getS B X247 (pc' := 22) e247 (tw8 hw) Via.refl S_LESS at_19 rfl (fun T248 X248 e248 => ?_)
      refine s_stR B X248 (pc' := 23) (jn := 2) e248 A247 rfl (Ary.sto A247 V243 (Ins.self E_LESS)) (by decide) (by decide) (by decide) at_22 rfl (fun T249 h249 X249 e249 W249 A249 => ?_)
      replace A249 := A249.full (show 2 < 6 by decide) (L' := [(.ref w_EQUAL), (.ref w_NOT_EQUAL), (.ref w_LESS), .null, .null, .null]) rfl
      have N249 := Fr.snoc X249 N247 ge_o243
      have O249 := (O247).wr W249 ge_o243
      have F249 := OwnF.ext O249.2 F0
      show Go p e below _ (T249.setTop (mkF m 23 #[.val (.int i0), .val (.int i1), .unset, .unset, .unset, .unset, .unset, .unset, .unset, .unset, .unset] [(.ref o243)]))
      refine s_dup B X249 (pc' := 24) at_23 rfl rfl ?_
      refine s_iconst B X249 (pc' := 25) (v := (3 : Int32)) at_24 rfl rfl ?_
      obtain ⟨S_EQUAL, E_EQUAL, S_NOT_EQUAL, E_NOT_EQUAL, S_LESS, E_LESS, S_LESS_OR_EQUAL, E_LESS_OR_EQUAL, S_GREATER, E_GREATER, S_GREATER_OR_EQUAL, E_GREATER_OR_EQUAL, F_EQUAL_ordinal, F_LESS_ordinal, F_NOT_EQUAL_ordinal, F_GREATER_ordinal, F_LESS_OR_EQUAL_ordinal, F_GREATER_OR_EQUAL_ordinal⟩ := id F249
      refine s_getS B X249 (pc' := 28) e249 (tw10 hw) Via.refl S_LESS_OR_EQUAL at_25 rfl (fun T250 X250 e250 => ?_)
      refine s_stR B X250 (pc' := 29) (jn := 3) e250 A249 rfl (Ary.sto A249 V243 (Ins.self E_LESS_OR_EQUAL)) (by decide) (by decide) (by decide) at_28 rfl (fun T251 h251 X251 e251 W251 A251 => ?_)
      replace A251 := A251.full (show 3 < 6 by decide) (L' := [(.ref w_EQUAL), (.ref w_NOT_EQUAL), (.ref w_LESS), (.ref w_LESS_OR_EQUAL), .null, .null]) rfl
      have N251 := Fr.snoc X251 N249 ge_o243
      have O251 := (O249).wr W251 ge_o243
      have F251 := OwnF.ext O251.2 F0
      show Go p e below _ (T251.setTop (mkF m 29 #[.val (.int i0), .val (.int i1), .unset, .unset, .unset, .unset, .unset, .unset, .unset, .unset, .unset] [(.ref o243)]))
      refine s_dup B X251 (pc' := 30) at_29 rfl rfl ?_
      refine s_iconst B X251 (pc' := 31) (v := (4 : Int32)) at_30 rfl rfl ?_
      obtain ⟨S_EQUAL, E_EQUAL, S_NOT_EQUAL, E_NOT_EQUAL, S_LESS, E_LESS, S_LESS_OR_EQUAL, E_LESS_OR_EQUAL, S_GREATER, E_GREATER, S_GREATER_OR_EQUAL, E_GREATER_OR_EQUAL, F_EQUAL_ordinal, F_LESS_ordinal, F_NOT_EQUAL_ordinal, F_GREATER_ordinal, F_LESS_OR_EQUAL_ordinal, F_GREATER_OR_EQUAL_ordinal⟩ := id F251
      refine s_getS B X251 (pc' := 34) e251 (tw12 hw) Via.refl S_GREATER at_31 rfl (fun T252 X252 e252 => ?_)
      refine s_stR B X252 (pc' := 35) (jn := 4) e252 A251 rfl (Ary.sto A251 V243 (Ins.self E_GREATER)) (by decide) (by decide) (by decide) at_34 rfl (fun T253 h253 X253 e253 W253 A253 => ?_)
      replace A253 := A253.full (show 4 < 6 by decide) (L' := [(.ref w_EQUAL), (.ref w_NOT_EQUAL), (.ref w_LESS), (.ref w_LESS_OR_EQUAL), (.ref w_GREATER), .null]) rfl
      have N253 := Fr.snoc X253 N251 ge_o243
      have O253 := (O251).wr W253 ge_o243
      have F253 := OwnF.ext O253.2 F0
      show Go p e below _ (T253.setTop (mkF m 35 #[.val (.int i0), .val (.int i1), .unset, .unset, .unset, .unset, .unset, .unset, .unset, .unset, .unset] [(.ref o243)]))
      refine s_dup B X253 (pc' := 36) at_35 rfl rfl ?_
      refine s_iconst B X253 (pc' := 37) (v := (5 : Int32)) at_36 rfl rfl ?_
      obtain ⟨S_EQUAL, E_EQUAL, S_NOT_EQUAL, E_NOT_EQUAL, S_LESS, E_LESS, S_LESS_OR_EQUAL, E_LESS_OR_EQUAL, S_GREATER, E_GREATER, S_GREATER_OR_EQUAL, E_GREATER_OR_EQUAL, F_EQUAL_ordinal, F_LESS_ordinal, F_NOT_EQUAL_ordinal, F_GREATER_ordinal, F_LESS_OR_EQUAL_ordinal, F_GREATER_OR_EQUAL_ordinal⟩ := id F253
      refine s_getS B X253 (pc' := 40) e253 (tw14 hw) Via.refl S_GREATER_OR_EQUAL at_37 rfl (fun T254 X254 e254 => ?_)
      refine s_stR B X254 (pc' := 41) (jn := 5) e254 A253 rfl (Ary.sto A253 V243 (Ins.self E_GREATER_OR_EQUAL)) (by decide) (by decide) (by decide) at_40 rfl (fun T255 h255 X255 e255 W255 A255 => ?_)
      replace A255 := A255.full (show 5 < 6 by decide) (L' := [(.ref w_EQUAL), (.ref w_NOT_EQUAL), (.ref w_LESS), (.ref w_LESS_OR_EQUAL), (.ref w_GREATER), (.ref w_GREATER_OR_EQUAL)]) rfl
      have N255 := Fr.snoc X255 N253 ge_o243
      have O255 := (O253).wr W255 ge_o243
      have F255 := OwnF.ext O255.2 F0
      show Go p e below _ (T255.setTop (mkF m 41 #[.val (.int i0), .val (.int i1), .unset, .unset, .unset, .unset, .unset, .unset, .unset, .unset, .unset] [(.ref o243)]))
      refine s_astoreN B X255 (pc' := 42) (Ls' := #[.val (.int i0), .val (.int i1), .val (.ref o243), .unset, .unset, .unset, .unset, .unset, .unset, .unset, .unset]) at_41 rfl rfl rfl ?_
      refine s_aloadN B X255 (pc' := 43) at_42 rfl rfl rfl ?_
      refine s_iloadN B X255 (pc' := 44) at_43 rfl rfl ?_
      refine s_ldc B X255 (pc' := 46) (v := (2147483647 : Int32)) (tw16 hw) at_44 rfl ?_
      refine s_iand B X255 (pc' := 47) (v := (i0 &&& (2147483647 : Int32))) at_46 rfl rfl ?_
      refine s_bipush B X255 (pc' := 49) (v := (6 : Int32)) at_47 rfl rfl ?_
      refine s_irem B X255 (pc' := 50) (v := (2 : Int32)) at_49 (hv211) (by decide) rfl ?_
      refine s_ldR B X255 (pc' := 51) (jn := 2) (v := (.ref w_LESS)) e255 A255 rfl (by decide) (by decide) (by decide) rfl at_50 rfl ?_
      refine s_astoreN B X255 (pc' := 52) (Ls' := #[.val (.int i0), .val (.int i1), .val (.ref o243), .val (.ref w_LESS), .unset, .unset, .unset, .unset, .unset, .unset, .unset]) at_51 rfl rfl rfl ?_
      refine s_iloadN B X255 (pc' := 53) at_52 rfl rfl ?_
      refine b_if_ge B X255 (py := 60) (pn := 56) at_53 (by decide) (by decide) rfl (fun _ => ?_) (fun q => absurd q hA)
      refine s_iconst B X255 (pc' := 61) (v := (0 : Int32)) at_60 rfl rfl ?_
      refine s_istore B X255 (pc' := 63) (Ls' := #[.val (.int i0), .val (.int i1), .val (.ref o243), .val (.ref w_LESS), .val (.int (0 : Int32)), .unset, .unset, .unset, .unset, .unset, .unset]) at_61 rfl rfl ?_
      refine s_iloadN B X255 (pc' := 64) at_63 rfl rfl ?_
      refine b_if_ne B X255 (py := 71) (pn := 67) at_64 (by decide) (by decide) rfl (fun _ => ?_) (fun q => absurd q hE)
      refine s_iconst B X255 (pc' := 72) (v := (0 : Int32)) at_71 rfl rfl ?_
      refine s_istore B X255 (pc' := 74) (Ls' := #[.val (.int i0), .val (.int i1), .val (.ref o243), .val (.ref w_LESS), .val (.int (0 : Int32)), .val (.int (0 : Int32)), .unset, .unset, .unset, .unset, .unset]) at_72 rfl rfl ?_
      refine s_iloadN B X255 (pc' := 75) at_74 rfl rfl ?_
      refine b_if_le B X255 (py := 82) (pn := 78) at_75 (by decide) (by decide) rfl (fun q => absurd hB q) (fun _ => ?_)
      refine s_iconst B X255 (pc' := 79) (v := (1 : Int32)) at_78 rfl rfl ?_
      refine s_goto B X255 (pc' := 83) at_79 (by decide) (by decide) ?_
      refine s_istore B X255 (pc' := 85) (Ls' := #[.val (.int i0), .val (.int i1), .val (.ref o243), .val (.ref w_LESS), .val (.int (0 : Int32)), .val (.int (0 : Int32)), .val (.int (1 : Int32)), .unset, .unset, .unset, .unset]) at_83 rfl rfl ?_
      refine s_aloadN B X255 (pc' := 86) at_85 rfl rfl rfl ?_
      obtain ⟨S_EQUAL, E_EQUAL, S_NOT_EQUAL, E_NOT_EQUAL, S_LESS, E_LESS, S_LESS_OR_EQUAL, E_LESS_OR_EQUAL, S_GREATER, E_GREATER, S_GREATER_OR_EQUAL, E_GREATER_OR_EQUAL, F_EQUAL_ordinal, F_LESS_ordinal, F_NOT_EQUAL_ordinal, F_GREATER_ordinal, F_LESS_OR_EQUAL_ordinal, F_GREATER_OR_EQUAL_ordinal⟩ := id F255
      refine s_getS B X255 (pc' := 89) e255 (tw2 hw) Via.refl S_EQUAL at_86 rfl (fun T256 X256 e256 => ?_)
      refine b_acmp_ne B X256 (py := 104) (pn := 92) at_89 (by decide) (by decide) rfl (fun _ => ?_) (fun q => absurd q (own_ne_w_LESS_w_EQUAL F255))
      refine s_aloadN B X256 (pc' := 105) at_104 rfl rfl rfl ?_
      refine s_getS B X256 (pc' := 108) e256 (tw6 hw) Via.refl S_NOT_EQUAL at_105 rfl (fun T257 X257 e257 => ?_)
      refine b_acmp_ne B X257 (py := 123) (pn := 111) at_108 (by decide) (by decide) rfl (fun _ => ?_) (fun q => absurd q (own_ne_w_LESS_w_NOT_EQUAL F255))
      refine s_aloadN B X257 (pc' := 124) at_123 rfl rfl rfl ?_
      refine s_getS B X257 (pc' := 127) e257 (tw8 hw) Via.refl S_LESS at_124 rfl (fun T258 X258 e258 => ?_)
      refine b_acmp_ne B X258 (py := 142) (pn := 130) at_127 (by decide) (by decide) rfl (fun q => absurd rfl q) (fun _ => ?_)
      refine s_iconst B X258 (pc' := 131) (v := (1 : Int32)) at_130 rfl rfl ?_
      refine s_istore B X258 (pc' := 133) (Ls' := #[.val (.int i0), .val (.int i1), .val (.ref o243), .val (.ref w_LESS), .val (.int (0 : Int32)), .val (.int (0 : Int32)), .val (.int (1 : Int32)), .val (.int (1 : Int32)), .unset, .unset, .unset]) at_131 rfl rfl ?_
      refine s_iconst B X258 (pc' := 134) (v := (0 : Int32)) at_133 rfl rfl ?_
      refine s_istore B X258 (pc' := 136) (Ls' := #[.val (.int i0), .val (.int i1), .val (.ref o243), .val (.ref w_LESS), .val (.int (0 : Int32)), .val (.int (0 : Int32)), .val (.int (1 : Int32)), .val (.int (1 : Int32)), .val (.int (0 : Int32)), .unset, .unset]) at_134 rfl rfl ?_
      refine s_iconst B X258 (pc' := 137) (v := (0 : Int32)) at_136 rfl rfl ?_
      refine s_istore B X258 (pc' := 139) (Ls' := #[.val (.int i0), .val (.int i1), .val (.ref o243), .val (.ref w_LESS), .val (.int (0 : Int32)), .val (.int (0 : Int32)), .val (.int (1 : Int32)), .val (.int (1 : Int32)), .val (.int (0 : Int32)), .val (.int (0 : Int32)), .unset]) at_137 rfl rfl ?_
      refine s_goto B X258 (pc' := 189) at_139 (by decide) (by decide) ?_
      refine s_iload B X258 (pc' := 191) at_189 rfl rfl ?_
      refine s_ifY B X258 (pc' := 199) at_191 (by decide) (by decide) (by decide) ?_
      refine s_iload B X258 (pc' := 201) at_199 rfl rfl ?_
      refine s_ifY B X258 (pc' := 209) at_201 (by decide) (by decide) (by decide) ?_
      refine s_iload B X258 (pc' := 211) at_209 rfl rfl ?_
      refine s_ifN B X258 (pc' := 214) at_211 (by decide) rfl ?_
      refine s_iload B X258 (pc' := 216) at_214 rfl rfl ?_
      refine s_ifY B X258 (pc' := 223) at_216 (by decide) (by decide) (by decide) ?_
      refine s_iconst B X258 (pc' := 224) (v := (0 : Int32)) at_223 rfl rfl ?_
      refine s_istore B X258 (pc' := 226) (Ls' := #[.val (.int i0), .val (.int i1), .val (.ref o243), .val (.ref w_LESS), .val (.int (0 : Int32)), .val (.int (0 : Int32)), .val (.int (1 : Int32)), .val (.int (1 : Int32)), .val (.int (0 : Int32)), .val (.int (0 : Int32)), .val (.int (0 : Int32))]) at_224 rfl rfl ?_
      refine s_aloadN B X258 (pc' := 227) at_226 rfl rfl rfl ?_
      refine s_iloadN B X258 (pc' := 228) at_227 rfl rfl ?_
      refine p_virtual B X258 (y := mn2) (pc' := 231) (argsL := [(.int i1)]) (under := []) (W := 0) e258 (tw17 hw) (tw18 hw) (tw20 hw) (tw19 hw) (tw21 hw) (tw3 hw) (by decide) (rm1_20 l Z a0 hw i1 w_EQUAL w_NOT_EQUAL w_LESS w_LESS_OR_EQUAL w_GREATER w_GREATER_OR_EQUAL h255 F255 hA hB hE) E_LESS (lenOf pd_1 rfl) rfl rfl (by decide) (by decide) rfl rfl (by decide) (by decide) rfl at_228 rfl (fun T259 X259 e259 => ?_)
      show Go p e below _ (T259.setTop (mkF m 231 #[.val (.int i0), .val (.int i1), .val (.ref o243), .val (.ref w_LESS), .val (.int (0 : Int32)), .val (.int (0 : Int32)), .val (.int (1 : Int32)), .val (.int (1 : Int32)), .val (.int (0 : Int32)), .val (.int (0 : Int32)), .val (.int (0 : Int32))] [(.int (0 : Int32))]))
      refine s_iload B X259 (pc' := 233) at_231 rfl rfl ?_
      refine s_icmpN B X259 (pc' := 236) at_233 (by decide) rfl ?_
      refine s_iconst B X259 (pc' := 237) (v := (1 : Int32)) at_236 rfl rfl ?_
      refine s_goto B X259 (pc' := 241) at_237 (by decide) (by decide) ?_
      exact r_nar B X259 (t := .boolean) (by simp) rfl at_241 ⟨rfl, N255⟩ (by decide) (by decide)
    · refine s_bipush B X0 (pc' := 2) (v := (6 : Int32)) at_0 rfl rfl ?_
      refine s_newR B X0 (pc' := 5) (N := 6) (cap := 6) e0 (tw0 hw) (tw1 hw) (by decide) (by decide) (by decide) (by decide) (by decide) (by decide) at_2 rfl (fun T260 h260 o260 k260 g260 X260 e260 E260 A260 V260 => ?_)
      have ge_o260 : Z.heap.size ≤ o260 := g260 ▸ old_le (Old.start Z)
      replace A260 : Ary Z h260 o260 k260 (.object "com/example/upmob/upmob/Operator") 6 (lst [.null, .null, .null, .null, .null, .null] .null) := A260.congr (own_rep 6)
      have O260 := ((Old.start Z)).ext E260
      have F260 := OwnF.ext O260.2 F0
      show Go p e below _ (T260.setTop (mkF m 5 #[.val (.int i0), .val (.int i1), .unset, .unset, .unset, .unset, .unset, .unset, .unset, .unset, .unset] [(.ref o260)]))
      refine s_dup B X260 (pc' := 6) at_5 rfl rfl ?_
      refine s_iconst B X260 (pc' := 7) (v := (0 : Int32)) at_6 rfl rfl ?_
      obtain ⟨S_EQUAL, E_EQUAL, S_NOT_EQUAL, E_NOT_EQUAL, S_LESS, E_LESS, S_LESS_OR_EQUAL, E_LESS_OR_EQUAL, S_GREATER, E_GREATER, S_GREATER_OR_EQUAL, E_GREATER_OR_EQUAL, F_EQUAL_ordinal, F_LESS_ordinal, F_NOT_EQUAL_ordinal, F_GREATER_ordinal, F_LESS_OR_EQUAL_ordinal, F_GREATER_OR_EQUAL_ordinal⟩ := id F260
      refine s_getS B X260 (pc' := 10) e260 (tw2 hw) Via.refl S_EQUAL at_7 rfl (fun T261 X261 e261 => ?_)
      refine s_stR B X261 (pc' := 11) (jn := 0) e261 A260 rfl (Ary.sto A260 V260 (Ins.self E_EQUAL)) (by decide) (by decide) (by decide) at_10 rfl (fun T262 h262 X262 e262 W262 A262 => ?_)
      replace A262 := A262.full (show 0 < 6 by decide) (L' := [(.ref w_EQUAL), .null, .null, .null, .null, .null]) rfl
      have N262 := Fr.snoc X262 (Fr.nil _) ge_o260
      have O262 := (O260).wr W262 ge_o260
      have F262 := OwnF.ext O262.2 F0
      show Go p e below _ (T262.setTop (mkF m 11 #[.val (.int i0), .val (.int i1), .unset, .unset, .unset, .unset, .unset, .unset, .unset, .unset, .unset] [(.ref o260)]))
      refine s_dup B X262 (pc' := 12) at_11 rfl rfl ?_
      refine s_iconst B X262 (pc' := 13) (v := (1 : Int32)) at_12 rfl rfl ?_
      obtain ⟨S_EQUAL, E_EQUAL, S_NOT_EQUAL, E_NOT_EQUAL, S_LESS, E_LESS, S_LESS_OR_EQUAL, E_LESS_OR_EQUAL, S_GREATER, E_GREATER, S_GREATER_OR_EQUAL, E_GREATER_OR_EQUAL, F_EQUAL_ordinal, F_LESS_ordinal, F_NOT_EQUAL_ordinal, F_GREATER_ordinal, F_LESS_OR_EQUAL_ordinal, F_GREATER_OR_EQUAL_ordinal⟩ := id F262
      refine s_getS B X262 (pc' := 16) e262 (tw6 hw) Via.refl S_NOT_EQUAL at_13 rfl (fun T263 X263 e263 => ?_)
      refine s_stR B X263 (pc' := 17) (jn := 1) e263 A262 rfl (Ary.sto A262 V260 (Ins.self E_NOT_EQUAL)) (by decide) (by decide) (by decide) at_16 rfl (fun T264 h264 X264 e264 W264 A264 => ?_)
      replace A264 := A264.full (show 1 < 6 by decide) (L' := [(.ref w_EQUAL), (.ref w_NOT_EQUAL), .null, .null, .null, .null]) rfl
      have N264 := Fr.snoc X264 N262 ge_o260
      have O264 := (O262).wr W264 ge_o260
      have F264 := OwnF.ext O264.2 F0
      show Go p e below _ (T264.setTop (mkF m 17 #[.val (.int i0), .val (.int i1), .unset, .unset, .unset, .unset, .unset, .unset, .unset, .unset, .unset] [(.ref o260)]))
      refine s_dup B X264 (pc' := 18) at_17 rfl rfl ?_
      refine s_iconst B X264 (pc' := 19) (v := (2 : Int32)) at_18 rfl rfl ?_
      obtain ⟨S_EQUAL, E_EQUAL, S_NOT_EQUAL, E_NOT_EQUAL, S_LESS, E_LESS, S_LESS_OR_EQUAL, E_LESS_OR_EQUAL, S_GREATER, E_GREATER, S_GREATER_OR_EQUAL, E_GREATER_OR_EQUAL, F_EQUAL_ordinal, F_LESS_ordinal, F_NOT_EQUAL_ordinal, F_GREATER_ordinal, F_LESS_OR_EQUAL_ordinal, F_GREATER_OR_EQUAL_ordinal⟩ := id F264
      refine s_getS B X264 (pc' := 22) e264 (tw8 hw) Via.refl S_LESS at_19 rfl (fun T265 X265 e265 => ?_)
      refine s_stR B X265 (pc' := 23) (jn := 2) e265 A264 rfl (Ary.sto A264 V260 (Ins.self E_LESS)) (by decide) (by decide) (by decide) at_22 rfl (fun T266 h266 X266 e266 W266 A266 => ?_)
      replace A266 := A266.full (show 2 < 6 by decide) (L' := [(.ref w_EQUAL), (.ref w_NOT_EQUAL), (.ref w_LESS), .null, .null, .null]) rfl
      have N266 := Fr.snoc X266 N264 ge_o260
      have O266 := (O264).wr W266 ge_o260
      have F266 := OwnF.ext O266.2 F0
      show Go p e below _ (T266.setTop (mkF m 23 #[.val (.int i0), .val (.int i1), .unset, .unset, .unset, .unset, .unset, .unset, .unset, .unset, .unset] [(.ref o260)]))
      refine s_dup B X266 (pc' := 24) at_23 rfl rfl ?_
      refine s_iconst B X266 (pc' := 25) (v := (3 : Int32)) at_24 rfl rfl ?_
      obtain ⟨S_EQUAL, E_EQUAL, S_NOT_EQUAL, E_NOT_EQUAL, S_LESS, E_LESS, S_LESS_OR_EQUAL, E_LESS_OR_EQUAL, S_GREATER, E_GREATER, S_GREATER_OR_EQUAL, E_GREATER_OR_EQUAL, F_EQUAL_ordinal, F_LESS_ordinal, F_NOT_EQUAL_ordinal, F_GREATER_ordinal, F_LESS_OR_EQUAL_ordinal, F_GREATER_OR_EQUAL_ordinal⟩ := id F266
      refine s_getS B X266 (pc' := 28) e266 (tw10 hw) Via.refl S_LESS_OR_EQUAL at_25 rfl (fun T267 X267 e267 => ?_)
      refine s_stR B X267 (pc' := 29) (jn := 3) e267 A266 rfl (Ary.sto A266 V260 (Ins.self E_LESS_OR_EQUAL)) (by decide) (by decide) (by decide) at_28 rfl (fun T268 h268 X268 e268 W268 A268 => ?_)
      replace A268 := A268.full (show 3 < 6 by decide) (L' := [(.ref w_EQUAL), (.ref w_NOT_EQUAL), (.ref w_LESS), (.ref w_LESS_OR_EQUAL), .null, .null]) rfl
      have N268 := Fr.snoc X268 N266 ge_o260
      have O268 := (O266).wr W268 ge_o260
      have F268 := OwnF.ext O268.2 F0
      show Go p e below _ (T268.setTop (mkF m 29 #[.val (.int i0), .val (.int i1), .unset, .unset, .unset, .unset, .unset, .unset, .unset, .unset, .unset] [(.ref o260)]))
      refine s_dup B X268 (pc' := 30) at_29 rfl rfl ?_
      refine s_iconst B X268 (pc' := 31) (v := (4 : Int32)) at_30 rfl rfl ?_
      obtain ⟨S_EQUAL, E_EQUAL, S_NOT_EQUAL, E_NOT_EQUAL, S_LESS, E_LESS, S_LESS_OR_EQUAL, E_LESS_OR_EQUAL, S_GREATER, E_GREATER, S_GREATER_OR_EQUAL, E_GREATER_OR_EQUAL, F_EQUAL_ordinal, F_LESS_ordinal, F_NOT_EQUAL_ordinal, F_GREATER_ordinal, F_LESS_OR_EQUAL_ordinal, F_GREATER_OR_EQUAL_ordinal⟩ := id F268
      refine s_getS B X268 (pc' := 34) e268 (tw12 hw) Via.refl S_GREATER at_31 rfl (fun T269 X269 e269 => ?_)
      refine s_stR B X269 (pc' := 35) (jn := 4) e269 A268 rfl (Ary.sto A268 V260 (Ins.self E_GREATER)) (by decide) (by decide) (by decide) at_34 rfl (fun T270 h270 X270 e270 W270 A270 => ?_)
      replace A270 := A270.full (show 4 < 6 by decide) (L' := [(.ref w_EQUAL), (.ref w_NOT_EQUAL), (.ref w_LESS), (.ref w_LESS_OR_EQUAL), (.ref w_GREATER), .null]) rfl
      have N270 := Fr.snoc X270 N268 ge_o260
      have O270 := (O268).wr W270 ge_o260
      have F270 := OwnF.ext O270.2 F0
      show Go p e below _ (T270.setTop (mkF m 35 #[.val (.int i0), .val (.int i1), .unset, .unset, .unset, .unset, .unset, .unset, .unset, .unset, .unset] [(.ref o260)]))
      refine s_dup B X270 (pc' := 36) at_35 rfl rfl ?_
      refine s_iconst B X270 (pc' := 37) (v := (5 : Int32)) at_36 rfl rfl ?_
      obtain ⟨S_EQUAL, E_EQUAL, S_NOT_EQUAL, E_NOT_EQUAL, S_LESS, E_LESS, S_LESS_OR_EQUAL, E_LESS_OR_EQUAL, S_GREATER, E_GREATER, S_GREATER_OR_EQUAL, E_GREATER_OR_EQUAL, F_EQUAL_ordinal, F_LESS_ordinal, F_NOT_EQUAL_ordinal, F_GREATER_ordinal, F_LESS_OR_EQUAL_ordinal, F_GREATER_OR_EQUAL_ordinal⟩ := id F270
      refine s_getS B X270 (pc' := 40) e270 (tw14 hw) Via.refl S_GREATER_OR_EQUAL at_37 rfl (fun T271 X271 e271 => ?_)
      refine s_stR B X271 (pc' := 41) (jn := 5) e271 A270 rfl (Ary.sto A270 V260 (Ins.self E_GREATER_OR_EQUAL)) (by decide) (by decide) (by decide) at_40 rfl (fun T272 h272 X272 e272 W272 A272 => ?_)
      replace A272 := A272.full (show 5 < 6 by decide) (L' := [(.ref w_EQUAL), (.ref w_NOT_EQUAL), (.ref w_LESS), (.ref w_LESS_OR_EQUAL), (.ref w_GREATER), (.ref w_GREATER_OR_EQUAL)]) rfl
      have N272 := Fr.snoc X272 N270 ge_o260
      have O272 := (O270).wr W272 ge_o260
      have F272 := OwnF.ext O272.2 F0
      show Go p e below _ (T272.setTop (mkF m 41 #[.val (.int i0), .val (.int i1), .unset, .unset, .unset, .unset, .unset, .unset, .unset, .unset, .unset] [(.ref o260)]))
      refine s_astoreN B X272 (pc' := 42) (Ls' := #[.val (.int i0), .val (.int i1), .val (.ref o260), .unset, .unset, .unset, .unset, .unset, .unset, .unset, .unset]) at_41 rfl rfl rfl ?_
      refine s_aloadN B X272 (pc' := 43) at_42 rfl rfl rfl ?_
      refine s_iloadN B X272 (pc' := 44) at_43 rfl rfl ?_
      refine s_ldc B X272 (pc' := 46) (v := (2147483647 : Int32)) (tw16 hw) at_44 rfl ?_
      refine s_iand B X272 (pc' := 47) (v := (i0 &&& (2147483647 : Int32))) at_46 rfl rfl ?_
      refine s_bipush B X272 (pc' := 49) (v := (6 : Int32)) at_47 rfl rfl ?_
      refine s_irem B X272 (pc' := 50) (v := (3 : Int32)) at_49 (hv211) (by decide) rfl ?_
      refine s_ldR B X272 (pc' := 51) (jn := 3) (v := (.ref w_LESS_OR_EQUAL)) e272 A272 rfl (by decide) (by decide) (by decide) rfl at_50 rfl ?_
      refine s_astoreN B X272 (pc' := 52) (Ls' := #[.val (.int i0), .val (.int i1), .val (.ref o260), .val (.ref w_LESS_OR_EQUAL), .unset, .unset, .unset, .unset, .unset, .unset, .unset]) at_51 rfl rfl rfl ?_
      refine s_iloadN B X272 (pc' := 53) at_52 rfl rfl ?_
      refine b_if_ge B X272 (py := 60) (pn := 56) at_53 (by decide) (by decide) rfl (fun _ => ?_) (fun q => absurd q hA)
      refine s_iconst B X272 (pc' := 61) (v := (0 : Int32)) at_60 rfl rfl ?_
      refine s_istore B X272 (pc' := 63) (Ls' := #[.val (.int i0), .val (.int i1), .val (.ref o260), .val (.ref w_LESS_OR_EQUAL), .val (.int (0 : Int32)), .unset, .unset, .unset, .unset, .unset, .unset]) at_61 rfl rfl ?_
      refine s_iloadN B X272 (pc' := 64) at_63 rfl rfl ?_
      refine b_if_ne B X272 (py := 71) (pn := 67) at_64 (by decide) (by decide) rfl (fun _ => ?_) (fun q => absurd q hE)
      refine s_iconst B X272 (pc' := 72) (v := (0 : Int32)) at_71 rfl rfl ?_
      refine s_istore B X272 (pc' := 74) (Ls' := #[.val (.int i0), .val (.int i1), .val (.ref o260), .val (.ref w_LESS_OR_EQUAL), .val (.int (0 : Int32)), .val (.int (0 : Int32)), .unset, .unset, .unset, .unset, .unset]) at_72 rfl rfl ?_
      refine s_iloadN B X272 (pc' := 75) at_74 rfl rfl ?_
      refine b_if_le B X272 (py := 82) (pn := 78) at_75 (by decide) (by decide) rfl (fun q => absurd hB q) (fun _ => ?_)
      refine s_iconst B X272 (pc' := 79) (v := (1 : Int32)) at_78 rfl rfl ?_
      refine s_goto B X272 (pc' := 83) at_79 (by decide) (by decide) ?_
      refine s_istore B X272 (pc' := 85) (Ls' := #[.val (.int i0), .val (.int i1), .val (.ref o260), .val (.ref w_LESS_OR_EQUAL), .val (.int (0 : Int32)), .val (.int (0 : Int32)), .val (.int (1 : Int32)), .unset, .unset, .unset, .unset]) at_83 rfl rfl ?_
      refine s_aloadN B X272 (pc' := 86) at_85 rfl rfl rfl ?_
      obtain ⟨S_EQUAL, E_EQUAL, S_NOT_EQUAL, E_NOT_EQUAL, S_LESS, E_LESS, S_LESS_OR_EQUAL, E_LESS_OR_EQUAL, S_GREATER, E_GREATER, S_GREATER_OR_EQUAL, E_GREATER_OR_EQUAL, F_EQUAL_ordinal, F_LESS_ordinal, F_NOT_EQUAL_ordinal, F_GREATER_ordinal, F_LESS_OR_EQUAL_ordinal, F_GREATER_OR_EQUAL_ordinal⟩ := id F272
      refine s_getS B X272 (pc' := 89) e272 (tw2 hw) Via.refl S_EQUAL at_86 rfl (fun T273 X273 e273 => ?_)
      refine b_acmp_ne B X273 (py := 104) (pn := 92) at_89 (by decide) (by decide) rfl (fun _ => ?_) (fun q => absurd q (own_ne_w_LESS_OR_EQUAL_w_EQUAL F272))
      refine s_aloadN B X273 (pc' := 105) at_104 rfl rfl rfl ?_
      refine s_getS B X273 (pc' := 108) e273 (tw6 hw) Via.refl S_NOT_EQUAL at_105 rfl (fun T274 X274 e274 => ?_)
      refine b_acmp_ne B X274 (py := 123) (pn := 111) at_108 (by decide) (by decide) rfl (fun _ => ?_) (fun q => absurd q (own_ne_w_LESS_OR_EQUAL_w_NOT_EQUAL F272))
      refine s_aloadN B X274 (pc' := 124) at_123 rfl rfl rfl ?_
      refine s_getS B X274 (pc' := 127) e274 (tw8 hw) Via.refl S_LESS at_124 rfl (fun T275 X275 e275 => ?_)
      refine b_acmp_ne B X275 (py := 142) (pn := 130) at_127 (by decide) (by decide) rfl (fun _ => ?_) (fun q => absurd q (own_ne_w_LESS_OR_EQUAL_w_LESS F272))
      refine s_aloadN B X275 (pc' := 143) at_142 rfl rfl rfl ?_
      refine s_getS B X275 (pc' := 146) e275 (tw10 hw) Via.refl S_LESS_OR_EQUAL at_143 rfl (fun T276 X276 e276 => ?_)
      refine b_acmp_ne B X276 (py := 161) (pn := 149) at_146 (by decide) (by decide) rfl (fun q => absurd rfl q) (fun _ => ?_)
      refine s_iconst B X276 (pc' := 150) (v := (1 : Int32)) at_149 rfl rfl ?_
      refine s_istore B X276 (pc' := 152) (Ls' := #[.val (.int i0), .val (.int i1), .val (.ref o260), .val (.ref w_LESS_OR_EQUAL), .val (.int (0 : Int32)), .val (.int (0 : Int32)), .val (.int (1 : Int32)), .val (.int (1 : Int32)), .unset, .unset, .unset]) at_150 rfl rfl ?_
      refine s_iconst B X276 (pc' := 153) (v := (1 : Int32)) at_152 rfl rfl ?_
      refine s_istore B X276 (pc' := 155) (Ls' := #[.val (.int i0), .val (.int i1), .val (.ref o260), .val (.ref w_LESS_OR_EQUAL), .val (.int (0 : Int32)), .val (.int (0 : Int32)), .val (.int (1 : Int32)), .val (.int (1 : Int32)), .val (.int (1 : Int32)), .unset, .unset]) at_153 rfl rfl ?_
      refine s_iconst B X276 (pc' := 156) (v := (0 : Int32)) at_155 rfl rfl ?_
      refine s_istore B X276 (pc' := 158) (Ls' := #[.val (.int i0), .val (.int i1), .val (.ref o260), .val (.ref w_LESS_OR_EQUAL), .val (.int (0 : Int32)), .val (.int (0 : Int32)), .val (.int (1 : Int32)), .val (.int (1 : Int32)), .val (.int (1 : Int32)), .val (.int (0 : Int32)), .unset]) at_156 rfl rfl ?_
      refine s_goto B X276 (pc' := 189) at_158 (by decide) (by decide) ?_
      refine s_iload B X276 (pc' := 191) at_189 rfl rfl ?_
      refine s_ifY B X276 (pc' := 199) at_191 (by decide) (by decide) (by decide) ?_
      refine s_iload B X276 (pc' := 201) at_199 rfl rfl ?_
      refine s_ifY B X276 (pc' := 209) at_201 (by decide) (by decide) (by decide) ?_
      refine s_iload B X276 (pc' := 211) at_209 rfl rfl ?_
      refine s_ifN B X276 (pc' := 214) at_211 (by decide) rfl ?_
      refine s_iload B X276 (pc' := 216) at_214 rfl rfl ?_
      refine s_ifY B X276 (pc' := 223) at_216 (by decide) (by decide) (by decide) ?_
      refine s_iconst B X276 (pc' := 224) (v := (0 : Int32)) at_223 rfl rfl ?_
      refine s_istore B X276 (pc' := 226) (Ls' := #[.val (.int i0), .val (.int i1), .val (.ref o260), .val (.ref w_LESS_OR_EQUAL), .val (.int (0 : Int32)), .val (.int (0 : Int32)), .val (.int (1 : Int32)), .val (.int (1 : Int32)), .val (.int (1 : Int32)), .val (.int (0 : Int32)), .val (.int (0 : Int32))]) at_224 rfl rfl ?_
      refine s_aloadN B X276 (pc' := 227) at_226 rfl rfl rfl ?_
      refine s_iloadN B X276 (pc' := 228) at_227 rfl rfl ?_
      refine p_virtual B X276 (y := mn2) (pc' := 231) (argsL := [(.int i1)]) (under := []) (W := 0) e276 (tw17 hw) (tw18 hw) (tw20 hw) (tw19 hw) (tw21 hw) (tw3 hw) (by decide) (rm1_21 l Z a0 hw i1 w_EQUAL w_NOT_EQUAL w_LESS w_LESS_OR_EQUAL w_GREATER w_GREATER_OR_EQUAL h272 F272 hA hB hE) E_LESS_OR_EQUAL (lenOf pd_1 rfl) rfl rfl (by decide) (by decide) rfl rfl (by decide) (by decide) rfl at_228 rfl (fun T277 X277 e277 => ?_)
      show Go p e below _ (T277.setTop (mkF m 231 #[.val (.int i0), .val (.int i1), .val (.ref o260), .val (.ref w_LESS_OR_EQUAL), .val (.int (0 : Int32)), .val (.int (0 : Int32)), .val (.int (1 : Int32)), .val (.int (1 : Int32)), .val (.int (1 : Int32)), .val (.int (0 : Int32)), .val (.int (0 : Int32))] [(.int (0 : Int32))]))
      refine s_iload B X277 (pc' := 233) at_231 rfl rfl ?_
      refine s_icmpN B X277 (pc' := 236) at_233 (by decide) rfl ?_
      refine s_iconst B X277 (pc' := 237) (v := (1 : Int32)) at_236 rfl rfl ?_
      refine s_goto B X277 (pc' := 241) at_237 (by decide) (by decide) ?_
      exact r_nar B X277 (t := .boolean) (by simp) rfl at_241 ⟨rfl, N272⟩ (by decide) (by decide)
    · refine s_bipush B X0 (pc' := 2) (v := (6 : Int32)) at_0 rfl rfl ?_
      refine s_newR B X0 (pc' := 5) (N := 6) (cap := 6) e0 (tw0 hw) (tw1 hw) (by decide) (by decide) (by decide) (by decide) (by decide) (by decide) at_2 rfl (fun T278 h278 o278 k278 g278 X278 e278 E278 A278 V278 => ?_)
      have ge_o278 : Z.heap.size ≤ o278 := g278 ▸ old_le (Old.start Z)
      replace A278 : Ary Z h278 o278 k278 (.object "com/example/upmob/upmob/Operator") 6 (lst [.null, .null, .null, .null, .null, .null] .null) := A278.congr (own_rep 6)
      have O278 := ((Old.start Z)).ext E278
      have F278 := OwnF.ext O278.2 F0
      show Go p e below _ (T278.setTop (mkF m 5 #[.val (.int i0), .val (.int i1), .unset, .unset, .unset, .unset, .unset, .unset, .unset, .unset, .unset] [(.ref o278)]))
      refine s_dup B X278 (pc' := 6) at_5 rfl rfl ?_
      refine s_iconst B X278 (pc' := 7) (v := (0 : Int32)) at_6 rfl rfl ?_
      obtain ⟨S_EQUAL, E_EQUAL, S_NOT_EQUAL, E_NOT_EQUAL, S_LESS, E_LESS, S_LESS_OR_EQUAL, E_LESS_OR_EQUAL, S_GREATER, E_GREATER, S_GREATER_OR_EQUAL, E_GREATER_OR_EQUAL, F_EQUAL_ordinal, F_LESS_ordinal, F_NOT_EQUAL_ordinal, F_GREATER_ordinal, F_LESS_OR_EQUAL_ordinal, F_GREATER_OR_EQUAL_ordinal⟩ := id F278
      refine s_getS B X278 (pc' := 10) e278 (tw2 hw) Via.refl S_EQUAL at_7 rfl (fun T279 X279 e279 => ?_)
      refine s_stR B X279 (pc' := 11) (jn := 0) e279 A278 rfl (Ary.sto A278 V278 (Ins.self E_EQUAL)) (by decide) (by decide) (by decide) at_10 rfl (fun T280 h280 X280 e280 W280 A280 => ?_)
      replace A280 := A280.full (show 0 < 6 by decide) (L' := [(.ref w_EQUAL), .null, .null, .null, .null, .null]) rfl
      have N280 := Fr.snoc X280 (Fr.nil _) ge_o278
      have O280 := (O278).wr W280 ge_o278
      have F280 := OwnF.ext O280.2 F0
      show Go p e below _ (T280.setTop (mkF m 11 #[.val (.int i0), .val (.int i1), .unset, .unset, .unset, .unset, .unset, .unset, .unset, .unset, .unset] [(.ref o278)]))
      refine s_dup B X280 (pc' := 12) at_11 rfl rfl ?_
      refine s_iconst B X280 (pc' := 13) (v := (1 : Int32)) at_12 rfl rfl ?_
      obtain ⟨S_EQUAL, E_EQUAL, S_NOT_EQUAL, E_NOT_EQUAL, S_LESS, E_LESS, S_LESS_OR_EQUAL, E_LESS_OR_EQUAL, S_GREATER, E_GREATER, S_GREATER_OR_EQUAL, E_GREATER_OR_EQUAL, F_EQUAL_ordinal, F_LESS_ordinal, F_NOT_EQUAL_ordinal, F_GREATER_ordinal, F_LESS_OR_EQUAL_ordinal, F_GREATER_OR_EQUAL_ordinal⟩ := id F280
      refine s_getS B X280 (pc' := 16) e280 (tw6 hw) Via.refl S_NOT_EQUAL at_13 rfl (fun T281 X281 e281 => ?_)
      refine s_stR B X281 (pc' := 17) (jn := 1) e281 A280 rfl (Ary.sto A280 V278 (Ins.self E_NOT_EQUAL)) (by decide) (by decide) (by decide) at_16 rfl (fun T282 h282 X282 e282 W282 A282 => ?_)
      replace A282 := A282.full (show 1 < 6 by decide) (L' := [(.ref w_EQUAL), (.ref w_NOT_EQUAL), .null, .null, .null, .null]) rfl
      have N282 := Fr.snoc X282 N280 ge_o278
      have O282 := (O280).wr W282 ge_o278
      have F282 := OwnF.ext O282.2 F0
      show Go p e below _ (T282.setTop (mkF m 17 #[.val (.int i0), .val (.int i1), .unset, .unset, .unset, .unset, .unset, .unset, .unset, .unset, .unset] [(.ref o278)]))
      refine s_dup B X282 (pc' := 18) at_17 rfl rfl ?_
      refine s_iconst B X282 (pc' := 19) (v := (2 : Int32)) at_18 rfl rfl ?_
      obtain ⟨S_EQUAL, E_EQUAL, S_NOT_EQUAL, E_NOT_EQUAL, S_LESS, E_LESS, S_LESS_OR_EQUAL, E_LESS_OR_EQUAL, S_GREATER, E_GREATER, S_GREATER_OR_EQUAL, E_GREATER_OR_EQUAL, F_EQUAL_ordinal, F_LESS_ordinal, F_NOT_EQUAL_ordinal, F_GREATER_ordinal, F_LESS_OR_EQUAL_ordinal, F_GREATER_OR_EQUAL_ordinal⟩ := id F282
      refine s_getS B X282 (pc' := 22) e282 (tw8 hw) Via.refl S_LESS at_19 rfl (fun T283 X283 e283 => ?_)
      refine s_stR B X283 (pc' := 23) (jn := 2) e283 A282 rfl (Ary.sto A282 V278 (Ins.self E_LESS)) (by decide) (by decide) (by decide) at_22 rfl (fun T284 h284 X284 e284 W284 A284 => ?_)
      replace A284 := A284.full (show 2 < 6 by decide) (L' := [(.ref w_EQUAL), (.ref w_NOT_EQUAL), (.ref w_LESS), .null, .null, .null]) rfl
      have N284 := Fr.snoc X284 N282 ge_o278
      have O284 := (O282).wr W284 ge_o278
      have F284 := OwnF.ext O284.2 F0
      show Go p e below _ (T284.setTop (mkF m 23 #[.val (.int i0), .val (.int i1), .unset, .unset, .unset, .unset, .unset, .unset, .unset, .unset, .unset] [(.ref o278)]))
      refine s_dup B X284 (pc' := 24) at_23 rfl rfl ?_
      refine s_iconst B X284 (pc' := 25) (v := (3 : Int32)) at_24 rfl rfl ?_
      obtain ⟨S_EQUAL, E_EQUAL, S_NOT_EQUAL, E_NOT_EQUAL, S_LESS, E_LESS, S_LESS_OR_EQUAL, E_LESS_OR_EQUAL, S_GREATER, E_GREATER, S_GREATER_OR_EQUAL, E_GREATER_OR_EQUAL, F_EQUAL_ordinal, F_LESS_ordinal, F_NOT_EQUAL_ordinal, F_GREATER_ordinal, F_LESS_OR_EQUAL_ordinal, F_GREATER_OR_EQUAL_ordinal⟩ := id F284
      refine s_getS B X284 (pc' := 28) e284 (tw10 hw) Via.refl S_LESS_OR_EQUAL at_25 rfl (fun T285 X285 e285 => ?_)
      refine s_stR B X285 (pc' := 29) (jn := 3) e285 A284 rfl (Ary.sto A284 V278 (Ins.self E_LESS_OR_EQUAL)) (by decide) (by decide) (by decide) at_28 rfl (fun T286 h286 X286 e286 W286 A286 => ?_)
      replace A286 := A286.full (show 3 < 6 by decide) (L' := [(.ref w_EQUAL), (.ref w_NOT_EQUAL), (.ref w_LESS), (.ref w_LESS_OR_EQUAL), .null, .null]) rfl
      have N286 := Fr.snoc X286 N284 ge_o278
      have O286 := (O284).wr W286 ge_o278
      have F286 := OwnF.ext O286.2 F0
      show Go p e below _ (T286.setTop (mkF m 29 #[.val (.int i0), .val (.int i1), .unset, .unset, .unset, .unset, .unset, .unset, .unset, .unset, .unset] [(.ref o278)]))
      refine s_dup B X286 (pc' := 30) at_29 rfl rfl ?_
      refine s_iconst B X286 (pc' := 31) (v := (4 : Int32)) at_30 rfl rfl ?_
      obtain ⟨S_EQUAL, E_EQUAL, S_NOT_EQUAL, E_NOT_EQUAL, S_LESS, E_LESS, S_LESS_OR_EQUAL, E_LESS_OR_EQUAL, S_GREATER, E_GREATER, S_GREATER_OR_EQUAL, E_GREATER_OR_EQUAL, F_EQUAL_ordinal, F_LESS_ordinal, F_NOT_EQUAL_ordinal, F_GREATER_ordinal, F_LESS_OR_EQUAL_ordinal, F_GREATER_OR_EQUAL_ordinal⟩ := id F286
      refine s_getS B X286 (pc' := 34) e286 (tw12 hw) Via.refl S_GREATER at_31 rfl (fun T287 X287 e287 => ?_)
      refine s_stR B X287 (pc' := 35) (jn := 4) e287 A286 rfl (Ary.sto A286 V278 (Ins.self E_GREATER)) (by decide) (by decide) (by decide) at_34 rfl (fun T288 h288 X288 e288 W288 A288 => ?_)
      replace A288 := A288.full (show 4 < 6 by decide) (L' := [(.ref w_EQUAL), (.ref w_NOT_EQUAL), (.ref w_LESS), (.ref w_LESS_OR_EQUAL), (.ref w_GREATER), .null]) rfl
      have N288 := Fr.snoc X288 N286 ge_o278
      have O288 := (O286).wr W288 ge_o278
      have F288 := OwnF.ext O288.2 F0
      show Go p e below _ (T288.setTop (mkF m 35 #[.val (.int i0), .val (.int i1), .unset, .unset, .unset, .unset, .unset, .unset, .unset, .unset, .unset] [(.ref o278)]))
      refine s_dup B X288 (pc' := 36) at_35 rfl rfl ?_
      refine s_iconst B X288 (pc' := 37) (v := (5 : Int32)) at_36 rfl rfl ?_
      obtain ⟨S_EQUAL, E_EQUAL, S_NOT_EQUAL, E_NOT_EQUAL, S_LESS, E_LESS, S_LESS_OR_EQUAL, E_LESS_OR_EQUAL, S_GREATER, E_GREATER, S_GREATER_OR_EQUAL, E_GREATER_OR_EQUAL, F_EQUAL_ordinal, F_LESS_ordinal, F_NOT_EQUAL_ordinal, F_GREATER_ordinal, F_LESS_OR_EQUAL_ordinal, F_GREATER_OR_EQUAL_ordinal⟩ := id F288
      refine s_getS B X288 (pc' := 40) e288 (tw14 hw) Via.refl S_GREATER_OR_EQUAL at_37 rfl (fun T289 X289 e289 => ?_)
      refine s_stR B X289 (pc' := 41) (jn := 5) e289 A288 rfl (Ary.sto A288 V278 (Ins.self E_GREATER_OR_EQUAL)) (by decide) (by decide) (by decide) at_40 rfl (fun T290 h290 X290 e290 W290 A290 => ?_)
      replace A290 := A290.full (show 5 < 6 by decide) (L' := [(.ref w_EQUAL), (.ref w_NOT_EQUAL), (.ref w_LESS), (.ref w_LESS_OR_EQUAL), (.ref w_GREATER), (.ref w_GREATER_OR_EQUAL)]) rfl
      have N290 := Fr.snoc X290 N288 ge_o278
      have O290 := (O288).wr W290 ge_o278
      have F290 := OwnF.ext O290.2 F0
      show Go p e below _ (T290.setTop (mkF m 41 #[.val (.int i0), .val (.int i1), .unset, .unset, .unset, .unset, .unset, .unset, .unset, .unset, .unset] [(.ref o278)]))
      refine s_astoreN B X290 (pc' := 42) (Ls' := #[.val (.int i0), .val (.int i1), .val (.ref o278), .unset, .unset, .unset, .unset, .unset, .unset, .unset, .unset]) at_41 rfl rfl rfl ?_
      refine s_aloadN B X290 (pc' := 43) at_42 rfl rfl rfl ?_
      refine s_iloadN B X290 (pc' := 44) at_43 rfl rfl ?_
      refine s_ldc B X290 (pc' := 46) (v := (2147483647 : Int32)) (tw16 hw) at_44 rfl ?_
      refine s_iand B X290 (pc' := 47) (v := (i0 &&& (2147483647 : Int32))) at_46 rfl rfl ?_
      refine s_bipush B X290 (pc' := 49) (v := (6 : Int32)) at_47 rfl rfl ?_
      refine s_irem B X290 (pc' := 50) (v := (4 : Int32)) at_49 (hv211) (by decide) rfl ?_
      refine s_ldR B X290 (pc' := 51) (jn := 4) (v := (.ref w_GREATER)) e290 A290 rfl (by decide) (by decide) (by decide) rfl at_50 rfl ?_
      refine s_astoreN B X290 (pc' := 52) (Ls' := #[.val (.int i0), .val (.int i1), .val (.ref o278), .val (.ref w_GREATER), .unset, .unset, .unset, .unset, .unset, .unset, .unset]) at_51 rfl rfl rfl ?_
      refine s_iloadN B X290 (pc' := 53) at_52 rfl rfl ?_
      refine b_if_ge B X290 (py := 60) (pn := 56) at_53 (by decide) (by decide) rfl (fun _ => ?_) (fun q => absurd q hA)
      refine s_iconst B X290 (pc' := 61) (v := (0 : Int32)) at_60 rfl rfl ?_
      refine s_istore B X290 (pc' := 63) (Ls' := #[.val (.int i0), .val (.int i1), .val (.ref o278), .val (.ref w_GREATER), .val (.int (0 : Int32)), .unset, .unset, .unset, .unset, .unset, .unset]) at_61 rfl rfl ?_
      refine s_iloadN B X290 (pc' := 64) at_63 rfl rfl ?_
      refine b_if_ne B X290 (py := 71) (pn := 67) at_64 (by decide) (by decide) rfl (fun _ => ?_) (fun q => absurd q hE)
      refine s_iconst B X290 (pc' := 72) (v := (0 : Int32)) at_71 rfl rfl ?_
      refine s_istore B X290 (pc' := 74) (Ls' := #[.val (.int i0), .val (.int i1), .val (.ref o278), .val (.ref w_GREATER), .val (.int (0 : Int32)), .val (.int (0 : Int32)), .unset, .unset, .unset, .unset, .unset]) at_72 rfl rfl ?_
      refine s_iloadN B X290 (pc' := 75) at_74 rfl rfl ?_
      refine b_if_le B X290 (py := 82) (pn := 78) at_75 (by decide) (by decide) rfl (fun q => absurd hB q) (fun _ => ?_)
      refine s_iconst B X290 (pc' := 79) (v := (1 : Int32)) at_78 rfl rfl ?_
      refine s_goto B X290 (pc' := 83) at_79 (by decide) (by decide) ?_
      refine s_istore B X290 (pc' := 85) (Ls' := #[.val (.int i0), .val (.int i1), .val (.ref o278), .val (.ref w_GREATER), .val (.int (0 : Int32)), .val (.int (0 : Int32)), .val (.int (1 : Int32)), .unset, .unset, .unset, .unset]) at_83 rfl rfl ?_
      refine s_aloadN B X290 (pc' := 86) at_85 rfl rfl rfl ?_
      obtain ⟨S_EQUAL, E_EQUAL, S_NOT_EQUAL, E_NOT_EQUAL, S_LESS, E_LESS, S_LESS_OR_EQUAL, E_LESS_OR_EQUAL, S_GREATER, E_GREATER, S_GREATER_OR_EQUAL, E_GREATER_OR_EQUAL, F_EQUAL_ordinal, F_LESS_ordinal, F_NOT_EQUAL_ordinal, F_GREATER_ordinal, F_LESS_OR_EQUAL_ordinal, F_GREATER_OR_EQUAL_ordinal⟩ := id F290
      refine s_getS B X290 (pc' := 89) e290 (tw2 hw) Via.refl S_EQUAL at_86 rfl (fun T291 X291 e291 => ?_)
      refine b_acmp_ne B X291 (py := 104) (pn := 92) at_89 (by decide) (by decide) rfl (fun _ => ?_) (fun q => absurd q (own_ne_w_GREATER_w_EQUAL F290))
      refine s_aloadN B X291 (pc' := 105) at_104 rfl rfl rfl ?_
      refine s_getS B X291 (pc' := 108) e291 (tw6 hw) Via.refl S_NOT_EQUAL at_105 rfl (fun T292 X292 e292 => ?_)
      refine b_acmp_ne B X292 (py := 123) (pn := 111) at_108 (by decide) (by decide) rfl (fun _ => ?_) (fun q => absurd q (own_ne_w_GREATER_w_NOT_EQUAL F290))
      refine s_aloadN B X292 (pc' := 124) at_123 rfl rfl rfl ?_
      refine s_getS B X292 (pc' := 127) e292 (tw8 hw) Via.refl S_LESS at_124 rfl (fun T293 X293 e293 => ?_)
      refine b_acmp_ne B X293 (py := 142) (pn := 130) at_127 (by decide) (by decide) rfl (fun _ => ?_) (fun q => absurd q (own_ne_w_GREATER_w_LESS F290))
      refine s_aloadN B X293 (pc' := 143) at_142 rfl rfl rfl ?_
      refine s_getS B X293 (pc' := 146) e293 (tw10 hw) Via.refl S_LESS_OR_EQUAL at_143 rfl (fun T294 X294 e294 => ?_)
      refine b_acmp_ne B X294 (py := 161) (pn := 149) at_146 (by decide) (by decide) rfl (fun _ => ?_) (fun q => absurd q (own_ne_w_GREATER_w_LESS_OR_EQUAL F290))
      refine s_aloadN B X294 (pc' := 162) at_161 rfl rfl rfl ?_
      refine s_getS B X294 (pc' := 165) e294 (tw12 hw) Via.refl S_GREATER at_162 rfl (fun T295 X295 e295 => ?_)
      refine b_acmp_ne B X295 (py := 180) (pn := 168) at_165 (by decide) (by decide) rfl (fun q => absurd rfl q) (fun _ => ?_)
      refine s_iconst B X295 (pc' := 169) (v := (0 : Int32)) at_168 rfl rfl ?_
      refine s_istore B X295 (pc' := 171) (Ls' := #[.val (.int i0), .val (.int i1), .val (.ref o278), .val (.ref w_GREATER), .val (.int (0 : Int32)), .val (.int (0 : Int32)), .val (.int (1 : Int32)), .val (.int (0 : Int32)), .unset, .unset, .unset]) at_169 rfl rfl ?_
      refine s_iconst B X295 (pc' := 172) (v := (0 : Int32)) at_171 rfl rfl ?_
      refine s_istore B X295 (pc' := 174) (Ls' := #[.val (.int i0), .val (.int i1), .val (.ref o278), .val (.ref w_GREATER), .val (.int (0 : Int32)), .val (.int (0 : Int32)), .val (.int (1 : Int32)), .val (.int (0 : Int32)), .val (.int (0 : Int32)), .unset, .unset]) at_172 rfl rfl ?_
      refine s_iconst B X295 (pc' := 175) (v := (1 : Int32)) at_174 rfl rfl ?_
      refine s_istore B X295 (pc' := 177) (Ls' := #[.val (.int i0), .val (.int i1), .val (.ref o278), .val (.ref w_GREATER), .val (.int (0 : Int32)), .val (.int (0 : Int32)), .val (.int (1 : Int32)), .val (.int (0 : Int32)), .val (.int (0 : Int32)), .val (.int (1 : Int32)), .unset]) at_175 rfl rfl ?_
      refine s_goto B X295 (pc' := 189) at_177 (by decide) (by decide) ?_
      refine s_iload B X295 (pc' := 191) at_189 rfl rfl ?_
      refine s_ifY B X295 (pc' := 199) at_191 (by decide) (by decide) (by decide) ?_
      refine s_iload B X295 (pc' := 201) at_199 rfl rfl ?_
      refine s_ifY B X295 (pc' := 209) at_201 (by decide) (by decide) (by decide) ?_
      refine s_iload B X295 (pc' := 211) at_209 rfl rfl ?_
      refine s_ifN B X295 (pc' := 214) at_211 (by decide) rfl ?_
      refine s_iload B X295 (pc' := 216) at_214 rfl rfl ?_
      refine s_ifN B X295 (pc' := 219) at_216 (by decide) rfl ?_
      refine s_iconst B X295 (pc' := 220) (v := (1 : Int32)) at_219 rfl rfl ?_
      refine s_goto B X295 (pc' := 224) at_220 (by decide) (by decide) ?_
      refine s_istore B X295 (pc' := 226) (Ls' := #[.val (.int i0), .val (.int i1), .val (.ref o278), .val (.ref w_GREATER), .val (.int (0 : Int32)), .val (.int (0 : Int32)), .val (.int (1 : Int32)), .val (.int (0 : Int32)), .val (.int (0 : Int32)), .val (.int (1 : Int32)), .val (.int (1 : Int32))]) at_224 rfl rfl ?_
      refine s_aloadN B X295 (pc' := 227) at_226 rfl rfl rfl ?_
      refine s_iloadN B X295 (pc' := 228) at_227 rfl rfl ?_
      refine p_virtual B X295 (y := mn2) (pc' := 231) (argsL := [(.int i1)]) (under := []) (W := 0) e295 (tw17 hw) (tw18 hw) (tw20 hw) (tw19 hw) (tw21 hw) (tw3 hw) (by decide) (rm1_22 l Z a0 hw i1 w_EQUAL w_NOT_EQUAL w_LESS w_LESS_OR_EQUAL w_GREATER w_GREATER_OR_EQUAL h290 F290 hA hB hE) E_GREATER (lenOf pd_1 rfl) rfl rfl (by decide) (by decide) rfl rfl (by decide) (by decide) rfl at_228 rfl (fun T296 X296 e296 => ?_)
      show Go p e below _ (T296.setTop (mkF m 231 #[.val (.int i0), .val (.int i1), .val (.ref o278), .val (.ref w_GREATER), .val (.int (0 : Int32)), .val (.int (0 : Int32)), .val (.int (1 : Int32)), .val (.int (0 : Int32)), .val (.int (0 : Int32)), .val (.int (1 : Int32)), .val (.int (1 : Int32))] [(.int (1 : Int32))]))
      refine s_iload B X296 (pc' := 233) at_231 rfl rfl ?_
      refine s_icmpN B X296 (pc' := 236) at_233 (by decide) rfl ?_
      refine s_iconst B X296 (pc' := 237) (v := (1 : Int32)) at_236 rfl rfl ?_
      refine s_goto B X296 (pc' := 241) at_237 (by decide) (by decide) ?_
      exact r_nar B X296 (t := .boolean) (by simp) rfl at_241 ⟨rfl, N290⟩ (by decide) (by decide)
    · refine s_bipush B X0 (pc' := 2) (v := (6 : Int32)) at_0 rfl rfl ?_
      refine s_newR B X0 (pc' := 5) (N := 6) (cap := 6) e0 (tw0 hw) (tw1 hw) (by decide) (by decide) (by decide) (by decide) (by decide) (by decide) at_2 rfl (fun T297 h297 o297 k297 g297 X297 e297 E297 A297 V297 => ?_)
      have ge_o297 : Z.heap.size ≤ o297 := g297 ▸ old_le (Old.start Z)
      replace A297 : Ary Z h297 o297 k297 (.object "com/example/upmob/upmob/Operator") 6 (lst [.null, .null, .null, .null, .null, .null] .null) := A297.congr (own_rep 6)
      have O297 := ((Old.start Z)).ext E297
      have F297 := OwnF.ext O297.2 F0
      show Go p e below _ (T297.setTop (mkF m 5 #[.val (.int i0), .val (.int i1), .unset, .unset, .unset, .unset, .unset, .unset, .unset, .unset, .unset] [(.ref o297)]))
      refine s_dup B X297 (pc' := 6) at_5 rfl rfl ?_
      refine s_iconst B X297 (pc' := 7) (v := (0 : Int32)) at_6 rfl rfl ?_
      obtain ⟨S_EQUAL, E_EQUAL, S_NOT_EQUAL, E_NOT_EQUAL, S_LESS, E_LESS, S_LESS_OR_EQUAL, E_LESS_OR_EQUAL, S_GREATER, E_GREATER, S_GREATER_OR_EQUAL, E_GREATER_OR_EQUAL, F_EQUAL_ordinal, F_LESS_ordinal, F_NOT_EQUAL_ordinal, F_GREATER_ordinal, F_LESS_OR_EQUAL_ordinal, F_GREATER_OR_EQUAL_ordinal⟩ := id F297
      refine s_getS B X297 (pc' := 10) e297 (tw2 hw) Via.refl S_EQUAL at_7 rfl (fun T298 X298 e298 => ?_)
      refine s_stR B X298 (pc' := 11) (jn := 0) e298 A297 rfl (Ary.sto A297 V297 (Ins.self E_EQUAL)) (by decide) (by decide) (by decide) at_10 rfl (fun T299 h299 X299 e299 W299 A299 => ?_)
      replace A299 := A299.full (show 0 < 6 by decide) (L' := [(.ref w_EQUAL), .null, .null, .null, .null, .null]) rfl
      have N299 := Fr.snoc X299 (Fr.nil _) ge_o297
      have O299 := (O297).wr W299 ge_o297
      have F299 := OwnF.ext O299.2 F0
      show Go p e below _ (T299.setTop (mkF m 11 #[.val (.int i0), .val (.int i1), .unset, .unset, .unset, .unset, .unset, .unset, .unset, .unset, .unset] [(.ref o297)]))
      refine s_dup B X299 (pc' := 12) at_11 rfl rfl ?_
      refine s_iconst B X299 (pc' := 13) (v := (1 : Int32)) at_12 rfl rfl ?_
      obtain ⟨S_EQUAL, E_EQUAL, S_NOT_EQUAL, E_NOT_EQUAL, S_LESS, E_LESS, S_LESS_OR_EQUAL, E_LESS_OR_EQUAL, S_GREATER, E_GREATER, S_GREATER_OR_EQUAL, E_GREATER_OR_EQUAL, F_EQUAL_ordinal, F_LESS_ordinal, F_NOT_EQUAL_ordinal, F_GREATER_ordinal, F_LESS_OR_EQUAL_ordinal, F_GREATER_OR_EQUAL_ordinal⟩ := id F299
      refine s_getS B X299 (pc' := 16) e299 (tw6 hw) Via.refl S_NOT_EQUAL at_13 rfl (fun T300 X300 e300 => ?_)
      refine s_stR B X300 (pc' := 17) (jn := 1) e300 A299 rfl (Ary.sto A299 V297 (Ins.self E_NOT_EQUAL)) (by decide) (by decide) (by decide) at_16 rfl (fun T301 h301 X301 e301 W301 A301 => ?_)
      replace A301 := A301.full (show 1 < 6 by decide) (L' := [(.ref w_EQUAL), (.ref w_NOT_EQUAL), .null, .null, .null, .null]) rfl
      have N301 := Fr.snoc X301 N299 ge_o297
      have O301 := (O299).wr W301 ge_o297
      have F301 := OwnF.ext O301.2 F0
      show Go p e below _ (T301.setTop (mkF m 17 #[.val (.int i0), .val (.int i1), .unset, .unset, .unset, .unset, .unset, .unset, .unset, .unset, .unset] [(.ref o297)]))
      refine s_dup B X301 (pc' := 18) at_17 rfl rfl ?_
      refine s_iconst B X301 (pc' := 19) (v := (2 : Int32)) at_18 rfl rfl ?_
      obtain ⟨S_EQUAL, E_EQUAL, S_NOT_EQUAL, E_NOT_EQUAL, S_LESS, E_LESS, S_LESS_OR_EQUAL, E_LESS_OR_EQUAL, S_GREATER, E_GREATER, S_GREATER_OR_EQUAL, E_GREATER_OR_EQUAL, F_EQUAL_ordinal, F_LESS_ordinal, F_NOT_EQUAL_ordinal, F_GREATER_ordinal, F_LESS_OR_EQUAL_ordinal, F_GREATER_OR_EQUAL_ordinal⟩ := id F301
      refine s_getS B X301 (pc' := 22) e301 (tw8 hw) Via.refl S_LESS at_19 rfl (fun T302 X302 e302 => ?_)
      refine s_stR B X302 (pc' := 23) (jn := 2) e302 A301 rfl (Ary.sto A301 V297 (Ins.self E_LESS)) (by decide) (by decide) (by decide) at_22 rfl (fun T303 h303 X303 e303 W303 A303 => ?_)
      replace A303 := A303.full (show 2 < 6 by decide) (L' := [(.ref w_EQUAL), (.ref w_NOT_EQUAL), (.ref w_LESS), .null, .null, .null]) rfl
      have N303 := Fr.snoc X303 N301 ge_o297
      have O303 := (O301).wr W303 ge_o297
      have F303 := OwnF.ext O303.2 F0
      show Go p e below _ (T303.setTop (mkF m 23 #[.val (.int i0), .val (.int i1), .unset, .unset, .unset, .unset, .unset, .unset, .unset, .unset, .unset] [(.ref o297)]))
      refine s_dup B X303 (pc' := 24) at_23 rfl rfl ?_
      refine s_iconst B X303 (pc' := 25) (v := (3 : Int32)) at_24 rfl rfl ?_
      obtain ⟨S_EQUAL, E_EQUAL, S_NOT_EQUAL, E_NOT_EQUAL, S_LESS, E_LESS, S_LESS_OR_EQUAL, E_LESS_OR_EQUAL, S_GREATER, E_GREATER, S_GREATER_OR_EQUAL, E_GREATER_OR_EQUAL, F_EQUAL_ordinal, F_LESS_ordinal, F_NOT_EQUAL_ordinal, F_GREATER_ordinal, F_LESS_OR_EQUAL_ordinal, F_GREATER_OR_EQUAL_ordinal⟩ := id F303
      refine s_getS B X303 (pc' := 28) e303 (tw10 hw) Via.refl S_LESS_OR_EQUAL at_25 rfl (fun T304 X304 e304 => ?_)
      refine s_stR B X304 (pc' := 29) (jn := 3) e304 A303 rfl (Ary.sto A303 V297 (Ins.self E_LESS_OR_EQUAL)) (by decide) (by decide) (by decide) at_28 rfl (fun T305 h305 X305 e305 W305 A305 => ?_)
      replace A305 := A305.full (show 3 < 6 by decide) (L' := [(.ref w_EQUAL), (.ref w_NOT_EQUAL), (.ref w_LESS), (.ref w_LESS_OR_EQUAL), .null, .null]) rfl
      have N305 := Fr.snoc X305 N303 ge_o297
      have O305 := (O303).wr W305 ge_o297
      have F305 := OwnF.ext O305.2 F0
      show Go p e below _ (T305.setTop (mkF m 29 #[.val (.int i0), .val (.int i1), .unset, .unset, .unset, .unset, .unset, .unset, .unset, .unset, .unset] [(.ref o297)]))
      refine s_dup B X305 (pc' := 30) at_29 rfl rfl ?_
      refine s_iconst B X305 (pc' := 31) (v := (4 : Int32)) at_30 rfl rfl ?_
      obtain ⟨S_EQUAL, E_EQUAL, S_NOT_EQUAL, E_NOT_EQUAL, S_LESS, E_LESS, S_LESS_OR_EQUAL, E_LESS_OR_EQUAL, S_GREATER, E_GREATER, S_GREATER_OR_EQUAL, E_GREATER_OR_EQUAL, F_EQUAL_ordinal, F_LESS_ordinal, F_NOT_EQUAL_ordinal, F_GREATER_ordinal, F_LESS_OR_EQUAL_ordinal, F_GREATER_OR_EQUAL_ordinal⟩ := id F305
      refine s_getS B X305 (pc' := 34) e305 (tw12 hw) Via.refl S_GREATER at_31 rfl (fun T306 X306 e306 => ?_)
      refine s_stR B X306 (pc' := 35) (jn := 4) e306 A305 rfl (Ary.sto A305 V297 (Ins.self E_GREATER)) (by decide) (by decide) (by decide) at_34 rfl (fun T307 h307 X307 e307 W307 A307 => ?_)
      replace A307 := A307.full (show 4 < 6 by decide) (L' := [(.ref w_EQUAL), (.ref w_NOT_EQUAL), (.ref w_LESS), (.ref w_LESS_OR_EQUAL), (.ref w_GREATER), .null]) rfl
      have N307 := Fr.snoc X307 N305 ge_o297
      have O307 := (O305).wr W307 ge_o297
      have F307 := OwnF.ext O307.2 F0
      show Go p e below _ (T307.setTop (mkF m 35 #[.val (.int i0), .val (.int i1), .unset, .unset, .unset, .unset, .unset, .unset, .unset, .unset, .unset] [(.ref o297)]))
      refine s_dup B X307 (pc' := 36) at_35 rfl rfl ?_
      refine s_iconst B X307 (pc' := 37) (v := (5 : Int32)) at_36 rfl rfl ?_
      obtain ⟨S_EQUAL, E_EQUAL, S_NOT_EQUAL, E_NOT_EQUAL, S_LESS, E_LESS, S_LESS_OR_EQUAL, E_LESS_OR_EQUAL, S_GREATER, E_GREATER, S_GREATER_OR_EQUAL, E_GREATER_OR_EQUAL, F_EQUAL_ordinal, F_LESS_ordinal, F_NOT_EQUAL_ordinal, F_GREATER_ordinal, F_LESS_OR_EQUAL_ordinal, F_GREATER_OR_EQUAL_ordinal⟩ := id F307
      refine s_getS B X307 (pc' := 40) e307 (tw14 hw) Via.refl S_GREATER_OR_EQUAL at_37 rfl (fun T308 X308 e308 => ?_)
      refine s_stR B X308 (pc' := 41) (jn := 5) e308 A307 rfl (Ary.sto A307 V297 (Ins.self E_GREATER_OR_EQUAL)) (by decide) (by decide) (by decide) at_40 rfl (fun T309 h309 X309 e309 W309 A309 => ?_)
      replace A309 := A309.full (show 5 < 6 by decide) (L' := [(.ref w_EQUAL), (.ref w_NOT_EQUAL), (.ref w_LESS), (.ref w_LESS_OR_EQUAL), (.ref w_GREATER), (.ref w_GREATER_OR_EQUAL)]) rfl
      have N309 := Fr.snoc X309 N307 ge_o297
      have O309 := (O307).wr W309 ge_o297
      have F309 := OwnF.ext O309.2 F0
      show Go p e below _ (T309.setTop (mkF m 41 #[.val (.int i0), .val (.int i1), .unset, .unset, .unset, .unset, .unset, .unset, .unset, .unset, .unset] [(.ref o297)]))
      refine s_astoreN B X309 (pc' := 42) (Ls' := #[.val (.int i0), .val (.int i1), .val (.ref o297), .unset, .unset, .unset, .unset, .unset, .unset, .unset, .unset]) at_41 rfl rfl rfl ?_
      refine s_aloadN B X309 (pc' := 43) at_42 rfl rfl rfl ?_
      refine s_iloadN B X309 (pc' := 44) at_43 rfl rfl ?_
      refine s_ldc B X309 (pc' := 46) (v := (2147483647 : Int32)) (tw16 hw) at_44 rfl ?_
      refine s_iand B X309 (pc' := 47) (v := (i0 &&& (2147483647 : Int32))) at_46 rfl rfl ?_
      refine s_bipush B X309 (pc' := 49) (v := (6 : Int32)) at_47 rfl rfl ?_
      refine s_irem B X309 (pc' := 50) (v := (5 : Int32)) at_49 (hv211) (by decide) rfl ?_
      refine s_ldR B X309 (pc' := 51) (jn := 5) (v := (.ref w_GREATER_OR_EQUAL)) e309 A309 rfl (by decide) (by decide) (by decide) rfl at_50 rfl ?_
      refine s_astoreN B X309 (pc' := 52) (Ls' := #[.val (.int i0), .val (.int i1), .val (.ref o297), .val (.ref w_GREATER_OR_EQUAL), .unset, .unset, .unset, .unset, .unset, .unset, .unset]) at_51 rfl rfl rfl ?_
      refine s_iloadN B X309 (pc' := 53) at_52 rfl rfl ?_
      refine b_if_ge B X309 (py := 60) (pn := 56) at_53 (by decide) (by decide) rfl (fun _ => ?_) (fun q => absurd q hA)
      refine s_iconst B X309 (pc' := 61) (v := (0 : Int32)) at_60 rfl rfl ?_
      refine s_istore B X309 (pc' := 63) (Ls' := #[.val (.int i0), .val (.int i1), .val (.ref o297), .val (.ref w_GREATER_OR_EQUAL), .val (.int (0 : Int32)), .unset, .unset, .unset, .unset, .unset, .unset]) at_61 rfl rfl ?_
      refine s_iloadN B X309 (pc' := 64) at_63 rfl rfl ?_
      refine b_if_ne B X309 (py := 71) (pn := 67) at_64 (by decide) (by decide) rfl (fun _ => ?_) (fun q => absurd q hE)
      refine s_iconst B X309 (pc' := 72) (v := (0 : Int32)) at_71 rfl rfl ?_
      refine s_istore B X309 (pc' := 74) (Ls' := #[.val (.int i0), .val (.int i1), .val (.ref o297), .val (.ref w_GREATER_OR_EQUAL), .val (.int (0 : Int32)), .val (.int (0 : Int32)), .unset, .unset, .unset, .unset, .unset]) at_72 rfl rfl ?_
      refine s_iloadN B X309 (pc' := 75) at_74 rfl rfl ?_
      refine b_if_le B X309 (py := 82) (pn := 78) at_75 (by decide) (by decide) rfl (fun q => absurd hB q) (fun _ => ?_)
      refine s_iconst B X309 (pc' := 79) (v := (1 : Int32)) at_78 rfl rfl ?_
      refine s_goto B X309 (pc' := 83) at_79 (by decide) (by decide) ?_
      refine s_istore B X309 (pc' := 85) (Ls' := #[.val (.int i0), .val (.int i1), .val (.ref o297), .val (.ref w_GREATER_OR_EQUAL), .val (.int (0 : Int32)), .val (.int (0 : Int32)), .val (.int (1 : Int32)), .unset, .unset, .unset, .unset]) at_83 rfl rfl ?_
      refine s_aloadN B X309 (pc' := 86) at_85 rfl rfl rfl ?_
      obtain ⟨S_EQUAL, E_EQUAL, S_NOT_EQUAL, E_NOT_EQUAL, S_LESS, E_LESS, S_LESS_OR_EQUAL, E_LESS_OR_EQUAL, S_GREATER, E_GREATER, S_GREATER_OR_EQUAL, E_GREATER_OR_EQUAL, F_EQUAL_ordinal, F_LESS_ordinal, F_NOT_EQUAL_ordinal, F_GREATER_ordinal, F_LESS_OR_EQUAL_ordinal, F_GREATER_OR_EQUAL_ordinal⟩ := id F309
      refine s_getS B X309 (pc' := 89) e309 (tw2 hw) Via.refl S_EQUAL at_86 rfl (fun T310 X310 e310 => ?_)
      refine b_acmp_ne B X310 (py := 104) (pn := 92) at_89 (by decide) (by decide) rfl (fun _ => ?_) (fun q => absurd q (own_ne_w_GREATER_OR_EQUAL_w_EQUAL F309))
      refine s_aloadN B X310 (pc' := 105) at_104 rfl rfl rfl ?_
      refine s_getS B X310 (pc' := 108) e310 (tw6 hw) Via.refl S_NOT_EQUAL at_105 rfl (fun T311 X311 e311 => ?_)
      refine b_acmp_ne B X311 (py := 123) (pn := 111) at_108 (by decide) (by decide) rfl (fun _ => ?_) (fun q => absurd q (own_ne_w_GREATER_OR_EQUAL_w_NOT_EQUAL F309))
      refine s_aloadN B X311 (pc' := 124) at_123 rfl rfl rfl ?_
      refine s_getS B X311 (pc' := 127) e311 (tw8 hw) Via.refl S_LESS at_124 rfl (fun T312 X312 e312 => ?_)
      refine b_acmp_ne B X312 (py := 142) (pn := 130) at_127 (by decide) (by decide) rfl (fun _ => ?_) (fun q => absurd q (own_ne_w_GREATER_OR_EQUAL_w_LESS F309))
      refine s_aloadN B X312 (pc' := 143) at_142 rfl rfl rfl ?_
      refine s_getS B X312 (pc' := 146) e312 (tw10 hw) Via.refl S_LESS_OR_EQUAL at_143 rfl (fun T313 X313 e313 => ?_)
      refine b_acmp_ne B X313 (py := 161) (pn := 149) at_146 (by decide) (by decide) rfl (fun _ => ?_) (fun q => absurd q (own_ne_w_GREATER_OR_EQUAL_w_LESS_OR_EQUAL F309))
      refine s_aloadN B X313 (pc' := 162) at_161 rfl rfl rfl ?_
      refine s_getS B X313 (pc' := 165) e313 (tw12 hw) Via.refl S_GREATER at_162 rfl (fun T314 X314 e314 => ?_)
      refine b_acmp_ne B X314 (py := 180) (pn := 168) at_165 (by decide) (by decide) rfl (fun _ => ?_) (fun q => absurd q (own_ne_w_GREATER_OR_EQUAL_w_GREATER F309))
      refine s_iconst B X314 (pc' := 181) (v := (0 : Int32)) at_180 rfl rfl ?_
      refine s_istore B X314 (pc' := 183) (Ls' := #[.val (.int i0), .val (.int i1), .val (.ref o297), .val (.ref w_GREATER_OR_EQUAL), .val (.int (0 : Int32)), .val (.int (0 : Int32)), .val (.int (1 : Int32)), .val (.int (0 : Int32)), .unset, .unset, .unset]) at_181 rfl rfl ?_
      refine s_iconst B X314 (pc' := 184) (v := (1 : Int32)) at_183 rfl rfl ?_
      refine s_istore B X314 (pc' := 186) (Ls' := #[.val (.int i0), .val (.int i1), .val (.ref o297), .val (.ref w_GREATER_OR_EQUAL), .val (.int (0 : Int32)), .val (.int (0 : Int32)), .val (.int (1 : Int32)), .val (.int (0 : Int32)), .val (.int (1 : Int32)), .unset, .unset]) at_184 rfl rfl ?_
      refine s_iconst B X314 (pc' := 187) (v := (1 : Int32)) at_186 rfl rfl ?_
      refine s_istore B X314 (pc' := 189) (Ls' := #[.val (.int i0), .val (.int i1), .val (.ref o297), .val (.ref w_GREATER_OR_EQUAL), .val (.int (0 : Int32)), .val (.int (0 : Int32)), .val (.int (1 : Int32)), .val (.int (0 : Int32)), .val (.int (1 : Int32)), .val (.int (1 : Int32)), .unset]) at_187 rfl rfl ?_
      refine s_iload B X314 (pc' := 191) at_189 rfl rfl ?_
      refine s_ifY B X314 (pc' := 199) at_191 (by decide) (by decide) (by decide) ?_
      refine s_iload B X314 (pc' := 201) at_199 rfl rfl ?_
      refine s_ifY B X314 (pc' := 209) at_201 (by decide) (by decide) (by decide) ?_
      refine s_iload B X314 (pc' := 211) at_209 rfl rfl ?_
      refine s_ifN B X314 (pc' := 214) at_211 (by decide) rfl ?_
      refine s_iload B X314 (pc' := 216) at_214 rfl rfl ?_
      refine s_ifN B X314 (pc' := 219) at_216 (by decide) rfl ?_
      refine s_iconst B X314 (pc' := 220) (v := (1 : Int32)) at_219 rfl rfl ?_
      refine s_goto B X314 (pc' := 224) at_220 (by decide) (by decide) ?_
      refine s_istore B X314 (pc' := 226) (Ls' := #[.val (.int i0), .val (.int i1), .val (.ref o297), .val (.ref w_GREATER_OR_EQUAL), .val (.int (0 : Int32)), .val (.int (0 : Int32)), .val (.int (1 : Int32)), .val (.int (0 : Int32)), .val (.int (1 : Int32)), .val (.int (1 : Int32)), .val (.int (1 : Int32))]) at_224 rfl rfl ?_
      refine s_aloadN B X314 (pc' := 227) at_226 rfl rfl rfl ?_
      refine s_iloadN B X314 (pc' := 228) at_227 rfl rfl ?_
      refine p_virtual B X314 (y := mn2) (pc' := 231) (argsL := [(.int i1)]) (under := []) (W := 0) e314 (tw17 hw) (tw18 hw) (tw20 hw) (tw19 hw) (tw21 hw) (tw3 hw) (by decide) (rm1_23 l Z a0 hw i1 w_EQUAL w_NOT_EQUAL w_LESS w_LESS_OR_EQUAL w_GREATER w_GREATER_OR_EQUAL h309 F309 hA hB hE) E_GREATER_OR_EQUAL (lenOf pd_1 rfl) rfl rfl (by decide) (by decide) rfl rfl (by decide) (by decide) rfl at_228 rfl (fun T315 X315 e315 => ?_)
      show Go p e below _ (T315.setTop (mkF m 231 #[.val (.int i0), .val (.int i1), .val (.ref o297), .val (.ref w_GREATER_OR_EQUAL), .val (.int (0 : Int32)), .val (.int (0 : Int32)), .val (.int (1 : Int32)), .val (.int (0 : Int32)), .val (.int (1 : Int32)), .val (.int (1 : Int32)), .val (.int (1 : Int32))] [(.int (1 : Int32))]))
      refine s_iload B X315 (pc' := 233) at_231 rfl rfl ?_
      refine s_icmpN B X315 (pc' := 236) at_233 (by decide) rfl ?_
      refine s_iconst B X315 (pc' := 237) (v := (1 : Int32)) at_236 rfl rfl ?_
      refine s_goto B X315 (pc' := 241) at_237 (by decide) (by decide) ?_
      exact r_nar B X315 (t := .boolean) (by simp) rfl at_241 ⟨rfl, N309⟩ (by decide) (by decide)
set_option maxRecDepth 65536 in
set_option maxHeartbeats 40000000 in
theorem comes_1 {Post : Tables → Env → Array Value → State → Outcome → State → Prop} (hpost : ∀ tb e args s v u, (limb_1_1.after args s (.returned v) u = true ∧ limb_1_2.after args s (.returned v) u = true ∧ True) → FrameEnd s (.returned v) u (Jvm.fieldLocs frame_1_writes args s ++ Jvm.arrayLocs frame_1_arrays args s ++ Jvm.staticLocs frame_1_statics s) 16 128 → Post tb e args s (.returned v) u) :
    ArmFor flags0 classFile x code maxLocals ret World_1 tables_1 room_1 Calls_1 rest_1 Pre_1 Post := by
  intro l hfl _ _ p e ha hc hk s m args below hf hA hF happ hP
  obtain ⟨hcalls, hrest, hpre⟩ := hP
  obtain ⟨-, -, -, hnamed, -, -, -, hat⟩ := (Spec.applies_iff hf).mp happ
  obtain ⟨hg, hn⟩ := and_e (Cond.before_iff.mp (show (Jvm.Cond.and given_1 narrow_1).before args s = true from hpre))
  obtain ⟨h1, hg⟩ := and_e hg
  obtain ⟨w0, w1, rfl⟩ : ∃ w0 w1 : Value, args = #[w0, w1] := by
    have hs : args.size = 2 := by simpa [Cond.value, given_1] using h1
    obtain ⟨L⟩ := args
    match L, hs with
    | [w0, w1], _ => exact ⟨w0, w1, rfl⟩
  have hw := fun d (hd : d ∈ tables_1) => atoms_spec (ws := Jvm.Cond.code x code maxLocals ret :: tables_1) hat d (List.mem_cons_of_mem _ hd)
  have hfit : Fit s := fun {y c} hc i hi => by
    obtain ⟨ha, rfl⟩ := Array.getElem?_eq_some_iff.mp hc
    have q := List.all_eq_true.mp ((Array.all_eq_true_iff_forall_mem.mp hF) _ (Array.getElem_mem ha)) i (List.mem_range.mpr hi)
    simpa [Array.getElem?_eq_getElem hi] using q
  obtain ⟨hg0, hg⟩ := and_e hg
  have hg1 := hg
  obtain ⟨i0, ei0⟩ := is_v hg0
  obtain rfl : w0 = (.int i0) := Option.some.inj ei0
  obtain ⟨i1, ei1⟩ := is_v hg1
  obtain rfl : w1 = (.int i1) := Option.some.inj ei1
  obtain ⟨hn0, hn⟩ := and_e hn
  obtain ⟨hn1, hn⟩ := and_e hn
  obtain ⟨hn2, hn⟩ := and_e hn
  obtain ⟨hn3, hn⟩ := and_e hn
  obtain ⟨hn4, hn⟩ := and_e hn
  obtain ⟨hn5, hn⟩ := and_e hn
  obtain ⟨hn6, hn⟩ := and_e hn
  obtain ⟨hn7, hn⟩ := and_e hn
  obtain ⟨hn8, hn⟩ := and_e hn
  obtain ⟨hn9, hn⟩ := and_e hn
  obtain ⟨hn10, hn⟩ := and_e hn
  have hn11 := hn
  obtain ⟨w_EQUAL, v_EQUAL⟩ := exa_v hn0
  have S_EQUAL := Sta.start v_EQUAL (Or.inr ⟨(tw3 hw), (tw4 hw)⟩)
  have E_EQUAL := Exa.start v_EQUAL hn0
  obtain ⟨w_NOT_EQUAL, v_NOT_EQUAL⟩ := exa_v hn1
  have S_NOT_EQUAL := Sta.start v_NOT_EQUAL (Or.inr ⟨(tw3 hw), (tw7 hw)⟩)
  have E_NOT_EQUAL := Exa.start v_NOT_EQUAL hn1
  obtain ⟨w_LESS, v_LESS⟩ := exa_v hn2
  have S_LESS := Sta.start v_LESS (Or.inr ⟨(tw3 hw), (tw9 hw)⟩)
  have E_LESS := Exa.start v_LESS hn2
  obtain ⟨w_LESS_OR_EQUAL, v_LESS_OR_EQUAL⟩ := exa_v hn3
  have S_LESS_OR_EQUAL := Sta.start v_LESS_OR_EQUAL (Or.inr ⟨(tw3 hw), (tw11 hw)⟩)
  have E_LESS_OR_EQUAL := Exa.start v_LESS_OR_EQUAL hn3
  obtain ⟨w_GREATER, v_GREATER⟩ := exa_v hn4
  have S_GREATER := Sta.start v_GREATER (Or.inr ⟨(tw3 hw), (tw13 hw)⟩)
  have E_GREATER := Exa.start v_GREATER hn4
  obtain ⟨w_GREATER_OR_EQUAL, v_GREATER_OR_EQUAL⟩ := exa_v hn5
  have S_GREATER_OR_EQUAL := Sta.start v_GREATER_OR_EQUAL (Or.inr ⟨(tw3 hw), (tw15 hw)⟩)
  have E_GREATER_OR_EQUAL := Exa.start v_GREATER_OR_EQUAL hn5
  have F_EQUAL_ordinal := Fld.start ((fld_at v_EQUAL).symm.trans (eqI_v hn6))
  have F_LESS_ordinal := Fld.start ((fld_at v_LESS).symm.trans (eqI_v hn7))
  have F_NOT_EQUAL_ordinal := Fld.start ((fld_at v_NOT_EQUAL).symm.trans (eqI_v hn8))
  have F_GREATER_ordinal := Fld.start ((fld_at v_GREATER).symm.trans (eqI_v hn9))
  have F_LESS_OR_EQUAL_ordinal := Fld.start ((fld_at v_LESS_OR_EQUAL).symm.trans (eqI_v hn10))
  have F_GREATER_OR_EQUAL_ordinal := Fld.start ((fld_at v_GREATER_OR_EQUAL).symm.trans (eqI_v hn11))
  obtain ⟨n, o, h1, h2, h3, _, L, rfl, ⟨rfl, N⟩, hq⟩ := rm_law l s _ hw i0 i1 w_EQUAL w_NOT_EQUAL w_LESS w_LESS_OR_EQUAL w_GREATER w_GREATER_OR_EQUAL ⟨S_EQUAL, E_EQUAL, S_NOT_EQUAL, E_NOT_EQUAL, S_LESS, E_LESS, S_LESS_OR_EQUAL, E_LESS_OR_EQUAL, S_GREATER, E_GREATER, S_GREATER_OR_EQUAL, E_GREATER_OR_EQUAL, F_EQUAL_ordinal, F_LESS_ordinal, F_NOT_EQUAL_ordinal, F_GREATER_ordinal, F_LESS_OR_EQUAL_ordinal, F_GREATER_OR_EQUAL_ordinal⟩ p e ha hc hk s m _ below hf ((Spec.applies_iff_loose hf).mp happ).1 ⟨rfl, State.Warmed39.refl s, rfl⟩ trivial
  refine ⟨n, _, h1, h2, h3, hpost _ _ _ _ _ _ ⟨Cond.after_iff.mpr rfl, Cond.after_iff.mpr (eq_i res_at (Term.int_eval (1)) rfl), trivial⟩ ⟨hq.1, hq.2.1, (hq.2.2.sift fun y hy => Or.inr (N y hy)).mono (by decide) (by decide)⟩⟩
theorem main_1_1 : Claimed_1_1 := comes_1 fun _ _ _ _ _ _ h hF => ⟨h.1, hF⟩
theorem main_1_2 : Claimed_1_2 := comes_1 fun _ _ _ _ _ _ h hF => ⟨h.2.1, hF⟩
end Jvm.Pilot.@@N@@
namespace Jvm.Pilot.@@N@@
open Jvm Jvm.ClassFile Sem Op Lib Jvm.Free Jvm.Stand Jvm.Pilot.@@N@@.Jvm.D
/-! MADE BY PROGRAM (witnessworld.py) out of the Statement's table words and the real class files: 13 classes; the members and pool entries that the words name. The judged class is class 1, her method 1. -/
namespace start1
open Jvm.ClassFile
def u (s : String) : CpInfo := .utf8 (stringToUtf16 s)
/-- a pool by its gaps: so many unusable entries, then the entry; so many at the end -/
def gap : Nat → List CpInfo → List CpInfo
  | 0, r => r
  | n + 1, r => .unusable :: gap n r
def poolList (es : List (Nat × CpInfo)) (last : Nat) : List CpInfo := es.foldr (fun e r => gap e.1 (e.2 :: r)) (gap last [])
def pool (es : List (Nat × CpInfo)) (last : Nat) : Array CpInfo := ⟨poolList es last⟩
def fileOf (pool : Array CpInfo) (this : Nat) (attrs : Array Attribute := #[]) (ms : Array MethodInfo := #[]) (fl : Nat := 33) (sup : Nat := 0) (ifs : Array Nat := #[]) (fds : Array FieldInfo := #[]) : ClassFile where
  minorVersion := 0
  majorVersion := 65
  constantPool := pool
  accessFlags := fl
  thisClass := this
  superClass := sup
  interfaces := ifs
  fields := fds
  methods := ms
  attributes := attrs
def plain (name : String) (sup : Option ClassId) : Class where
  name := name
  kind := .ordinary
  loader := none
  accessFlags := 33
  super := sup
  interfaces := #[]
  cf := none
  fields := #[]
  methods := #[]
  instanceTypes := #[]
  staticTypes := #[]
  resolved := #[]
  callSites := []
  init := .initialized
  statics := none
  mirror := none

def pool0 : Array CpInfo := pool [(5, u "<init>"), (0, u "()V"), (1, .class_ 10), (1, u "java/lang/Object")] 113

def k0m0 : Method := { name := "<init>", desc := "()V", sig := { parameters := [], returnType := none }, accessFlags := 1, code := none }
/-- java/lang/Object -/
def k0 : Class := { plain "java/lang/Object" none with
  accessFlags := 33
  interfaces := #[]
  cf := some (fileOf pool0 8 #[] #[{ accessFlags := 1, nameIndex := 5, descriptorIndex := 6, attributes := #[] }] 33 0 #[] #[])
  fields := #[]
  methods := #[k0m0]
  instanceTypes := #[]
  staticTypes := #[]
  resolved := Array.replicate 124 none
  statics := none }

def pool1 : Array CpInfo := pool [(2, .class_ 4), (1, u "java/lang/Object"), (0, u "<init>"), (0, u "()V"), (0, .class_ 8), (0, u "com/example/upmob/upmob/Operator"), (0, .fieldref 7 10), (0, .nameAndType 11 12), (0, u "EQUAL"), (0, u "Lcom/example/upmob/upmob/Operator;"), (0, .fieldref 7 14), (0, .nameAndType 15 12), (0, u "NOT_EQUAL"), (0, .fieldref 7 17), (0, .nameAndType 18 12), (0, u "LESS"), (0, .fieldref 7 20), (0, .nameAndType 21 12), (0, u "LESS_OR_EQUAL"), (0, .fieldref 7 23), (0, .nameAndType 24 12), (0, u "GREATER"), (0, .fieldref 7 26), (0, .nameAndType 27 12), (0, u "GREATER_OR_EQUAL"), (0, .integer 2147483647), (0, .methodref 7 30), (0, .nameAndType 31 32), (0, u "holds"), (0, u "(I)Z"), (0, .class_ 34), (0, u "com/example/upmob/upmob/OperatorHoldsPinLaw"), (2, u "law"), (0, u "(II)Z")] 5

def k1m0 : Method := { name := "<init>", desc := "()V", sig := { parameters := [], returnType := none }, accessFlags := 1, code := none }
def k1c1 : Code := { maxStack := 4, maxLocals := 11, code := code, exceptionTable := #[], attributes := #[] }
def k1m1 : Method := { name := "law", desc := "(II)Z", sig := { parameters := [.int, .int], returnType := some .boolean }, accessFlags := 9, code := some k1c1 }
/-- com/example/upmob/upmob/OperatorHoldsPinLaw -/
def k1 : Class := { plain "com/example/upmob/upmob/OperatorHoldsPinLaw" (some 0) with
  accessFlags := 49
  interfaces := #[]
  cf := some (fileOf pool1 33 #[] #[{ accessFlags := 1, nameIndex := 5, descriptorIndex := 6, attributes := #[] }, { accessFlags := 9, nameIndex := 37, descriptorIndex := 38, attributes := #[] }] 49 2 #[] #[])
  fields := #[]
  methods := #[k1m0, k1m1]
  instanceTypes := #[]
  staticTypes := #[]
  resolved := Array.replicate 44 none
  statics := none }

def pool2 : Array CpInfo := pool [(1, .class_ 2), (0, u "java/lang/constant/Constable"), (0, .class_ 4), (0, u "java/lang/Object")] 6

/-- java/lang/constant/Constable -/
def k2 : Class := { plain "java/lang/constant/Constable" (some 0) with
  accessFlags := 1537
  interfaces := #[]
  cf := some (fileOf pool2 1 #[] #[] 1537 3 #[] #[])
  fields := #[]
  methods := #[]
  instanceTypes := #[]
  staticTypes := #[]
  resolved := Array.replicate 11 none
  statics := none }

def pool3 : Array CpInfo := pool [(1, .class_ 2), (0, u "java/lang/Comparable"), (0, .class_ 4), (0, u "java/lang/Object")] 7

/-- java/lang/Comparable -/
def k3 : Class := { plain "java/lang/Comparable" (some 0) with
  accessFlags := 1537
  interfaces := #[]
  cf := some (fileOf pool3 1 #[] #[] 1537 3 #[] #[])
  fields := #[]
  methods := #[]
  instanceTypes := #[]
  staticTypes := #[]
  resolved := Array.replicate 12 none
  statics := none }

def pool4 : Array CpInfo := pool [(1, .class_ 2), (0, u "java/io/Serializable"), (0, .class_ 4), (0, u "java/lang/Object")] 2

/-- java/io/Serializable -/
def k4 : Class := { plain "java/io/Serializable" (some 0) with
  accessFlags := 1537
  interfaces := #[]
  cf := some (fileOf pool4 1 #[] #[] 1537 3 #[] #[])
  fields := #[]
  methods := #[]
  instanceTypes := #[]
  staticTypes := #[]
  resolved := Array.replicate 7 none
  statics := none }

def pool5 : Array CpInfo := pool [(2, .class_ 4), (1, u "java/lang/Enum"), (0, u "name"), (0, u "Ljava/lang/String;"), (0, .fieldref 2 8), (0, .nameAndType 9 10), (0, u "ordinal"), (0, u "I"), (1, .class_ 14), (1, u "java/lang/Object"), (4, u "hash"), (86, .class_ 108), (1, u "java/lang/Enum$EnumDesc"), (2, .class_ 112), (0, u "java/lang/constant/Constable"), (0, .class_ 114), (0, u "java/lang/Comparable"), (0, .class_ 116), (0, u "java/io/Serializable"), (9, u "()I")] 77

def k5c0 : Code := { maxStack := 1, maxLocals := 1, code := jdk_37_method_2_code, exceptionTable := #[], attributes := #[] }
def k5m0 : Method := { name := "ordinal", desc := "()I", sig := { parameters := [], returnType := some .int }, accessFlags := 17, code := some k5c0 }
/-- java/lang/Enum -/
def k5 : Class := { plain "java/lang/Enum" (some 0) with
  accessFlags := 1057
  interfaces := #[2, 3, 4]
  cf := some (fileOf pool5 2 #[.nestMembers #[106]] #[{ accessFlags := 17, nameIndex := 9, descriptorIndex := 126, attributes := #[] }] 1057 12 #[111, 113, 115] #[{ accessFlags := 18, nameIndex := 5, descriptorIndex := 6, attributes := #[] }, { accessFlags := 18, nameIndex := 9, descriptorIndex := 10, attributes := #[] }, { accessFlags := 2, nameIndex := 19, descriptorIndex := 10, attributes := #[] }])
  fields := #[{ name := "name", type := (.object "java/lang/String"), accessFlags := 18, slot := 0, constantValue := 0 }, { name := "ordinal", type := .int, accessFlags := 18, slot := 1, constantValue := 0 }, { name := "hash", type := .int, accessFlags := 2, slot := 2, constantValue := 0 }]
  methods := #[k5m0]
  instanceTypes := #[(.object "java/lang/String"), .int, .int]
  staticTypes := #[]
  resolved := Array.replicate 204 none
  statics := none }

def pool6 : Array CpInfo := pool [(1, .class_ 2), (0, u "com/example/upmob/upmob/Operator"), (2, u "EQUAL"), (0, u "Lcom/example/upmob/upmob/Operator;"), (2, u "NOT_EQUAL"), (2, u "LESS"), (2, u "LESS_OR_EQUAL"), (2, u "GREATER"), (2, u "GREATER_OR_EQUAL"), (2, u "$VALUES"), (0, u "[Lcom/example/upmob/upmob/Operator;"), (6, .class_ 34), (1, u "java/lang/Enum"), (8, u "symbol"), (0, u "Ljava/lang/String;"), (0, .methodref 1 46), (0, .nameAndType 47 48), (0, u "ordinal"), (0, u "()I"), (49, u "holds"), (0, u "(I)Z")] 10

def k6c0 : Code := { maxStack := 4, maxLocals := 3, code := prog_23_method_5_code, exceptionTable := #[], attributes := #[] }
def k6m0 : Method := { name := "holds", desc := "(I)Z", sig := { parameters := [.int], returnType := some .boolean }, accessFlags := 0, code := some k6c0 }
/-- com/example/upmob/upmob/Operator -/
def k6 : Class := { plain "com/example/upmob/upmob/Operator" (some 5) with
  accessFlags := 16432
  interfaces := #[]
  cf := some (fileOf pool6 1 #[] #[{ accessFlags := 0, nameIndex := 98, descriptorIndex := 99, attributes := #[] }] 16432 32 #[] #[{ accessFlags := 16409, nameIndex := 5, descriptorIndex := 6, attributes := #[] }, { accessFlags := 16409, nameIndex := 9, descriptorIndex := 6, attributes := #[] }, { accessFlags := 16409, nameIndex := 12, descriptorIndex := 6, attributes := #[] }, { accessFlags := 16409, nameIndex := 15, descriptorIndex := 6, attributes := #[] }, { accessFlags := 16409, nameIndex := 18, descriptorIndex := 6, attributes := #[] }, { accessFlags := 16409, nameIndex := 21, descriptorIndex := 6, attributes := #[] }, { accessFlags := 18, nameIndex := 43, descriptorIndex := 44, attributes := #[] }, { accessFlags := 4122, nameIndex := 24, descriptorIndex := 25, attributes := #[] }])
  fields := #[{ name := "EQUAL", type := (.object "com/example/upmob/upmob/Operator"), accessFlags := 16409, slot := 0, constantValue := 0 }, { name := "NOT_EQUAL", type := (.object "com/example/upmob/upmob/Operator"), accessFlags := 16409, slot := 1, constantValue := 0 }, { name := "LESS", type := (.object "com/example/upmob/upmob/Operator"), accessFlags := 16409, slot := 2, constantValue := 0 }, { name := "LESS_OR_EQUAL", type := (.object "com/example/upmob/upmob/Operator"), accessFlags := 16409, slot := 3, constantValue := 0 }, { name := "GREATER", type := (.object "com/example/upmob/upmob/Operator"), accessFlags := 16409, slot := 4, constantValue := 0 }, { name := "GREATER_OR_EQUAL", type := (.object "com/example/upmob/upmob/Operator"), accessFlags := 16409, slot := 5, constantValue := 0 }, { name := "symbol", type := (.object "java/lang/String"), accessFlags := 18, slot := 3, constantValue := 0 }, { name := "$VALUES", type := (.array (.object "com/example/upmob/upmob/Operator")), accessFlags := 4122, slot := 6, constantValue := 0 }]
  methods := #[k6m0]
  instanceTypes := #[(.object "java/lang/String"), .int, .int, (.object "java/lang/String")]
  staticTypes := #[(.object "com/example/upmob/upmob/Operator"), (.object "com/example/upmob/upmob/Operator"), (.object "com/example/upmob/upmob/Operator"), (.object "com/example/upmob/upmob/Operator"), (.object "com/example/upmob/upmob/Operator"), (.object "com/example/upmob/upmob/Operator"), (.array (.object "com/example/upmob/upmob/Operator"))]
  resolved := Array.replicate 110 none
  statics := some 0 }

def pool7 : Array CpInfo := pool [(1, u "java/lang/Cloneable"), (0, .class_ 1), (0, u "java/lang/Object"), (0, .class_ 3)] 3

/-- java/lang/Cloneable -/
def k7 : Class := { plain "java/lang/Cloneable" (some 0) with
  accessFlags := 1537
  interfaces := #[]
  cf := some (fileOf pool7 2 #[] #[] 1537 4 #[] #[])
  fields := #[]
  methods := #[]
  instanceTypes := #[]
  staticTypes := #[]
  resolved := Array.replicate 8 none
  statics := none }

/-- the primitive byte -/
def k8 : Class := { plain "byte" none with kind := .primitive 'B', accessFlags := 0x411 }
/-- [B -/
def k9 : Class := { plain "[B" (some 0) with kind := .array 8 .byte, interfaces := #[7, 4], accessFlags := 1041 }

/-- the primitive int -/
def k10 : Class := { plain "int" none with kind := .primitive 'I', accessFlags := 0x411 }
/-- [I -/
def k11 : Class := { plain "[I" (some 0) with kind := .array 10 .int, interfaces := #[7, 4], accessFlags := 1041 }

/-- [Lcom/example/upmob/upmob/Operator; -/
def k12 : Class := { plain "[Lcom/example/upmob/upmob/Operator;" (some 0) with kind := .array 6 (.object "com/example/upmob/upmob/Operator"), interfaces := #[7, 4], accessFlags := 1041 }

def heap : Heap := #[{ cls := 6, slots := #[.ref 1, .ref 2, .ref 3, .ref 4, .ref 5, .ref 6, .null], vm := .statics 6 },
  { cls := 6, slots := #[.null, .int 0, .int 0, .null], vm := .none },
  { cls := 6, slots := #[.null, .int 1, .int 0, .null], vm := .none },
  { cls := 6, slots := #[.null, .int 2, .int 0, .null], vm := .none },
  { cls := 6, slots := #[.null, .int 3, .int 0, .null], vm := .none },
  { cls := 6, slots := #[.null, .int 4, .int 0, .null], vm := .none },
  { cls := 6, slots := #[.null, .int 5, .int 0, .null], vm := .none }]
def classes : Array Class := #[k0, k1, k2, k3, k4, k5, k6, k7, k8, k9, k10, k11, k12]
def interned : List (Array UInt16 × Addr) := []
def slotsUsed : Nat := 31
def theMethod : MethodId := ⟨1, 1⟩
def args0 : Array Value := #[.int 5, .int 6]
def aboutOver (below : List Frame) : State where
  vm := { classes := classes, interned := interned.toArray }
  heap := heap
  slotsUsed := slotsUsed
  threads := #[{ frames := .invoking theMethod args0 :: below }]
def below0 : List Frame := [.native { method := ⟨0, 0⟩, args := #[] }]
def about1 : State := aboutOver below0
def p0 : Program := .bare "" "" ""
def e0 : Env := launch0.env 0 0 0
theorem w_frames : about1.frames = Frame.invoking theMethod args0 :: below0 := rfl
set_option maxRecDepth 65536 in
theorem w_args : argsFit about1.vm theMethod args0 = true := by decide +kernel
set_option maxRecDepth 65536 in
theorem w_heap : heapFits about1 = true := by decide +kernel
set_option maxRecDepth 65536 in
theorem w_runnable : about1.curStatus? = some .runnable := by decide +kernel
set_option maxRecDepth 65536 in
theorem w_alone : about1.alone = true := by decide +kernel
set_option maxRecDepth 65536 in
theorem w_named : about1.methodNamed? x = some theMethod := by decide +kernel
set_option maxRecDepth 65536 in
theorem w_hears : about1.hears theMethod below0 = true := by decide +kernel
set_option maxRecDepth 65536 in
theorem w_ripe : about1.ripe theMethod args0 below0 = true := by decide +kernel
theorem w_running : about1.status = .running := rfl
set_option maxRecDepth 65536 in
theorem w_room : about1.hasRoom e0.platform room_1 = true :=
  launch0.hasRoom_least _ room_1 (by decide +kernel) (by decide +kernel) (by decide +kernel) (by decide +kernel) (by decide +kernel) (by decide +kernel)
theorem allAtoms_all (ts : List Jvm.Cond) (a : Array Jvm.Value) (st : Jvm.State) : (allAtoms ts).before a st = ts.all (fun c => c.before a st) := by
  induction ts with
  | nil => rfl
  | cons c t ih =>
    show (Jvm.Cond.and c (allAtoms t)).before a st = _
    rw [Jvm.Cond.before_and, ih, List.all_cons]
def words1 : List Jvm.Cond := Jvm.Cond.code x code maxLocals ret :: tables_1
/-- a 'code' word, met by the world's own term for the bytes: nothing is compared byte by byte -/
theorem code_word {y : MethodName} {bytes : ByteArray} {mx : Nat} {rt : Option FieldType} {a : Array Value} {s : State} {m : MethodId} {meth : Method} {c : Code} (h1 : s.methodNamed? y = some m) (h2 : s.vm.method? m = some meth) (h3 : meth.code = some c) (h4 : c.code = bytes)
    (h5 : (c.maxLocals == mx && c.exceptionTable.isEmpty && decide (c.maxStack ≤ mostOperands) && decide (meth.sig.returnType = rt) && !meth.locks && decide (parseMethodDescriptor y.desc = some meth.sig)) = true) : (Jvm.Cond.code y bytes mx rt).before a s = true := by
  simp only [Bool.and_eq_true, beq_iff_eq, Bool.not_eq_true', decide_eq_true_eq] at h5
  obtain ⟨⟨⟨⟨⟨g1, g2⟩, g3⟩, g4⟩, g5⟩, g6⟩ := h5
  simp [Cond.before, Cond.holds, Cond.value, h1, h2, h3, h4, g1, g2, g3, g4, g5, g6]
def isCode : Jvm.Cond → Bool
  | .code _ _ _ _ => true
  | _ => false
theorem all_split {L : List Jvm.Cond} {P : Jvm.Cond → Bool} (h1 : L.all (fun c => isCode c || P c) = true) (h2 : ∀ c ∈ L.filter isCode, P c = true) : L.all P = true := by
  refine List.all_eq_true.mpr fun c hc => ?_
  have h := List.all_eq_true.mp h1 c hc
  rcases Bool.eq_false_or_eq_true (isCode c) with hi | hi
  · exact h2 c (List.mem_filter.mpr ⟨hc, hi⟩)
  · simpa [hi] using h
set_option maxRecDepth 65536 in
theorem w_c0 : (Jvm.Cond.code x code maxLocals ret).before args0 about1 = true := code_word (m := ⟨1, 1⟩) (meth := k1m1) (c := k1c1) (by decide +kernel) rfl rfl rfl (by decide +kernel)
set_option maxRecDepth 65536 in
theorem w_c1 : (Jvm.Cond.code ({ cls := "com/example/upmob/upmob/Operator", name := "holds", desc := "(I)Z" } : Jvm.MethodName) prog_23_method_5_code (3 : Nat) (Option.some Jvm.ClassFile.FieldType.boolean)).before args0 about1 = true := code_word (m := ⟨6, 0⟩) (meth := k6m0) (c := k6c0) (by decide +kernel) rfl rfl rfl (by decide +kernel)
set_option maxRecDepth 65536 in
theorem w_c2 : (Jvm.Cond.code ({ cls := "java/lang/Enum", name := "ordinal", desc := "()I" } : Jvm.MethodName) jdk_37_method_2_code (1 : Nat) (Option.some Jvm.ClassFile.FieldType.int)).before args0 about1 = true := code_word (m := ⟨5, 0⟩) (meth := k5m0) (c := k5c0) (by decide +kernel) rfl rfl rfl (by decide +kernel)
def codes1 : List Jvm.Cond := [Jvm.Cond.code x code maxLocals ret, Jvm.Cond.code ({ cls := "com/example/upmob/upmob/Operator", name := "holds", desc := "(I)Z" } : Jvm.MethodName) prog_23_method_5_code (3 : Nat) (Option.some Jvm.ClassFile.FieldType.boolean), Jvm.Cond.code ({ cls := "java/lang/Enum", name := "ordinal", desc := "()I" } : Jvm.MethodName) jdk_37_method_2_code (1 : Nat) (Option.some Jvm.ClassFile.FieldType.int)]
set_option maxRecDepth 65536 in
theorem codes_eq : words1.filter isCode = codes1 := rfl
theorem w_codes : ∀ c ∈ words1.filter isCode, c.before args0 about1 = true := by
  rw [codes_eq]
  intro c hc
  simp only [codes1, List.mem_cons, List.not_mem_nil, or_false] at hc
  rcases hc with rfl | rfl | rfl
  · exact w_c0
  · exact w_c1
  · exact w_c2
set_option maxRecDepth 65536 in
theorem w_t1 : (words1.take 24).all (fun c => isCode c || c.before args0 about1) = true := by decide +kernel
set_option maxRecDepth 65536 in
theorem w_t2 : (words1.drop 24).all (fun c => isCode c || c.before args0 about1) = true := by decide +kernel
theorem w_tables : (allAtoms (Jvm.Cond.code x code maxLocals ret :: tables_1)).before args0 about1 = true := by
  rw [allAtoms_all]
  show words1.all (fun c => c.before args0 about1) = true
  refine all_split ?_ w_codes
  rw [← List.take_append_drop 24 words1, List.all_append, w_t1, w_t2]
  rfl
set_option maxRecDepth 65536 in
theorem w_case : (Jvm.Cond.and given_1 narrow_1).before args0 about1 = true := by decide +kernel
theorem w_applies : (headSpec (Jvm.Cond.code x code maxLocals ret :: tables_1) room_1).applies x e0.platform about1 = true :=
  (Spec.applies_iff w_frames).mpr ⟨w_running, w_runnable, w_alone, w_named, w_hears, w_ripe, w_room, w_tables⟩
theorem atStart : AtStart classFile x code maxLocals ret World_1 tables_1 room_1 Calls_1 rest_1 Pre_1 launch0 p0 e0 about1 theMethod args0 below0 :=
  ⟨lists_1, trivial, launch0.admits_env _ _ _, launch0.least_env, fairChoices_fair.cas, fairChoices_fair.clock, w_frames, w_args, w_heap, w_applies, trivial, trivial, w_case⟩
end start1
theorem witness_1 : WitnessClaimed_1 := ⟨start1.p0, start1.e0, start1.about1, start1.theMethod, start1.args0, start1.below0, start1.atStart⟩
end Jvm.Pilot.@@N@@
