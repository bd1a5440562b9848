import JvmDerived
import JvmDerived.Pilot.@@N@@Statement
import JvmDerived.Pilot.@@N@@Code
set_option linter.unusedVariables false
set_option linter.unusedSimpArgs false

namespace Jvm.OwnKit
open Sem ClassFile Op Lib Jvm.Stand Jvm.Free Jvm.LawKit Jvm.RoadKit
section Kit
variable {p : Program} {l : Launch} {e : Env} {R : Room} {s : State} {m : MethodId} {args : Array Value} {below : List Frame} {meth : Method} {c : Code} {T : State} {locs : List Loc} {cells slots : Nat} {Z : State} {a0 : Array Value} {h : Heap} {own nm : String} {bytes : ByteArray} {maxL : Nat} {ret : Option FieldType} {P : Outcome → State → Prop} {pc pc' : Nat} {Ls Ls' : Array Slot} {rest : List Value}
/-- from here the run ends, and P holds of its end -/
def Go (p : Program) (e : Env) (below : List Frame) (P : Outcome → State → Prop) (T0 : State) : Prop := ∃ t o, Steps p.tables e below T0 t ∧ t.status = .running ∧ Ended t below o ∧ P o t
theorem Go.on {T1 T2 : State} (st : ∀ t, Steps p.tables e below T2 t → Steps p.tables e below T1 t) (k : Go p e below P T2) : Go p e below P T1 := by
  obtain ⟨t, o, h1, h2⟩ := k; exact ⟨t, o, st t h1, h2⟩
/-- what a walk knows of the method that it walks -/
def Ctx (p : Program) (s : State) (m : MethodId) (meth : Method) (c : Code) (Z : State) (own nm : String) (bytes : ByteArray) (maxL : Nat) (ret : Option FieldType) : Prop :=
  p.tables.exec = Jvm.exec ∧ c.code = bytes ∧ c.maxLocals = maxL ∧ s.vm.findClass own = some m.cls ∧ meth.name = nm ∧ meth.sig.returnType = ret ∧ meth.locks = false ∧ Z.Warmed39 s.vm
/-- what a body's end says -/
def Ends (s : State) (Q : Option Value → Heap → List Loc → Prop) (k n : Nat) (o : Outcome) (t : State) : Prop := ∃ v L, o = .returned v ∧ Q v t.heap L ∧ FrameEnd s o t L k n
/-- a contract: called with the arguments 'as' at the heap h0 it returns as Q says -/
abbrev OMeets (l : Launch) (Z : State) (y : MethodName) (bytes : ByteArray) (maxL : Nat) (ret : Option FieldType) (ws : List Jvm.Cond) (rm : Room) (as : Array Value) (h0 : Heap) (Q : Option Value → Heap → List Loc → Prop) : Prop :=
  MetFree l y (head1 (Jvm.Cond.code y bytes maxL ret :: ws) rm) (fun a U => a = as ∧ Z.Warmed39 U.vm ∧ U.heap = h0) (fun _ _ _ _ _ => True) (fun _ U o U' => ∃ v L, o = .returned v ∧ Q v U'.heap L ∧ FrameEnd U o U' L rm.cells rm.slots)
/-- it returns r, writes nothing and makes nothing -/
def PureQ (r : Option Value) (h0 : Heap) (v : Option Value) (h : Heap) (L : List Loc) : Prop := v = r ∧ L = [] ∧ h = h0
theorem OMeets.of {y : MethodName} {ws : List Jvm.Cond} {rm : Room} {as : Array Value} {h0 : Heap} {Q : Option Value → Heap → List Loc → Prop} (hpn : plainName y.cls = true) (ls : Array Slot) (hent : ∀ m, entryFrame m as maxL = mkF m 0 ls [])
    (body : ∀ p e s m below meth c s₁, Ctx p s m meth c Z y.cls y.name bytes maxL ret → Stand p l e rm s m as below meth c s₁ [] 0 0 → s₁.heap = h0 → Go p e below (Ends s Q rm.cells rm.slots) (s₁.setTop (mkF m 0 ls []))) : OMeets l Z y bytes maxL ret ws rm as h0 Q := by
  refine MetFree.of_bodySF (plainFor_of_name hpn) hisR ?_
  intro p e s m args below meth c s₁ Bd hml0 hP hK
  obtain ⟨rfl, hZ, hh⟩ := hP
  have e0 : s₁.heap = h0 := by rw [← hh, Bd.state]; rfl
  have X0 := Stand.of_body Bd
  have B : Ctx p s m meth c Z y.cls y.name bytes maxL ret := ⟨Bd.exec, Bd.bytes, hml0, findClass_of_methodNamed Bd.named, (name_of_methodNamed Bd.named Bd.method).1, Bd.returns, Bd.notSynchronized, hZ⟩
  obtain ⟨t, o, h1, h2, h3, h4⟩ := body p e s m below meth c s₁ B X0 e0
  exact ⟨t, o, castTop (hent m) h1, h2, h3, h4⟩
/-! the single steps -/

theorem s_iloadN (B : Ctx p s m meth c Z own nm bytes maxL ret) (X : Stand p l e R s m args below meth c T locs cells slots) {k0 : Fin 4} {v : Int32} (hd : decode bytes pc = .ok (.iload_n k0, 1)) (hl : Ls[k0.val]? = some (.val (.int v))) (hp : pc + 1 = pc') (k : Go p e below P (T.setTop (mkF m pc' Ls (.int v :: rest)))) : Go p e below P (T.setTop (mkF m pc Ls (rest))) := by
  subst hp; exact Go.on (fun t => XS.iloadN X.here B.1 rfl (hb B.2.1 hd) hl) k
theorem s_iload (B : Ctx p s m meth c Z own nm bytes maxL ret) (X : Stand p l e R s m args below meth c T locs cells slots) {k0 : Nat} {v : Int32} (hd : decode bytes pc = .ok (.iload k0, 2)) (hl : Ls[k0]? = some (.val (.int v))) (hp : pc + 2 = pc') (k : Go p e below P (T.setTop (mkF m pc' Ls (.int v :: rest)))) : Go p e below P (T.setTop (mkF m pc Ls (rest))) := by
  subst hp; exact Go.on (fun t => XS.iload X.here B.1 rfl (hb B.2.1 hd) hl) k
theorem s_istoreN (B : Ctx p s m meth c Z own nm bytes maxL ret) (X : Stand p l e R s m args below meth c T locs cells slots) {k0 : Fin 4} {v : Int32} (hd : decode bytes pc = .ok (.istore_n k0, 1)) (hl : storeLocals Ls k0.val (.int v) = some Ls') (hp : pc + 1 = pc') (k : Go p e below P (T.setTop (mkF m pc' Ls' (rest)))) : Go p e below P (T.setTop (mkF m pc Ls (.int v :: rest))) := by
  subst hp; exact Go.on (fun t => XS.istoreN X.here B.1 rfl (hb B.2.1 hd) rfl hl) k
theorem s_istore (B : Ctx p s m meth c Z own nm bytes maxL ret) (X : Stand p l e R s m args below meth c T locs cells slots) {k0 : Nat} {v : Int32} (hd : decode bytes pc = .ok (.istore k0, 2)) (hl : storeLocals Ls k0 (.int v) = some Ls') (hp : pc + 2 = pc') (k : Go p e below P (T.setTop (mkF m pc' Ls' (rest)))) : Go p e below P (T.setTop (mkF m pc Ls (.int v :: rest))) := by
  subst hp; exact Go.on (fun t => XS.istore X.here B.1 rfl (hb B.2.1 hd) rfl hl) k
theorem s_lloadN (B : Ctx p s m meth c Z own nm bytes maxL ret) (X : Stand p l e R s m args below meth c T locs cells slots) {k0 : Fin 4} {v : Int64} (hd : decode bytes pc = .ok (.lload_n k0, 1)) (hl : Ls[k0.val]? = some (.val (.long v))) (hp : pc + 1 = pc') (k : Go p e below P (T.setTop (mkF m pc' Ls (.long v :: rest)))) : Go p e below P (T.setTop (mkF m pc Ls (rest))) := by
  subst hp; exact Go.on (fun t => XS.lloadN X.here B.1 rfl (hb B.2.1 hd) hl) k
theorem s_lload (B : Ctx p s m meth c Z own nm bytes maxL ret) (X : Stand p l e R s m args below meth c T locs cells slots) {k0 : Nat} {v : Int64} (hd : decode bytes pc = .ok (.lload k0, 2)) (hl : Ls[k0]? = some (.val (.long v))) (hp : pc + 2 = pc') (k : Go p e below P (T.setTop (mkF m pc' Ls (.long v :: rest)))) : Go p e below P (T.setTop (mkF m pc Ls (rest))) := by
  subst hp; exact Go.on (fun t => XS.lload X.here B.1 rfl (hb B.2.1 hd) hl) k
theorem s_lstoreN (B : Ctx p s m meth c Z own nm bytes maxL ret) (X : Stand p l e R s m args below meth c T locs cells slots) {k0 : Fin 4} {v : Int64} (hd : decode bytes pc = .ok (.lstore_n k0, 1)) (hl : storeLocals Ls k0.val (.long v) = some Ls') (hp : pc + 1 = pc') (k : Go p e below P (T.setTop (mkF m pc' Ls' (rest)))) : Go p e below P (T.setTop (mkF m pc Ls (.long v :: rest))) := by
  subst hp; exact Go.on (fun t => XS.lstoreN X.here B.1 rfl (hb B.2.1 hd) rfl hl) k
theorem s_lstore (B : Ctx p s m meth c Z own nm bytes maxL ret) (X : Stand p l e R s m args below meth c T locs cells slots) {k0 : Nat} {v : Int64} (hd : decode bytes pc = .ok (.lstore k0, 2)) (hl : storeLocals Ls k0 (.long v) = some Ls') (hp : pc + 2 = pc') (k : Go p e below P (T.setTop (mkF m pc' Ls' (rest)))) : Go p e below P (T.setTop (mkF m pc Ls (.long v :: rest))) := by
  subst hp; exact Go.on (fun t => XS.lstore X.here B.1 rfl (hb B.2.1 hd) rfl hl) k
theorem s_aloadN (B : Ctx p s m meth c Z own nm bytes maxL ret) (X : Stand p l e R s m args below meth c T locs cells slots) {k0 : Fin 4} {v : Value} (hd : decode bytes pc = .ok (.aload_n k0, 1)) (hl : Ls[k0.val]? = some (.val v)) (hv : v.isRef = true) (hp : pc + 1 = pc') (k : Go p e below P (T.setTop (mkF m pc' Ls (v :: rest)))) : Go p e below P (T.setTop (mkF m pc Ls (rest))) := by
  subst hp; exact Go.on (fun t => XS.aloadN X.here B.1 rfl (hb B.2.1 hd) hl hv) k
theorem s_aload (B : Ctx p s m meth c Z own nm bytes maxL ret) (X : Stand p l e R s m args below meth c T locs cells slots) {k0 : Nat} {v : Value} (hd : decode bytes pc = .ok (.aload k0, 2)) (hl : Ls[k0]? = some (.val v)) (hv : v.isRef = true) (hp : pc + 2 = pc') (k : Go p e below P (T.setTop (mkF m pc' Ls (v :: rest)))) : Go p e below P (T.setTop (mkF m pc Ls (rest))) := by
  subst hp; exact Go.on (fun t => XS.aload X.here B.1 rfl (hb B.2.1 hd) hl hv) k
theorem s_astoreN (B : Ctx p s m meth c Z own nm bytes maxL ret) (X : Stand p l e R s m args below meth c T locs cells slots) {k0 : Fin 4} {v : Value} (hd : decode bytes pc = .ok (.astore_n k0, 1)) (hv : v.isRef = true) (hl : storeLocals Ls k0.val v = some Ls') (hp : pc + 1 = pc') (k : Go p e below P (T.setTop (mkF m pc' Ls' (rest)))) : Go p e below P (T.setTop (mkF m pc Ls (v :: rest))) := by
  subst hp; exact Go.on (fun t => XS.astoreN X.here B.1 rfl (hb B.2.1 hd) rfl hv hl) k
theorem s_astore (B : Ctx p s m meth c Z own nm bytes maxL ret) (X : Stand p l e R s m args below meth c T locs cells slots) {k0 : Nat} {v : Value} (hd : decode bytes pc = .ok (.astore k0, 2)) (hv : v.isRef = true) (hl : storeLocals Ls k0 v = some Ls') (hp : pc + 2 = pc') (k : Go p e below P (T.setTop (mkF m pc' Ls' (rest)))) : Go p e below P (T.setTop (mkF m pc Ls (v :: rest))) := by
  subst hp; exact Go.on (fun t => XS.astore X.here B.1 rfl (hb B.2.1 hd) rfl hv hl) k
theorem s_iconst (B : Ctx p s m meth c Z own nm bytes maxL ret) (X : Stand p l e R s m args below meth c T locs cells slots) {i : Int} {v : Int32} (hd : decode bytes pc = .ok (.iconst i, 1)) (hv : Int32.ofInt i = v) (hp : pc + 1 = pc') (k : Go p e below P (T.setTop (mkF m pc' Ls (.int v :: rest)))) : Go p e below P (T.setTop (mkF m pc Ls (rest))) := by
  subst hp; subst hv; exact Go.on (fun t => XS.iconst X.here B.1 rfl (hb B.2.1 hd)) k
theorem s_bipush (B : Ctx p s m meth c Z own nm bytes maxL ret) (X : Stand p l e R s m args below meth c T locs cells slots) {i : Int} {v : Int32} (hd : decode bytes pc = .ok (.bipush i, 2)) (hv : (Int8.ofInt i).toInt32 = v) (hp : pc + 2 = pc') (k : Go p e below P (T.setTop (mkF m pc' Ls (.int v :: rest)))) : Go p e below P (T.setTop (mkF m pc Ls (rest))) := by
  subst hp; subst hv; exact Go.on (fun t => XS.bipush X.here B.1 rfl (hb B.2.1 hd)) k
theorem s_sipush (B : Ctx p s m meth c Z own nm bytes maxL ret) (X : Stand p l e R s m args below meth c T locs cells slots) {i : Int} {v : Int32} (hd : decode bytes pc = .ok (.sipush i, 3)) (hv : (Int16.ofInt i).toInt32 = v) (hp : pc + 3 = pc') (k : Go p e below P (T.setTop (mkF m pc' Ls (.int v :: rest)))) : Go p e below P (T.setTop (mkF m pc Ls (rest))) := by
  subst hp; subst hv; exact Go.on (fun t => XS.sipush X.here B.1 rfl (hb B.2.1 hd)) k
theorem s_lconst (B : Ctx p s m meth c Z own nm bytes maxL ret) (X : Stand p l e R s m args below meth c T locs cells slots) {i : Fin 2} {v : Int64} (hd : decode bytes pc = .ok (.lconst i, 1)) (hv : Int64.ofNat i = v) (hp : pc + 1 = pc') (k : Go p e below P (T.setTop (mkF m pc' Ls (.long v :: rest)))) : Go p e below P (T.setTop (mkF m pc Ls (rest))) := by
  subst hp; subst hv; exact Go.on (fun t => XS.lconst X.here B.1 rfl (hb B.2.1 hd)) k
theorem s_aconst_null (B : Ctx p s m meth c Z own nm bytes maxL ret) (X : Stand p l e R s m args below meth c T locs cells slots)  (hd : decode bytes pc = .ok (.aconst_null, 1))  (hp : pc + 1 = pc') (k : Go p e below P (T.setTop (mkF m pc' Ls (.null :: rest)))) : Go p e below P (T.setTop (mkF m pc Ls (rest))) := by
  subst hp; exact Go.on (fun t => XS.aconstNull X.here B.1 rfl (hb B.2.1 hd)) k
theorem s_iadd (B : Ctx p s m meth c Z own nm bytes maxL ret) (X : Stand p l e R s m args below meth c T locs cells slots) {x : Int32} {y : Int32} {v : Int32} (hd : decode bytes pc = .ok (.iadd, 1)) (hv : x + y = v)  (hp : pc + 1 = pc') (k : Go p e below P (T.setTop (mkF m pc' Ls (.int v :: rest)))) : Go p e below P (T.setTop (mkF m pc Ls (.int y :: .int x :: rest))) := by
  subst hp; subst hv; exact Go.on (fun t => XS.iadd X.here B.1 rfl (hb B.2.1 hd) rfl ) k
theorem s_isub (B : Ctx p s m meth c Z own nm bytes maxL ret) (X : Stand p l e R s m args below meth c T locs cells slots) {x : Int32} {y : Int32} {v : Int32} (hd : decode bytes pc = .ok (.isub, 1)) (hv : x - y = v)  (hp : pc + 1 = pc') (k : Go p e below P (T.setTop (mkF m pc' Ls (.int v :: rest)))) : Go p e below P (T.setTop (mkF m pc Ls (.int y :: .int x :: rest))) := by
  subst hp; subst hv; exact Go.on (fun t => XS.isub X.here B.1 rfl (hb B.2.1 hd) rfl ) k
theorem s_imul (B : Ctx p s m meth c Z own nm bytes maxL ret) (X : Stand p l e R s m args below meth c T locs cells slots) {x : Int32} {y : Int32} {v : Int32} (hd : decode bytes pc = .ok (.imul, 1)) (hv : x * y = v)  (hp : pc + 1 = pc') (k : Go p e below P (T.setTop (mkF m pc' Ls (.int v :: rest)))) : Go p e below P (T.setTop (mkF m pc Ls (.int y :: .int x :: rest))) := by
  subst hp; subst hv; exact Go.on (fun t => XS.imul X.here B.1 rfl (hb B.2.1 hd) rfl ) k
theorem s_iand (B : Ctx p s m meth c Z own nm bytes maxL ret) (X : Stand p l e R s m args below meth c T locs cells slots) {x : Int32} {y : Int32} {v : Int32} (hd : decode bytes pc = .ok (.iand, 1)) (hv : x &&& y = v)  (hp : pc + 1 = pc') (k : Go p e below P (T.setTop (mkF m pc' Ls (.int v :: rest)))) : Go p e below P (T.setTop (mkF m pc Ls (.int y :: .int x :: rest))) := by
  subst hp; subst hv; exact Go.on (fun t => XS.iand X.here B.1 rfl (hb B.2.1 hd) rfl ) k
theorem s_ior (B : Ctx p s m meth c Z own nm bytes maxL ret) (X : Stand p l e R s m args below meth c T locs cells slots) {x : Int32} {y : Int32} {v : Int32} (hd : decode bytes pc = .ok (.ior, 1)) (hv : x ||| y = v)  (hp : pc + 1 = pc') (k : Go p e below P (T.setTop (mkF m pc' Ls (.int v :: rest)))) : Go p e below P (T.setTop (mkF m pc Ls (.int y :: .int x :: rest))) := by
  subst hp; subst hv; exact Go.on (fun t => XS.ior X.here B.1 rfl (hb B.2.1 hd) rfl ) k
theorem s_ixor (B : Ctx p s m meth c Z own nm bytes maxL ret) (X : Stand p l e R s m args below meth c T locs cells slots) {x : Int32} {y : Int32} {v : Int32} (hd : decode bytes pc = .ok (.ixor, 1)) (hv : x ^^^ y = v)  (hp : pc + 1 = pc') (k : Go p e below P (T.setTop (mkF m pc' Ls (.int v :: rest)))) : Go p e below P (T.setTop (mkF m pc Ls (.int y :: .int x :: rest))) := by
  subst hp; subst hv; exact Go.on (fun t => XS.ixor X.here B.1 rfl (hb B.2.1 hd) rfl ) k
theorem s_ladd (B : Ctx p s m meth c Z own nm bytes maxL ret) (X : Stand p l e R s m args below meth c T locs cells slots) {x : Int64} {y : Int64} {v : Int64} (hd : decode bytes pc = .ok (.ladd, 1)) (hv : x + y = v)  (hp : pc + 1 = pc') (k : Go p e below P (T.setTop (mkF m pc' Ls (.long v :: rest)))) : Go p e below P (T.setTop (mkF m pc Ls (.long y :: .long x :: rest))) := by
  subst hp; subst hv; exact Go.on (fun t => XS.ladd X.here B.1 rfl (hb B.2.1 hd) rfl ) k
theorem s_lsub (B : Ctx p s m meth c Z own nm bytes maxL ret) (X : Stand p l e R s m args below meth c T locs cells slots) {x : Int64} {y : Int64} {v : Int64} (hd : decode bytes pc = .ok (.lsub, 1)) (hv : x - y = v)  (hp : pc + 1 = pc') (k : Go p e below P (T.setTop (mkF m pc' Ls (.long v :: rest)))) : Go p e below P (T.setTop (mkF m pc Ls (.long y :: .long x :: rest))) := by
  subst hp; subst hv; exact Go.on (fun t => XS.lsub X.here B.1 rfl (hb B.2.1 hd) rfl ) k
theorem s_lmul (B : Ctx p s m meth c Z own nm bytes maxL ret) (X : Stand p l e R s m args below meth c T locs cells slots) {x : Int64} {y : Int64} {v : Int64} (hd : decode bytes pc = .ok (.lmul, 1)) (hv : x * y = v)  (hp : pc + 1 = pc') (k : Go p e below P (T.setTop (mkF m pc' Ls (.long v :: rest)))) : Go p e below P (T.setTop (mkF m pc Ls (.long y :: .long x :: rest))) := by
  subst hp; subst hv; exact Go.on (fun t => XS.lmul X.here B.1 rfl (hb B.2.1 hd) rfl ) k
theorem s_land (B : Ctx p s m meth c Z own nm bytes maxL ret) (X : Stand p l e R s m args below meth c T locs cells slots) {x : Int64} {y : Int64} {v : Int64} (hd : decode bytes pc = .ok (.land, 1)) (hv : x &&& y = v)  (hp : pc + 1 = pc') (k : Go p e below P (T.setTop (mkF m pc' Ls (.long v :: rest)))) : Go p e below P (T.setTop (mkF m pc Ls (.long y :: .long x :: rest))) := by
  subst hp; subst hv; exact Go.on (fun t => XS.land X.here B.1 rfl (hb B.2.1 hd) rfl ) k
theorem s_lor (B : Ctx p s m meth c Z own nm bytes maxL ret) (X : Stand p l e R s m args below meth c T locs cells slots) {x : Int64} {y : Int64} {v : Int64} (hd : decode bytes pc = .ok (.lor, 1)) (hv : x ||| y = v)  (hp : pc + 1 = pc') (k : Go p e below P (T.setTop (mkF m pc' Ls (.long v :: rest)))) : Go p e below P (T.setTop (mkF m pc Ls (.long y :: .long x :: rest))) := by
  subst hp; subst hv; exact Go.on (fun t => XS.lor X.here B.1 rfl (hb B.2.1 hd) rfl ) k
theorem s_lxor (B : Ctx p s m meth c Z own nm bytes maxL ret) (X : Stand p l e R s m args below meth c T locs cells slots) {x : Int64} {y : Int64} {v : Int64} (hd : decode bytes pc = .ok (.lxor, 1)) (hv : x ^^^ y = v)  (hp : pc + 1 = pc') (k : Go p e below P (T.setTop (mkF m pc' Ls (.long v :: rest)))) : Go p e below P (T.setTop (mkF m pc Ls (.long y :: .long x :: rest))) := by
  subst hp; subst hv; exact Go.on (fun t => XS.lxor X.here B.1 rfl (hb B.2.1 hd) rfl ) k
theorem s_idiv (B : Ctx p s m meth c Z own nm bytes maxL ret) (X : Stand p l e R s m args below meth c T locs cells slots) {x : Int32} {y : Int32} {v : Int32} (hd : decode bytes pc = .ok (.idiv, 1)) (hv : x / y = v) (hy : y ≠ 0) (hp : pc + 1 = pc') (k : Go p e below P (T.setTop (mkF m pc' Ls (.int v :: rest)))) : Go p e below P (T.setTop (mkF m pc Ls (.int y :: .int x :: rest))) := by
  subst hp; subst hv; exact Go.on (fun t => XS.idiv X.here B.1 rfl (hb B.2.1 hd) rfl hy) k
theorem s_ldiv (B : Ctx p s m meth c Z own nm bytes maxL ret) (X : Stand p l e R s m args below meth c T locs cells slots) {x : Int64} {y : Int64} {v : Int64} (hd : decode bytes pc = .ok (.ldiv, 1)) (hv : x / y = v) (hy : y ≠ 0) (hp : pc + 1 = pc') (k : Go p e below P (T.setTop (mkF m pc' Ls (.long v :: rest)))) : Go p e below P (T.setTop (mkF m pc Ls (.long y :: .long x :: rest))) := by
  subst hp; subst hv; exact Go.on (fun t => XS.ldiv X.here B.1 rfl (hb B.2.1 hd) rfl hy) k
theorem s_irem (B : Ctx p s m meth c Z own nm bytes maxL ret) (X : Stand p l e R s m args below meth c T locs cells slots) {x y v : Int32} (hd : decode bytes pc = .ok (.irem, 1)) (hv : x % y = v) (hy : y ≠ 0) (hp : pc + 1 = pc') (k : Go p e below P (T.setTop (mkF m pc' Ls (.int v :: rest)))) : Go p e below P (T.setTop (mkF m pc Ls (.int y :: .int x :: rest))) := by
  subst hp; subst hv; exact Go.on (fun t => iremM X B.1 rfl (hb B.2.1 hd) rfl hy) k
theorem s_ishl (B : Ctx p s m meth c Z own nm bytes maxL ret) (X : Stand p l e R s m args below meth c T locs cells slots) {x : Int32} {y : Int32} {v : Int32} (hd : decode bytes pc = .ok (.ishl, 1)) (hv : x <<< (y &&& 31) = v)  (hp : pc + 1 = pc') (k : Go p e below P (T.setTop (mkF m pc' Ls (.int v :: rest)))) : Go p e below P (T.setTop (mkF m pc Ls (.int y :: .int x :: rest))) := by
  subst hp; subst hv; exact Go.on (fun t => XS.ishl X.here B.1 rfl (hb B.2.1 hd) rfl ) k
theorem s_ishr (B : Ctx p s m meth c Z own nm bytes maxL ret) (X : Stand p l e R s m args below meth c T locs cells slots) {x : Int32} {y : Int32} {v : Int32} (hd : decode bytes pc = .ok (.ishr, 1)) (hv : x >>> (y &&& 31) = v)  (hp : pc + 1 = pc') (k : Go p e below P (T.setTop (mkF m pc' Ls (.int v :: rest)))) : Go p e below P (T.setTop (mkF m pc Ls (.int y :: .int x :: rest))) := by
  subst hp; subst hv; exact Go.on (fun t => XS.ishr X.here B.1 rfl (hb B.2.1 hd) rfl ) k
theorem s_iushr (B : Ctx p s m meth c Z own nm bytes maxL ret) (X : Stand p l e R s m args below meth c T locs cells slots) {x : Int32} {y : Int32} {v : Int32} (hd : decode bytes pc = .ok (.iushr, 1)) (hv : (x.toUInt32 >>> (y &&& 31).toUInt32).toInt32 = v)  (hp : pc + 1 = pc') (k : Go p e below P (T.setTop (mkF m pc' Ls (.int v :: rest)))) : Go p e below P (T.setTop (mkF m pc Ls (.int y :: .int x :: rest))) := by
  subst hp; subst hv; exact Go.on (fun t => XS.iushr X.here B.1 rfl (hb B.2.1 hd) rfl ) k
theorem s_lshl (B : Ctx p s m meth c Z own nm bytes maxL ret) (X : Stand p l e R s m args below meth c T locs cells slots) {x : Int64} {y : Int32} {v : Int64} (hd : decode bytes pc = .ok (.lshl, 1)) (hv : x <<< (y &&& 0x3f).toInt64 = v)  (hp : pc + 1 = pc') (k : Go p e below P (T.setTop (mkF m pc' Ls (.long v :: rest)))) : Go p e below P (T.setTop (mkF m pc Ls (.int y :: .long x :: rest))) := by
  subst hp; subst hv; exact Go.on (fun t => XS.lshl X.here B.1 rfl (hb B.2.1 hd) rfl ) k
theorem s_lshr (B : Ctx p s m meth c Z own nm bytes maxL ret) (X : Stand p l e R s m args below meth c T locs cells slots) {x : Int64} {y : Int32} {v : Int64} (hd : decode bytes pc = .ok (.lshr, 1)) (hv : x >>> (y &&& 0x3f).toInt64 = v)  (hp : pc + 1 = pc') (k : Go p e below P (T.setTop (mkF m pc' Ls (.long v :: rest)))) : Go p e below P (T.setTop (mkF m pc Ls (.int y :: .long x :: rest))) := by
  subst hp; subst hv; exact Go.on (fun t => XS.lshr X.here B.1 rfl (hb B.2.1 hd) rfl ) k
theorem s_lushr (B : Ctx p s m meth c Z own nm bytes maxL ret) (X : Stand p l e R s m args below meth c T locs cells slots) {x : Int64} {y : Int32} {v : Int64} (hd : decode bytes pc = .ok (.lushr, 1)) (hv : (x.toUInt64 >>> (y &&& 0x3f).toInt64.toUInt64).toInt64 = v)  (hp : pc + 1 = pc') (k : Go p e below P (T.setTop (mkF m pc' Ls (.long v :: rest)))) : Go p e below P (T.setTop (mkF m pc Ls (.int y :: .long x :: rest))) := by
  subst hp; subst hv; exact Go.on (fun t => XS.lushr X.here B.1 rfl (hb B.2.1 hd) rfl ) k
theorem s_i2b (B : Ctx p s m meth c Z own nm bytes maxL ret) (X : Stand p l e R s m args below meth c T locs cells slots) {x : Int32} {v : Int32} (hd : decode bytes pc = .ok (.i2b, 1)) (hv : x.toInt8.toInt32 = v) (hp : pc + 1 = pc') (k : Go p e below P (T.setTop (mkF m pc' Ls (.int v :: rest)))) : Go p e below P (T.setTop (mkF m pc Ls (.int x :: rest))) := by
  subst hp; subst hv; exact Go.on (fun t => XS.i2b X.here B.1 rfl (hb B.2.1 hd) rfl) k
theorem s_i2c (B : Ctx p s m meth c Z own nm bytes maxL ret) (X : Stand p l e R s m args below meth c T locs cells slots) {x : Int32} {v : Int32} (hd : decode bytes pc = .ok (.i2c, 1)) (hv : x.toUInt32.toUInt16.toUInt32.toInt32 = v) (hp : pc + 1 = pc') (k : Go p e below P (T.setTop (mkF m pc' Ls (.int v :: rest)))) : Go p e below P (T.setTop (mkF m pc Ls (.int x :: rest))) := by
  subst hp; subst hv; exact Go.on (fun t => XS.i2c X.here B.1 rfl (hb B.2.1 hd) rfl) k
theorem s_i2s (B : Ctx p s m meth c Z own nm bytes maxL ret) (X : Stand p l e R s m args below meth c T locs cells slots) {x : Int32} {v : Int32} (hd : decode bytes pc = .ok (.i2s, 1)) (hv : x.toInt16.toInt32 = v) (hp : pc + 1 = pc') (k : Go p e below P (T.setTop (mkF m pc' Ls (.int v :: rest)))) : Go p e below P (T.setTop (mkF m pc Ls (.int x :: rest))) := by
  subst hp; subst hv; exact Go.on (fun t => XS.i2s X.here B.1 rfl (hb B.2.1 hd) rfl) k
theorem s_i2l (B : Ctx p s m meth c Z own nm bytes maxL ret) (X : Stand p l e R s m args below meth c T locs cells slots) {x : Int32} {v : Int64} (hd : decode bytes pc = .ok (.i2l, 1)) (hv : x.toInt64 = v) (hp : pc + 1 = pc') (k : Go p e below P (T.setTop (mkF m pc' Ls (.long v :: rest)))) : Go p e below P (T.setTop (mkF m pc Ls (.int x :: rest))) := by
  subst hp; subst hv; exact Go.on (fun t => XS.i2l X.here B.1 rfl (hb B.2.1 hd) rfl) k
theorem s_l2i (B : Ctx p s m meth c Z own nm bytes maxL ret) (X : Stand p l e R s m args below meth c T locs cells slots) {x : Int64} {v : Int32} (hd : decode bytes pc = .ok (.l2i, 1)) (hv : x.toInt32 = v) (hp : pc + 1 = pc') (k : Go p e below P (T.setTop (mkF m pc' Ls (.int v :: rest)))) : Go p e below P (T.setTop (mkF m pc Ls (.long x :: rest))) := by
  subst hp; subst hv; exact Go.on (fun t => XS.l2i X.here B.1 rfl (hb B.2.1 hd) rfl) k
theorem s_ineg (B : Ctx p s m meth c Z own nm bytes maxL ret) (X : Stand p l e R s m args below meth c T locs cells slots) {x : Int32} {v : Int32} (hd : decode bytes pc = .ok (.ineg, 1)) (hv : -x = v) (hp : pc + 1 = pc') (k : Go p e below P (T.setTop (mkF m pc' Ls (.int v :: rest)))) : Go p e below P (T.setTop (mkF m pc Ls (.int x :: rest))) := by
  subst hp; subst hv; exact Go.on (fun t => XS.ineg X.here B.1 rfl (hb B.2.1 hd) rfl) k
theorem s_lneg (B : Ctx p s m meth c Z own nm bytes maxL ret) (X : Stand p l e R s m args below meth c T locs cells slots) {x : Int64} {v : Int64} (hd : decode bytes pc = .ok (.lneg, 1)) (hv : -x = v) (hp : pc + 1 = pc') (k : Go p e below P (T.setTop (mkF m pc' Ls (.long v :: rest)))) : Go p e below P (T.setTop (mkF m pc Ls (.long x :: rest))) := by
  subst hp; subst hv; exact Go.on (fun t => XS.lneg X.here B.1 rfl (hb B.2.1 hd) rfl) k
theorem s_lcmp (B : Ctx p s m meth c Z own nm bytes maxL ret) (X : Stand p l e R s m args below meth c T locs cells slots) {x y : Int64} (hd : decode bytes pc = .ok (.lcmp, 1))  (hp : pc + 1 = pc') (k : Go p e below P (T.setTop (mkF m pc' Ls (.int (lcmpW x y) :: rest)))) : Go p e below P (T.setTop (mkF m pc Ls (.long y :: .long x :: rest))) := by
  subst hp; exact Go.on (fun t => XS.lcmp X.here B.1 rfl (hb B.2.1 hd) rfl) k
theorem s_dup (B : Ctx p s m meth c Z own nm bytes maxL ret) (X : Stand p l e R s m args below meth c T locs cells slots) {v : Value} (hd : decode bytes pc = .ok (.dup, 1)) (hc : v.category = 1) (hp : pc + 1 = pc') (k : Go p e below P (T.setTop (mkF m pc' Ls (v :: v :: rest)))) : Go p e below P (T.setTop (mkF m pc Ls (v :: rest))) := by
  subst hp; exact Go.on (fun t => XS.dup X.here B.1 rfl (hb B.2.1 hd) rfl hc) k
theorem s_pop (B : Ctx p s m meth c Z own nm bytes maxL ret) (X : Stand p l e R s m args below meth c T locs cells slots) {v : Value} (hd : decode bytes pc = .ok (.pop, 1)) (hc : v.category = 1) (hp : pc + 1 = pc') (k : Go p e below P (T.setTop (mkF m pc' Ls (rest)))) : Go p e below P (T.setTop (mkF m pc Ls (v :: rest))) := by
  subst hp; exact Go.on (fun t => XS.pop X.here B.1 rfl (hb B.2.1 hd) rfl hc) k
theorem s_swap (B : Ctx p s m meth c Z own nm bytes maxL ret) (X : Stand p l e R s m args below meth c T locs cells slots) {v w : Value} (hd : decode bytes pc = .ok (.swap, 1)) (hc : v.category = 1) (hc2 : w.category = 1) (hp : pc + 1 = pc') (k : Go p e below P (T.setTop (mkF m pc' Ls (w :: v :: rest)))) : Go p e below P (T.setTop (mkF m pc Ls (v :: w :: rest))) := by
  subst hp; exact Go.on (fun t => XS.swap X.here B.1 rfl (hb B.2.1 hd) rfl hc hc2) k
theorem s_dup_x1 (B : Ctx p s m meth c Z own nm bytes maxL ret) (X : Stand p l e R s m args below meth c T locs cells slots) {v w : Value} (hd : decode bytes pc = .ok (.dup_x1, 1)) (hc : v.category = 1) (hc2 : w.category = 1) (hp : pc + 1 = pc') (k : Go p e below P (T.setTop (mkF m pc' Ls (v :: w :: v :: rest)))) : Go p e below P (T.setTop (mkF m pc Ls (v :: w :: rest))) := by
  subst hp; exact Go.on (fun t => XS.dupX1 X.here B.1 rfl (hb B.2.1 hd) rfl hc hc2) k
theorem s_dup2 (B : Ctx p s m meth c Z own nm bytes maxL ret) (X : Stand p l e R s m args below meth c T locs cells slots) {v w : Value} (hd : decode bytes pc = .ok (.dup2, 1)) (hc : v.category = 1) (hc2 : w.category = 1) (hp : pc + 1 = pc') (k : Go p e below P (T.setTop (mkF m pc' Ls (v :: w :: v :: w :: rest)))) : Go p e below P (T.setTop (mkF m pc Ls (v :: w :: rest))) := by
  subst hp; exact Go.on (fun t => XT.dup2 X.here B.1 rfl (hb B.2.1 hd) rfl hc hc2) k
theorem s_iinc (B : Ctx p s m meth c Z own nm bytes maxL ret) (X : Stand p l e R s m args below meth c T locs cells slots) {k0 : Nat} {i : Int} {x v : Int32} (hd : decode bytes pc = .ok (.iinc k0 i, 3)) (hl : Ls[k0]? = some (.val (.int x))) (hv : x + Int32.ofInt i = v) (hl' : storeLocals Ls k0 (.int v) = some Ls') (hp : pc + 3 = pc') (k : Go p e below P (T.setTop (mkF m pc' Ls' (rest)))) : Go p e below P (T.setTop (mkF m pc Ls (rest))) := by
  subst hp; subst hv; exact Go.on (fun t => XS.iinc X.here B.1 rfl (hb B.2.1 hd) hl hl') k
theorem s_goto (B : Ctx p s m meth c Z own nm bytes maxL ret) (X : Stand p l e R s m args below meth c T locs cells slots)  {o : Int} (hd : decode bytes pc = .ok (.goto o, 3))  (ho : 0 ≤ (pc : Int) + o) (hp : ((pc : Int) + o).toNat = pc') (k : Go p e below P (T.setTop (mkF m pc' Ls (rest)))) : Go p e below P (T.setTop (mkF m pc Ls (rest))) := Go.on (fun t => XS.goto X.here B.1 rfl rfl (hb B.2.1 hd) ho hp) k
theorem s_ifY (B : Ctx p s m meth c Z own nm bytes maxL ret) (X : Stand p l e R s m args below meth c T locs cells slots) {cd : ClassFile.Cond} {x : Int32} {o : Int} (hd : decode bytes pc = .ok (.ifCond cd o, 3)) (hc : ifCond.holds cd x = true) (ho : 0 ≤ (pc : Int) + o) (hp : ((pc : Int) + o).toNat = pc') (k : Go p e below P (T.setTop (mkF m pc' Ls (rest)))) : Go p e below P (T.setTop (mkF m pc Ls (.int x :: rest))) := Go.on (fun t => XS.ifYes X.here B.1 rfl rfl (hb B.2.1 hd) rfl hc ho hp) k
theorem s_ifN (B : Ctx p s m meth c Z own nm bytes maxL ret) (X : Stand p l e R s m args below meth c T locs cells slots) {cd : ClassFile.Cond} {x : Int32} {o : Int} (hd : decode bytes pc = .ok (.ifCond cd o, 3)) (hc : ifCond.holds cd x = false) (hp : pc + 3 = pc') (k : Go p e below P (T.setTop (mkF m pc' Ls (rest)))) : Go p e below P (T.setTop (mkF m pc Ls (.int x :: rest))) := by
  subst hp; exact Go.on (fun t => XS.ifNo X.here B.1 rfl (hb B.2.1 hd) rfl hc) k
theorem s_icmpY (B : Ctx p s m meth c Z own nm bytes maxL ret) (X : Stand p l e R s m args below meth c T locs cells slots) {cd : ClassFile.Cond} {x y : Int32} {o : Int} (hd : decode bytes pc = .ok (.if_icmp cd o, 3)) (hc : if_icmp.holds cd x y = true) (ho : 0 ≤ (pc : Int) + o) (hp : ((pc : Int) + o).toNat = pc') (k : Go p e below P (T.setTop (mkF m pc' Ls (rest)))) : Go p e below P (T.setTop (mkF m pc Ls (.int y :: .int x :: rest))) := Go.on (fun t => XS.icmpYes X.here B.1 rfl rfl (hb B.2.1 hd) rfl hc ho hp) k
theorem s_icmpN (B : Ctx p s m meth c Z own nm bytes maxL ret) (X : Stand p l e R s m args below meth c T locs cells slots) {cd : ClassFile.Cond} {x y : Int32} {o : Int} (hd : decode bytes pc = .ok (.if_icmp cd o, 3)) (hc : if_icmp.holds cd x y = false) (hp : pc + 3 = pc') (k : Go p e below P (T.setTop (mkF m pc' Ls (rest)))) : Go p e below P (T.setTop (mkF m pc Ls (.int y :: .int x :: rest))) := by
  subst hp; exact Go.on (fun t => XS.icmpNo X.here B.1 rfl (hb B.2.1 hd) rfl hc) k
theorem s_ifnullY (B : Ctx p s m meth c Z own nm bytes maxL ret) (X : Stand p l e R s m args below meth c T locs cells slots)  {o : Int} (hd : decode bytes pc = .ok (.ifnull o, 3))  (ho : 0 ≤ (pc : Int) + o) (hp : ((pc : Int) + o).toNat = pc') (k : Go p e below P (T.setTop (mkF m pc' Ls (rest)))) : Go p e below P (T.setTop (mkF m pc Ls (.null :: rest))) := Go.on (fun t => XS.ifnullYes X.here B.1 rfl rfl (hb B.2.1 hd) rfl ho hp) k
theorem s_ifnullN (B : Ctx p s m meth c Z own nm bytes maxL ret) (X : Stand p l e R s m args below meth c T locs cells slots) {b : Addr} {o : Int} (hd : decode bytes pc = .ok (.ifnull o, 3))  (hp : pc + 3 = pc') (k : Go p e below P (T.setTop (mkF m pc' Ls (rest)))) : Go p e below P (T.setTop (mkF m pc Ls (.ref b :: rest))) := by
  subst hp; exact Go.on (fun t => XS.ifnullNo X.here B.1 rfl (hb B.2.1 hd) rfl) k
theorem s_ifnonnullY (B : Ctx p s m meth c Z own nm bytes maxL ret) (X : Stand p l e R s m args below meth c T locs cells slots) {b : Addr} {o : Int} (hd : decode bytes pc = .ok (.ifnonnull o, 3))  (ho : 0 ≤ (pc : Int) + o) (hp : ((pc : Int) + o).toNat = pc') (k : Go p e below P (T.setTop (mkF m pc' Ls (rest)))) : Go p e below P (T.setTop (mkF m pc Ls (.ref b :: rest))) := Go.on (fun t => XS.ifnonnullYes X.here B.1 rfl rfl (hb B.2.1 hd) rfl ho hp) k
theorem s_ifnonnullN (B : Ctx p s m meth c Z own nm bytes maxL ret) (X : Stand p l e R s m args below meth c T locs cells slots)  {o : Int} (hd : decode bytes pc = .ok (.ifnonnull o, 3))  (hp : pc + 3 = pc') (k : Go p e below P (T.setTop (mkF m pc' Ls (rest)))) : Go p e below P (T.setTop (mkF m pc Ls (.null :: rest))) := by
  subst hp; exact Go.on (fun t => XS.ifnonnullNo X.here B.1 rfl (hb B.2.1 hd) rfl) k
theorem b_icmp_eq (B : Ctx p s m meth c Z own nm bytes maxL ret) (X : Stand p l e R s m args below meth c T locs cells slots) {x y : Int32} {o : Int} {py pn : Nat} (hd : decode bytes pc = .ok (.if_icmp .eq o, 3)) (ho : 0 ≤ (pc : Int) + o) (hy : ((pc : Int) + o).toNat = py) (hn : pc + 3 = pn) (k1 : x = y → Go p e below P (T.setTop (mkF m py Ls (rest)))) (k2 : ¬ x = y → Go p e below P (T.setTop (mkF m pn Ls (rest)))) : Go p e below P (T.setTop (mkF m pc Ls (.int y :: .int x :: rest))) := by
  by_cases q : x = y
  · exact s_icmpY B X hd (teq q).1 ho hy (k1 q)
  · exact s_icmpN B X hd (feq q).1 hn (k2 q)
theorem b_if_eq (B : Ctx p s m meth c Z own nm bytes maxL ret) (X : Stand p l e R s m args below meth c T locs cells slots) {x : Int32} {o : Int} {py pn : Nat} (hd : decode bytes pc = .ok (.ifCond .eq o, 3)) (ho : 0 ≤ (pc : Int) + o) (hy : ((pc : Int) + o).toNat = py) (hn : pc + 3 = pn) (k1 : x = 0 → Go p e below P (T.setTop (mkF m py Ls (rest)))) (k2 : ¬ x = 0 → Go p e below P (T.setTop (mkF m pn Ls (rest)))) : Go p e below P (T.setTop (mkF m pc Ls (.int x :: rest))) := by
  by_cases q : x = 0
  · exact s_ifY B X hd ((if0 _ _).trans (teq q).1) ho hy (k1 q)
  · exact s_ifN B X hd ((if0 _ _).trans (feq q).1) hn (k2 q)
theorem b_icmp_ne (B : Ctx p s m meth c Z own nm bytes maxL ret) (X : Stand p l e R s m args below meth c T locs cells slots) {x y : Int32} {o : Int} {py pn : Nat} (hd : decode bytes pc = .ok (.if_icmp .ne o, 3)) (ho : 0 ≤ (pc : Int) + o) (hy : ((pc : Int) + o).toNat = py) (hn : pc + 3 = pn) (k1 : ¬ x = y → Go p e below P (T.setTop (mkF m py Ls (rest)))) (k2 : x = y → Go p e below P (T.setTop (mkF m pn Ls (rest)))) : Go p e below P (T.setTop (mkF m pc Ls (.int y :: .int x :: rest))) := by
  by_cases q : x = y
  · exact s_icmpN B X hd (teq q).2 hn (k2 q)
  · exact s_icmpY B X hd (feq q).2 ho hy (k1 q)
theorem b_if_ne (B : Ctx p s m meth c Z own nm bytes maxL ret) (X : Stand p l e R s m args below meth c T locs cells slots) {x : Int32} {o : Int} {py pn : Nat} (hd : decode bytes pc = .ok (.ifCond .ne o, 3)) (ho : 0 ≤ (pc : Int) + o) (hy : ((pc : Int) + o).toNat = py) (hn : pc + 3 = pn) (k1 : ¬ x = 0 → Go p e below P (T.setTop (mkF m py Ls (rest)))) (k2 : x = 0 → Go p e below P (T.setTop (mkF m pn Ls (rest)))) : Go p e below P (T.setTop (mkF m pc Ls (.int x :: rest))) := by
  by_cases q : x = 0
  · exact s_ifN B X hd ((if0 _ _).trans (teq q).2) hn (k2 q)
  · exact s_ifY B X hd ((if0 _ _).trans (feq q).2) ho hy (k1 q)
theorem b_icmp_lt (B : Ctx p s m meth c Z own nm bytes maxL ret) (X : Stand p l e R s m args below meth c T locs cells slots) {x y : Int32} {o : Int} {py pn : Nat} (hd : decode bytes pc = .ok (.if_icmp .lt o, 3)) (ho : 0 ≤ (pc : Int) + o) (hy : ((pc : Int) + o).toNat = py) (hn : pc + 3 = pn) (k1 : x < y → Go p e below P (T.setTop (mkF m py Ls (rest)))) (k2 : ¬ x < y → Go p e below P (T.setTop (mkF m pn Ls (rest)))) : Go p e below P (T.setTop (mkF m pc Ls (.int y :: .int x :: rest))) := by
  by_cases q : x < y
  · exact s_icmpY B X hd (tlt q).1 ho hy (k1 q)
  · exact s_icmpN B X hd (flt q).1 hn (k2 q)
theorem b_if_lt (B : Ctx p s m meth c Z own nm bytes maxL ret) (X : Stand p l e R s m args below meth c T locs cells slots) {x : Int32} {o : Int} {py pn : Nat} (hd : decode bytes pc = .ok (.ifCond .lt o, 3)) (ho : 0 ≤ (pc : Int) + o) (hy : ((pc : Int) + o).toNat = py) (hn : pc + 3 = pn) (k1 : x < 0 → Go p e below P (T.setTop (mkF m py Ls (rest)))) (k2 : ¬ x < 0 → Go p e below P (T.setTop (mkF m pn Ls (rest)))) : Go p e below P (T.setTop (mkF m pc Ls (.int x :: rest))) := by
  by_cases q : x < 0
  · exact s_ifY B X hd ((if0 _ _).trans (tlt q).1) ho hy (k1 q)
  · exact s_ifN B X hd ((if0 _ _).trans (flt q).1) hn (k2 q)
theorem b_icmp_ge (B : Ctx p s m meth c Z own nm bytes maxL ret) (X : Stand p l e R s m args below meth c T locs cells slots) {x y : Int32} {o : Int} {py pn : Nat} (hd : decode bytes pc = .ok (.if_icmp .ge o, 3)) (ho : 0 ≤ (pc : Int) + o) (hy : ((pc : Int) + o).toNat = py) (hn : pc + 3 = pn) (k1 : ¬ x < y → Go p e below P (T.setTop (mkF m py Ls (rest)))) (k2 : x < y → Go p e below P (T.setTop (mkF m pn Ls (rest)))) : Go p e below P (T.setTop (mkF m pc Ls (.int y :: .int x :: rest))) := by
  by_cases q : x < y
  · exact s_icmpN B X hd (tlt q).2.1 hn (k2 q)
  · exact s_icmpY B X hd (flt q).2.1 ho hy (k1 q)
theorem b_if_ge (B : Ctx p s m meth c Z own nm bytes maxL ret) (X : Stand p l e R s m args below meth c T locs cells slots) {x : Int32} {o : Int} {py pn : Nat} (hd : decode bytes pc = .ok (.ifCond .ge o, 3)) (ho : 0 ≤ (pc : Int) + o) (hy : ((pc : Int) + o).toNat = py) (hn : pc + 3 = pn) (k1 : ¬ x < 0 → Go p e below P (T.setTop (mkF m py Ls (rest)))) (k2 : x < 0 → Go p e below P (T.setTop (mkF m pn Ls (rest)))) : Go p e below P (T.setTop (mkF m pc Ls (.int x :: rest))) := by
  by_cases q : x < 0
  · exact s_ifN B X hd ((if0 _ _).trans (tlt q).2.1) hn (k2 q)
  · exact s_ifY B X hd ((if0 _ _).trans (flt q).2.1) ho hy (k1 q)
theorem b_icmp_gt (B : Ctx p s m meth c Z own nm bytes maxL ret) (X : Stand p l e R s m args below meth c T locs cells slots) {x y : Int32} {o : Int} {py pn : Nat} (hd : decode bytes pc = .ok (.if_icmp .gt o, 3)) (ho : 0 ≤ (pc : Int) + o) (hy : ((pc : Int) + o).toNat = py) (hn : pc + 3 = pn) (k1 : y < x → Go p e below P (T.setTop (mkF m py Ls (rest)))) (k2 : ¬ y < x → Go p e below P (T.setTop (mkF m pn Ls (rest)))) : Go p e below P (T.setTop (mkF m pc Ls (.int y :: .int x :: rest))) := by
  by_cases q : y < x
  · exact s_icmpY B X hd (tlt q).2.2.1 ho hy (k1 q)
  · exact s_icmpN B X hd (flt q).2.2.1 hn (k2 q)
theorem b_if_gt (B : Ctx p s m meth c Z own nm bytes maxL ret) (X : Stand p l e R s m args below meth c T locs cells slots) {x : Int32} {o : Int} {py pn : Nat} (hd : decode bytes pc = .ok (.ifCond .gt o, 3)) (ho : 0 ≤ (pc : Int) + o) (hy : ((pc : Int) + o).toNat = py) (hn : pc + 3 = pn) (k1 : 0 < x → Go p e below P (T.setTop (mkF m py Ls (rest)))) (k2 : ¬ 0 < x → Go p e below P (T.setTop (mkF m pn Ls (rest)))) : Go p e below P (T.setTop (mkF m pc Ls (.int x :: rest))) := by
  by_cases q : 0 < x
  · exact s_ifY B X hd ((if0 _ _).trans (tlt q).2.2.1) ho hy (k1 q)
  · exact s_ifN B X hd ((if0 _ _).trans (flt q).2.2.1) hn (k2 q)
theorem b_icmp_le (B : Ctx p s m meth c Z own nm bytes maxL ret) (X : Stand p l e R s m args below meth c T locs cells slots) {x y : Int32} {o : Int} {py pn : Nat} (hd : decode bytes pc = .ok (.if_icmp .le o, 3)) (ho : 0 ≤ (pc : Int) + o) (hy : ((pc : Int) + o).toNat = py) (hn : pc + 3 = pn) (k1 : ¬ y < x → Go p e below P (T.setTop (mkF m py Ls (rest)))) (k2 : y < x → Go p e below P (T.setTop (mkF m pn Ls (rest)))) : Go p e below P (T.setTop (mkF m pc Ls (.int y :: .int x :: rest))) := by
  by_cases q : y < x
  · exact s_icmpN B X hd (tlt q).2.2.2 hn (k2 q)
  · exact s_icmpY B X hd (flt q).2.2.2 ho hy (k1 q)
theorem b_if_le (B : Ctx p s m meth c Z own nm bytes maxL ret) (X : Stand p l e R s m args below meth c T locs cells slots) {x : Int32} {o : Int} {py pn : Nat} (hd : decode bytes pc = .ok (.ifCond .le o, 3)) (ho : 0 ≤ (pc : Int) + o) (hy : ((pc : Int) + o).toNat = py) (hn : pc + 3 = pn) (k1 : ¬ 0 < x → Go p e below P (T.setTop (mkF m py Ls (rest)))) (k2 : 0 < x → Go p e below P (T.setTop (mkF m pn Ls (rest)))) : Go p e below P (T.setTop (mkF m pc Ls (.int x :: rest))) := by
  by_cases q : 0 < x
  · exact s_ifN B X hd ((if0 _ _).trans (tlt q).2.2.2) hn (k2 q)
  · exact s_ifY B X hd ((if0 _ _).trans (flt q).2.2.2) ho hy (k1 q)
theorem b_lcmp_eq (B : Ctx p s m meth c Z own nm bytes maxL ret) (X : Stand p l e R s m args below meth c T locs cells slots) {x y : Int64} {pc0 : Nat} {o : Int} {py pn : Nat} (hd0 : decode bytes pc0 = .ok (.lcmp, 1)) (hp0 : pc0 + 1 = pc) (hd : decode bytes pc = .ok (.ifCond .eq o, 3)) (ho : 0 ≤ (pc : Int) + o) (hy : ((pc : Int) + o).toNat = py) (hn : pc + 3 = pn) (k1 : x = y → Go p e below P (T.setTop (mkF m py Ls (rest)))) (k2 : ¬ x = y → Go p e below P (T.setTop (mkF m pn Ls (rest)))) : Go p e below P (T.setTop (mkF m pc0 Ls (.long y :: .long x :: rest))) := by
  by_cases q : x = y
  · exact s_lcmp B X hd0 hp0 (s_ifY B X hd ((if0 _ _).trans (teq ((lw_eq x y).mpr q)).1) ho hy (k1 q))
  · exact s_lcmp B X hd0 hp0 (s_ifN B X hd ((if0 _ _).trans (feq (fun z => q ((lw_eq x y).mp z))).1) hn (k2 q))
theorem b_lcmp_ne (B : Ctx p s m meth c Z own nm bytes maxL ret) (X : Stand p l e R s m args below meth c T locs cells slots) {x y : Int64} {pc0 : Nat} {o : Int} {py pn : Nat} (hd0 : decode bytes pc0 = .ok (.lcmp, 1)) (hp0 : pc0 + 1 = pc) (hd : decode bytes pc = .ok (.ifCond .ne o, 3)) (ho : 0 ≤ (pc : Int) + o) (hy : ((pc : Int) + o).toNat = py) (hn : pc + 3 = pn) (k1 : ¬ x = y → Go p e below P (T.setTop (mkF m py Ls (rest)))) (k2 : x = y → Go p e below P (T.setTop (mkF m pn Ls (rest)))) : Go p e below P (T.setTop (mkF m pc0 Ls (.long y :: .long x :: rest))) := by
  by_cases q : x = y
  · exact s_lcmp B X hd0 hp0 (s_ifN B X hd ((if0 _ _).trans (teq ((lw_eq x y).mpr q)).2) hn (k2 q))
  · exact s_lcmp B X hd0 hp0 (s_ifY B X hd ((if0 _ _).trans (feq (fun z => q ((lw_eq x y).mp z))).2) ho hy (k1 q))
theorem b_lcmp_lt (B : Ctx p s m meth c Z own nm bytes maxL ret) (X : Stand p l e R s m args below meth c T locs cells slots) {x y : Int64} {pc0 : Nat} {o : Int} {py pn : Nat} (hd0 : decode bytes pc0 = .ok (.lcmp, 1)) (hp0 : pc0 + 1 = pc) (hd : decode bytes pc = .ok (.ifCond .lt o, 3)) (ho : 0 ≤ (pc : Int) + o) (hy : ((pc : Int) + o).toNat = py) (hn : pc + 3 = pn) (k1 : x < y → Go p e below P (T.setTop (mkF m py Ls (rest)))) (k2 : ¬ x < y → Go p e below P (T.setTop (mkF m pn Ls (rest)))) : Go p e below P (T.setTop (mkF m pc0 Ls (.long y :: .long x :: rest))) := by
  by_cases q : x < y
  · exact s_lcmp B X hd0 hp0 (s_ifY B X hd ((if0 _ _).trans (tlt ((lw_lt x y).mpr q)).1) ho hy (k1 q))
  · exact s_lcmp B X hd0 hp0 (s_ifN B X hd ((if0 _ _).trans (flt (fun z => q ((lw_lt x y).mp z))).1) hn (k2 q))
theorem b_lcmp_ge (B : Ctx p s m meth c Z own nm bytes maxL ret) (X : Stand p l e R s m args below meth c T locs cells slots) {x y : Int64} {pc0 : Nat} {o : Int} {py pn : Nat} (hd0 : decode bytes pc0 = .ok (.lcmp, 1)) (hp0 : pc0 + 1 = pc) (hd : decode bytes pc = .ok (.ifCond .ge o, 3)) (ho : 0 ≤ (pc : Int) + o) (hy : ((pc : Int) + o).toNat = py) (hn : pc + 3 = pn) (k1 : ¬ x < y → Go p e below P (T.setTop (mkF m py Ls (rest)))) (k2 : x < y → Go p e below P (T.setTop (mkF m pn Ls (rest)))) : Go p e below P (T.setTop (mkF m pc0 Ls (.long y :: .long x :: rest))) := by
  by_cases q : x < y
  · exact s_lcmp B X hd0 hp0 (s_ifN B X hd ((if0 _ _).trans (tlt ((lw_lt x y).mpr q)).2.1) hn (k2 q))
  · exact s_lcmp B X hd0 hp0 (s_ifY B X hd ((if0 _ _).trans (flt (fun z => q ((lw_lt x y).mp z))).2.1) ho hy (k1 q))
theorem b_lcmp_gt (B : Ctx p s m meth c Z own nm bytes maxL ret) (X : Stand p l e R s m args below meth c T locs cells slots) {x y : Int64} {pc0 : Nat} {o : Int} {py pn : Nat} (hd0 : decode bytes pc0 = .ok (.lcmp, 1)) (hp0 : pc0 + 1 = pc) (hd : decode bytes pc = .ok (.ifCond .gt o, 3)) (ho : 0 ≤ (pc : Int) + o) (hy : ((pc : Int) + o).toNat = py) (hn : pc + 3 = pn) (k1 : y < x → Go p e below P (T.setTop (mkF m py Ls (rest)))) (k2 : ¬ y < x → Go p e below P (T.setTop (mkF m pn Ls (rest)))) : Go p e below P (T.setTop (mkF m pc0 Ls (.long y :: .long x :: rest))) := by
  by_cases q : y < x
  · exact s_lcmp B X hd0 hp0 (s_ifY B X hd ((if0 _ _).trans (tlt ((lw_gt x y).mpr q)).2.2.1) ho hy (k1 q))
  · exact s_lcmp B X hd0 hp0 (s_ifN B X hd ((if0 _ _).trans (flt (fun z => q ((lw_gt x y).mp z))).2.2.1) hn (k2 q))
theorem b_lcmp_le (B : Ctx p s m meth c Z own nm bytes maxL ret) (X : Stand p l e R s m args below meth c T locs cells slots) {x y : Int64} {pc0 : Nat} {o : Int} {py pn : Nat} (hd0 : decode bytes pc0 = .ok (.lcmp, 1)) (hp0 : pc0 + 1 = pc) (hd : decode bytes pc = .ok (.ifCond .le o, 3)) (ho : 0 ≤ (pc : Int) + o) (hy : ((pc : Int) + o).toNat = py) (hn : pc + 3 = pn) (k1 : ¬ y < x → Go p e below P (T.setTop (mkF m py Ls (rest)))) (k2 : y < x → Go p e below P (T.setTop (mkF m pn Ls (rest)))) : Go p e below P (T.setTop (mkF m pc0 Ls (.long y :: .long x :: rest))) := by
  by_cases q : y < x
  · exact s_lcmp B X hd0 hp0 (s_ifN B X hd ((if0 _ _).trans (tlt ((lw_gt x y).mpr q)).2.2.2) hn (k2 q))
  · exact s_lcmp B X hd0 hp0 (s_ifY B X hd ((if0 _ _).trans (flt (fun z => q ((lw_gt x y).mp z))).2.2.2) ho hy (k1 q))
theorem b_acmp_eq (B : Ctx p s m meth c Z own nm bytes maxL ret) (X : Stand p l e R s m args below meth c T locs cells slots) {a b : Addr} {o : Int} {py pn : Nat} (hd : decode bytes pc = .ok (.if_acmp .eq o, 3)) (ho : 0 ≤ (pc : Int) + o) (hy : ((pc : Int) + o).toNat = py) (hn : pc + 3 = pn) (k1 : a = b → Go p e below P (T.setTop (mkF m py Ls (rest)))) (k2 : ¬ a = b → Go p e below P (T.setTop (mkF m pn Ls (rest)))) : Go p e below P (T.setTop (mkF m pc Ls (.ref b :: .ref a :: rest))) := by
  by_cases q : a = b
  · exact Go.on (fun t => Jvm.RoadKit.acmp X B.1 rfl rfl rfl (same := true) rfl (hb B.2.1 hd) rfl (decide_eq_true (congrArg Value.ref q)) ho (by simp [acV, hy])) (k1 q)
  · exact Go.on (fun t => Jvm.RoadKit.acmp X B.1 rfl rfl rfl (same := false) rfl (hb B.2.1 hd) rfl (decide_eq_false fun z => q (Value.ref.inj z)) ho (by simp [acV, hn])) (k2 q)
theorem b_acmp_ne (B : Ctx p s m meth c Z own nm bytes maxL ret) (X : Stand p l e R s m args below meth c T locs cells slots) {a b : Addr} {o : Int} {py pn : Nat} (hd : decode bytes pc = .ok (.if_acmp .ne o, 3)) (ho : 0 ≤ (pc : Int) + o) (hy : ((pc : Int) + o).toNat = py) (hn : pc + 3 = pn) (k1 : ¬ a = b → Go p e below P (T.setTop (mkF m py Ls (rest)))) (k2 : a = b → Go p e below P (T.setTop (mkF m pn Ls (rest)))) : Go p e below P (T.setTop (mkF m pc Ls (.ref b :: .ref a :: rest))) := by
  by_cases q : a = b
  · exact Go.on (fun t => Jvm.RoadKit.acmp X B.1 rfl rfl rfl (same := true) rfl (hb B.2.1 hd) rfl (decide_eq_true (congrArg Value.ref q)) ho (by simp [acV, hn])) (k2 q)
  · exact Go.on (fun t => Jvm.RoadKit.acmp X B.1 rfl rfl rfl (same := false) rfl (hb B.2.1 hd) rfl (decide_eq_false fun z => q (Value.ref.inj z)) ho (by simp [acV, hy])) (k1 q)
theorem b_ifnull (B : Ctx p s m meth c Z own nm bytes maxL ret) (X : Stand p l e R s m args below meth c T locs cells slots) {v : Value} {o : Int} {py pn : Nat} (hv : v.isRef = true) (hd : decode bytes pc = .ok (.ifnull o, 3)) (ho : 0 ≤ (pc : Int) + o) (hy : ((pc : Int) + o).toNat = py) (hn : pc + 3 = pn) (k1 : v = .null → Go p e below P (T.setTop (mkF m py Ls (rest)))) (k2 : ¬ v = .null → Go p e below P (T.setTop (mkF m pn Ls (rest)))) : Go p e below P (T.setTop (mkF m pc Ls (v :: rest))) := by
  rcases ref_cases hv with rfl | ⟨a, rfl⟩
  · exact s_ifnullY B X hd ho hy (k1 rfl)
  · exact s_ifnullN B X hd hn (k2 nofun)
theorem b_ifnonnull (B : Ctx p s m meth c Z own nm bytes maxL ret) (X : Stand p l e R s m args below meth c T locs cells slots) {v : Value} {o : Int} {py pn : Nat} (hv : v.isRef = true) (hd : decode bytes pc = .ok (.ifnonnull o, 3)) (ho : 0 ≤ (pc : Int) + o) (hy : ((pc : Int) + o).toNat = py) (hn : pc + 3 = pn) (k1 : ¬ v = .null → Go p e below P (T.setTop (mkF m py Ls (rest)))) (k2 : v = .null → Go p e below P (T.setTop (mkF m pn Ls (rest)))) : Go p e below P (T.setTop (mkF m pc Ls (v :: rest))) := by
  rcases ref_cases hv with rfl | ⟨a, rfl⟩
  · exact s_ifnonnullN B X hd hn (k2 rfl)
  · exact s_ifnonnullY B X hd ho hy (k1 nofun)
theorem s_ldc (B : Ctx p s m meth c Z own nm bytes maxL ret) (X : Stand p l e R s m args below meth c T locs cells slots) {i : Nat} {v : Int32} (w : (Jvm.Cond.constant own i v).before a0 Z = true) (hd : decode bytes pc = .ok (.ldc i, 2)) (hp : pc + 2 = pc') (k : Go p e below P (T.setTop (mkF m pc' Ls (.int v :: rest)))) : Go p e below P (T.setTop (mkF m pc Ls (rest))) := by
  subst hp; exact Go.on (fun t => X.ldcI B.1 B.2.2.2.1 (mv B.2.2.2.2.2.2.2 w) rfl (hb B.2.1 hd)) k
theorem s_ldc2 (B : Ctx p s m meth c Z own nm bytes maxL ret) (X : Stand p l e R s m args below meth c T locs cells slots) {i : Nat} {v : Int64} (w : (Jvm.Cond.constantLong own i v).before a0 Z = true) (hd : decode bytes pc = .ok (.ldc2_w i, 3)) (hp : pc + 3 = pc') (k : Go p e below P (T.setTop (mkF m pc' Ls (.long v :: rest)))) : Go p e below P (T.setTop (mkF m pc Ls (rest))) := by
  subst hp; exact Go.on (fun t => X.ldc2J B.1 B.2.2.2.1 (mv B.2.2.2.2.2.2.2 w) rfl (hb B.2.1 hd)) k
theorem s_getS (B : Ctx p s m meth c Z own nm bytes maxL ret) (X : Stand p l e R s m args below meth c T locs cells slots) {i : Nat} {R0 O n d : String} {v : Value} (eT : T.heap = h) (w : (Jvm.Cond.fieldLink own i R0 n d).before a0 Z = true) (via : Via Z R0 O n d) (F : Sta Z h O n d v) (hd : decode bytes pc = .ok (.getstatic i, 3)) (hp : pc + 3 = pc') (k : ∀ T', Stand p l e R s m args below meth c T' locs cells slots → T'.heap = h → Go p e below P (T'.setTop (mkF m pc' Ls (v :: rest)))) : Go p e below P (T.setTop (mkF m pc Ls (rest))) := by
  subst hp
  obtain ⟨T', X', e', st⟩ := getS X B.1 B.2.2.2.2.2.2.2 (host := "") B.2.2.2.1 w via eT F (g := mkF m pc Ls rest) rfl (hb B.2.1 hd)
  exact Go.on st (k T' X' e')
theorem s_getF (B : Ctx p s m meth c Z own nm bytes maxL ret) (X : Stand p l e R s m args below meth c T locs cells slots) {i : Nat} {R0 O n d host : String} {a : Addr} {v : Value} (eT : T.heap = h) (w : (Jvm.Cond.fieldLink own i R0 n d).before a0 Z = true ∨ (Jvm.Cond.fieldLinkNest own i R0 n d host).before a0 Z = true) (via : Via Z R0 O n d) (F : Fld Z h a O n d v) (hd : decode bytes pc = .ok (.getfield i, 3)) (hp : pc + 3 = pc') (k : ∀ T', Stand p l e R s m args below meth c T' locs cells slots → T'.heap = h → Go p e below P (T'.setTop (mkF m pc' Ls (v :: rest)))) : Go p e below P (T.setTop (mkF m pc Ls (.ref a :: rest))) := by
  subst hp
  obtain ⟨T', X', e', st⟩ := getF X B.1 B.2.2.2.2.2.2.2 B.2.2.2.1 w via eT F (g := mkF m pc Ls (.ref a :: rest)) rfl rfl (hb B.2.1 hd)
  exact Go.on st (k T' X' e')
theorem r_nar (B : Ctx p s m meth c Z own nm bytes maxL ret) (X : Stand p l e R s m args below meth c T locs cells slots) {Q : Option Value → Heap → List Loc → Prop} {kc kn : Nat} {z : Int32} {t : FieldType} (ht : t = .boolean ∨ t = .byte ∨ t = .char ∨ t = .short) (hr : ret = some t) (hd : decode bytes pc = .ok (.ireturn, 1)) (hq : Q (some (.int (nar t z))) T.heap locs) (hc : cells ≤ kc) (hs : slots ≤ kn) : Go p e below (Ends s Q kc kn) (T.setTop (mkF m pc Ls (.int z :: rest))) := by
  obtain ⟨fs, hl, hrun, hended, hW, hsame⟩ := X.leave (v := (some (.int (nar t z)))) (fun h => by rw [B.2.2.2.2.2.1, hr] at h; first | rfl | cases h) B.2.2.2.2.2.2.1
  exact ⟨_, _, retN X B.1 (by rw [B.2.2.2.2.2.1, hr]) ht (hb B.2.1 hd) hl, hrun, hended, _, _, rfl, hq, ⟨_, rfl⟩, hW, hsame.mono hc hs⟩
theorem r_int (B : Ctx p s m meth c Z own nm bytes maxL ret) (X : Stand p l e R s m args below meth c T locs cells slots) {Q : Option Value → Heap → List Loc → Prop} {kc kn : Nat} {z : Int32} (hr : ret = some .int) (hd : decode bytes pc = .ok (.ireturn, 1)) (hq : Q (some (.int z)) T.heap locs) (hc : cells ≤ kc) (hs : slots ≤ kn) : Go p e below (Ends s Q kc kn) (T.setTop (mkF m pc Ls (.int z :: rest))) := by
  obtain ⟨fs, hl, hrun, hended, hW, hsame⟩ := X.leave (v := (some (.int z))) (fun h => by rw [B.2.2.2.2.2.1, hr] at h; first | rfl | cases h) B.2.2.2.2.2.2.1
  exact ⟨_, _, retOut X B.1 (t := .int) (by rw [B.2.2.2.2.2.1, hr]) rfl (Or.inl ⟨rfl, Or.inl rfl, _, rfl⟩) (hb B.2.1 hd) hl, hrun, hended, _, _, rfl, hq, ⟨_, rfl⟩, hW, hsame.mono hc hs⟩
theorem r_long (B : Ctx p s m meth c Z own nm bytes maxL ret) (X : Stand p l e R s m args below meth c T locs cells slots) {Q : Option Value → Heap → List Loc → Prop} {kc kn : Nat} {z : Int64} (hr : ret = some .long) (hd : decode bytes pc = .ok (.lreturn, 1)) (hq : Q (some (.long z)) T.heap locs) (hc : cells ≤ kc) (hs : slots ≤ kn) : Go p e below (Ends s Q kc kn) (T.setTop (mkF m pc Ls (.long z :: rest))) := by
  obtain ⟨fs, hl, hrun, hended, hW, hsame⟩ := X.leave (v := (some (.long z))) (fun h => by rw [B.2.2.2.2.2.1, hr] at h; first | rfl | cases h) B.2.2.2.2.2.2.1
  exact ⟨_, _, retOut X B.1 (t := .long) (by rw [B.2.2.2.2.2.1, hr]) rfl (Or.inr (Or.inl ⟨rfl, rfl, _, rfl⟩)) (hb B.2.1 hd) hl, hrun, hended, _, _, rfl, hq, ⟨_, rfl⟩, hW, hsame.mono hc hs⟩
theorem r_ref (B : Ctx p s m meth c Z own nm bytes maxL ret) (X : Stand p l e R s m args below meth c T locs cells slots) {Q : Option Value → Heap → List Loc → Prop} {kc kn : Nat} {v : Value} {t : FieldType} (ht : t.isReference = true) (hn : narrow t v = v) (hv : v.isRef = true) (hr : ret = some t) (hd : decode bytes pc = .ok (.areturn, 1)) (hq : Q (some v) T.heap locs) (hc : cells ≤ kc) (hs : slots ≤ kn) : Go p e below (Ends s Q kc kn) (T.setTop (mkF m pc Ls (v :: rest))) := by
  obtain ⟨fs, hl, hrun, hended, hW, hsame⟩ := X.leave (v := (some v)) (fun h => by rw [B.2.2.2.2.2.1, hr] at h; first | rfl | cases h) B.2.2.2.2.2.2.1
  exact ⟨_, _, retOut X B.1 (t := t) (by rw [B.2.2.2.2.2.1, hr]) hn (Or.inr (Or.inr (Or.inr (Or.inr ⟨rfl, ht, hv⟩)))) (hb B.2.1 hd) hl, hrun, hended, _, _, rfl, hq, ⟨_, rfl⟩, hW, hsame.mono hc hs⟩
theorem r_void (B : Ctx p s m meth c Z own nm bytes maxL ret) (X : Stand p l e R s m args below meth c T locs cells slots) {Q : Option Value → Heap → List Loc → Prop} {kc kn : Nat} (hr : ret = none) (hd : decode bytes pc = .ok (.return_, 1)) (hq : Q none T.heap locs) (hc : cells ≤ kc) (hs : slots ≤ kn) : Go p e below (Ends s Q kc kn) (T.setTop (mkF m pc Ls [])) := by
  obtain ⟨fs, hl, hrun, hended, hW, hsame⟩ := X.leave (v := none) (fun _ => rfl) B.2.2.2.2.2.2.1
  exact ⟨_, _, X.returnOut B.1 (by rw [B.2.2.2.2.2.1, hr]) (hb B.2.1 hd) hl, hrun, hended, _, _, rfl, hq, ⟨_, rfl⟩, hW, hsame.mono hc hs⟩
theorem c_virtual (B : Ctx p s m meth c Z own nm bytes maxL ret) (X : Stand p l e R s m args below meth c T locs cells slots) {y : MethodName} {bs : ByteArray} {mx : Nat} {rt : Option FieldType} {rm : Room} {i W : Nat} {argsL under : List Value} {Q : Option Value → Heap → List Loc → Prop} {st : List Value} {C : String} {b : Addr} (eT : T.heap = h) (w1 : (Jvm.Cond.methodLink own i y).before a0 Z = true) (w2 : (Jvm.Cond.declares y).before a0 Z = true) (w3 : (Jvm.Cond.selects C y y).before a0 Z = true) (w4 : (Jvm.Cond.instanceMethod y).before a0 Z = true) (wc : (Jvm.Cond.code y bs mx rt).before a0 Z = true) (wz : (Jvm.Cond.initialized y.cls).before a0 Z = true) (hy : y.cls ≠ "java/lang/invoke/MethodHandle" ∧ y.cls ≠ "java/lang/invoke/VarHandle") (hM : OMeets l Z y bs mx rt [] rm (.ref b :: argsL).toArray h Q) (E : Exa Z h b C) (hlen : ∀ sig, parseMethodDescriptor y.desc = some sig → argsL.length = sig.parameters.length) (hst : st = argsL.reverse ++ .ref b :: under) (hW : (under.map fun v => v.category).sum = W) (hf : rm.frames + 1 ≤ R.frames) (hlo : W + (mx + 11) + rm.locals ≤ R.locals) (hce : cells + rm.cells ≤ R.cells) (hsl : slots + rm.slots ≤ R.slots) (hsz : Ls.size = maxL) (hd : decode bytes pc = .ok (.invokevirtual i, 3)) (hp : pc + 3 = pc') (k : ∀ v T' L, Stand p l e R s m args below meth c T' (locs ++ L) (cells + rm.cells) (slots + rm.slots) → Q v T'.heap L → Go p e below P (T'.setTop (mkF m pc' Ls (v.toList ++ under)))) : Go p e below P (T.setTop (mkF m pc Ls st)) := by
  subst hp hst
  obtain ⟨cq, kq, qa, qb, qc⟩ := isOf B.2.2.2.2.2.2.2 eT E
  obtain ⟨v, _, ⟨T', L', k', n'⟩, -, X', ⟨Lc, hQ, l', y', z'⟩, st'⟩ := X.virtualBack B.1 (y := y) B.2.2.2.1 (mvT B.2.2.2.2.2.2.2 w1) (mvT B.2.2.2.2.2.2.2 w2) (notFace_of_selects (args := #[]) (mvT B.2.2.2.2.2.2.2 w3)) (mvT B.2.2.2.2.2.2.2 w3) (mvT B.2.2.2.2.2.2.2 w4) hy (z := y) (backOf (W := W) hM B.2.2.2.2.2.2.2 wc wz hf hlo) qa qc (g := mkF m pc Ls (argsL.reverse ++ .ref b :: under)) rfl (by rw [B.2.2.1]; exact hsz) (Steps.refl _) (argsL := argsL) (rest := under) hlen rfl (by show 2 * 0 + _ ≤ _; rw [Nat.mul_zero, Nat.zero_add]; exact Nat.le_of_eq hW) (hb B.2.1 hd) (fun _ _ => ⟨rfl, eT, hce, hsl⟩)
  dsimp only [Pt.U, Pt.locs, Pt.cells, Pt.slots] at X' l' y' z' st' hQ
  subst l' y' z'
  exact Go.on (fun t q => st'.trans q) (k v T' Lc X' hQ)
theorem c_static (B : Ctx p s m meth c Z own nm bytes maxL ret) (X : Stand p l e R s m args below meth c T locs cells slots) {y : MethodName} {bs : ByteArray} {mx : Nat} {rt : Option FieldType} {rm : Room} {i W : Nat} {argsL under : List Value} {Q : Option Value → Heap → List Loc → Prop} {st : List Value} (eT : T.heap = h) (w1 : (Jvm.Cond.methodLink own i y).before a0 Z = true) (w2 : (Jvm.Cond.static y).before a0 Z = true) (wc : (Jvm.Cond.code y bs mx rt).before a0 Z = true) (wz : (Jvm.Cond.initialized y.cls).before a0 Z = true) (hy : y.cls ≠ "java/lang/invoke/MethodHandle" ∧ y.cls ≠ "java/lang/invoke/VarHandle") (hM : OMeets l Z y bs mx rt [] rm argsL.toArray h Q) (hlen : ∀ sig, parseMethodDescriptor y.desc = some sig → argsL.length = sig.parameters.length) (hst : st = argsL.reverse ++ under) (hW : (under.map fun v => v.category).sum = W) (hf : rm.frames + 1 ≤ R.frames) (hlo : W + (mx + 11) + rm.locals ≤ R.locals) (hce : cells + rm.cells ≤ R.cells) (hsl : slots + rm.slots ≤ R.slots) (hsz : Ls.size = maxL) (hd : decode bytes pc = .ok (.invokestatic i, 3)) (hp : pc + 3 = pc') (k : ∀ v T' L, Stand p l e R s m args below meth c T' (locs ++ L) (cells + rm.cells) (slots + rm.slots) → Q v T'.heap L → Go p e below P (T'.setTop (mkF m pc' Ls (v.toList ++ under)))) : Go p e below P (T.setTop (mkF m pc Ls st)) := by
  subst hp hst
  obtain ⟨v, _, ⟨T', L', k', n'⟩, -, X', ⟨Lc, hQ, l', y', z'⟩, st'⟩ := Jvm.LawKit.callS X B.1 (y := y) B.2.2.2.1 (mvT B.2.2.2.2.2.2.2 w1) (mvT B.2.2.2.2.2.2.2 w2) (mvT B.2.2.2.2.2.2.2 wz) (mvT B.2.2.2.2.2.2.2 wc) hy (backOf (W := W) hM B.2.2.2.2.2.2.2 wc wz hf hlo) (g := mkF m pc Ls (argsL.reverse ++ under)) rfl (by rw [B.2.2.1]; exact hsz) (argsL := argsL) (rest := under) hlen rfl (by show 2 * 0 + _ ≤ _; rw [Nat.mul_zero, Nat.zero_add]; exact Nat.le_of_eq hW) (hb B.2.1 hd) (fun _ _ => ⟨rfl, eT, hce, hsl⟩)
  dsimp only [Pt.U, Pt.locs, Pt.cells, Pt.slots] at X' l' y' z' st' hQ
  subst l' y' z'
  exact Go.on st' (k v T' Lc X' hQ)
theorem c_init (B : Ctx p s m meth c Z own nm bytes maxL ret) (X : Stand p l e R s m args below meth c T locs cells slots) {y : MethodName} {bs : ByteArray} {mx : Nat} {rm : Room} {i W : Nat} {argsL under : List Value} {Q : Option Value → Heap → List Loc → Prop} {st : List Value} {b : Addr} (eT : T.heap = h) (hy1 : y.name = "<init>") (w1 : (Jvm.Cond.methodLink own i y).before a0 Z = true) (w2 : (Jvm.Cond.instanceMethod y).before a0 Z = true) (wc : (Jvm.Cond.code y bs mx none).before a0 Z = true) (wz : (Jvm.Cond.initialized y.cls).before a0 Z = true) (hy : y.cls ≠ "java/lang/invoke/MethodHandle" ∧ y.cls ≠ "java/lang/invoke/VarHandle") (hM : OMeets l Z y bs mx none [] rm (.ref b :: argsL).toArray h Q) (hlen : ∀ sig, parseMethodDescriptor y.desc = some sig → argsL.length = sig.parameters.length) (hst : st = argsL.reverse ++ .ref b :: under) (hW : (under.map fun v => v.category).sum = W) (hf : rm.frames + 1 ≤ R.frames) (hlo : W + (mx + 11) + rm.locals ≤ R.locals) (hce : cells + rm.cells ≤ R.cells) (hsl : slots + rm.slots ≤ R.slots) (hsz : Ls.size = maxL) (hd : decode bytes pc = .ok (.invokespecial i, 3)) (hp : pc + 3 = pc') (k : ∀ v T' L, Stand p l e R s m args below meth c T' (locs ++ L) (cells + rm.cells) (slots + rm.slots) → Q v T'.heap L → Go p e below P (T'.setTop (mkF m pc' Ls (v.toList ++ under)))) : Go p e below P (T.setTop (mkF m pc Ls st)) := by
  subst hp hst
  obtain ⟨v, _, ⟨T', L', k', n'⟩, -, X', ⟨Lc, hQ, l', y', z'⟩, st'⟩ := X.specialBack B.1 (y := y) hy1 B.2.2.2.1 (mvT B.2.2.2.2.2.2.2 w1) (mvT B.2.2.2.2.2.2.2 w2) (mvT B.2.2.2.2.2.2.2 wc) hy (backOf (W := W) hM B.2.2.2.2.2.2.2 wc wz hf hlo) (g := mkF m pc Ls (argsL.reverse ++ .ref b :: under)) rfl (by rw [B.2.2.1]; exact hsz) (Steps.refl _) (a := b) (argsL := argsL) (rest := under) hlen rfl (by show 2 * 0 + _ ≤ _; rw [Nat.mul_zero, Nat.zero_add]; exact Nat.le_of_eq hW) (hb B.2.1 hd) (fun _ _ => ⟨rfl, eT, hce, hsl⟩)
  dsimp only [Pt.U, Pt.locs, Pt.cells, Pt.slots] at X' l' y' z' st' hQ
  subst l' y' z'
  exact Go.on (fun t q => st'.trans q) (k v T' Lc X' hQ)
theorem p_virtual (B : Ctx p s m meth c Z own nm bytes maxL ret) (X : Stand p l e R s m args below meth c T locs cells slots) {y : MethodName} {bs : ByteArray} {mx : Nat} {rt : Option FieldType} {rm : Room} {i W : Nat} {argsL under : List Value} {st : List Value} {C : String} {b : Addr} {r : Option Value} (eT : T.heap = h) (w1 : (Jvm.Cond.methodLink own i y).before a0 Z = true) (w2 : (Jvm.Cond.declares y).before a0 Z = true) (w3 : (Jvm.Cond.selects C y y).before a0 Z = true) (w4 : (Jvm.Cond.instanceMethod y).before a0 Z = true) (wc : (Jvm.Cond.code y bs mx rt).before a0 Z = true) (wz : (Jvm.Cond.initialized y.cls).before a0 Z = true) (hy : y.cls ≠ "java/lang/invoke/MethodHandle" ∧ y.cls ≠ "java/lang/invoke/VarHandle") (hM : OMeets l Z y bs mx rt [] rm (.ref b :: argsL).toArray h (PureQ r h)) (E : Exa Z h b C) (hlen : ∀ sig, parseMethodDescriptor y.desc = some sig → argsL.length = sig.parameters.length) (hst : st = argsL.reverse ++ .ref b :: under) (hW : (under.map fun v => v.category).sum = W) (hf : rm.frames + 1 ≤ R.frames) (hlo : W + (mx + 11) + rm.locals ≤ R.locals) (hce : rm.cells = 0) (hsl : rm.slots = 0) (hc0 : cells ≤ R.cells) (hs0 : slots ≤ R.slots) (hsz : Ls.size = maxL) (hd : decode bytes pc = .ok (.invokevirtual i, 3)) (hp : pc + 3 = pc') (k : ∀ T', Stand p l e R s m args below meth c T' locs cells slots → T'.heap = h → Go p e below P (T'.setTop (mkF m pc' Ls (r.toList ++ under)))) : Go p e below P (T.setTop (mkF m pc Ls st)) := by
  refine c_virtual B X eT w1 w2 w3 w4 wc wz hy hM E hlen hst hW hf hlo (by omega) (by omega) hsz hd hp ?_
  intro v T' L X' hQ
  obtain ⟨rfl, rfl, e'⟩ := hQ
  rw [hce, hsl, List.append_nil] at X'
  exact k T' X' e'
theorem p_static (B : Ctx p s m meth c Z own nm bytes maxL ret) (X : Stand p l e R s m args below meth c T locs cells slots) {y : MethodName} {bs : ByteArray} {mx : Nat} {rt : Option FieldType} {rm : Room} {i W : Nat} {argsL under : List Value} {st : List Value}  {r : Option Value} (eT : T.heap = h) (w1 : (Jvm.Cond.methodLink own i y).before a0 Z = true) (w2 : (Jvm.Cond.static y).before a0 Z = true) (wc : (Jvm.Cond.code y bs mx rt).before a0 Z = true) (wz : (Jvm.Cond.initialized y.cls).before a0 Z = true) (hy : y.cls ≠ "java/lang/invoke/MethodHandle" ∧ y.cls ≠ "java/lang/invoke/VarHandle") (hM : OMeets l Z y bs mx rt [] rm argsL.toArray h (PureQ r h))  (hlen : ∀ sig, parseMethodDescriptor y.desc = some sig → argsL.length = sig.parameters.length) (hst : st = argsL.reverse ++ under) (hW : (under.map fun v => v.category).sum = W) (hf : rm.frames + 1 ≤ R.frames) (hlo : W + (mx + 11) + rm.locals ≤ R.locals) (hce : rm.cells = 0) (hsl : rm.slots = 0) (hc0 : cells ≤ R.cells) (hs0 : slots ≤ R.slots) (hsz : Ls.size = maxL) (hd : decode bytes pc = .ok (.invokestatic i, 3)) (hp : pc + 3 = pc') (k : ∀ T', Stand p l e R s m args below meth c T' locs cells slots → T'.heap = h → Go p e below P (T'.setTop (mkF m pc' Ls (r.toList ++ under)))) : Go p e below P (T.setTop (mkF m pc Ls st)) := by
  refine c_static B X eT w1 w2 wc wz hy hM hlen hst hW hf hlo (by omega) (by omega) hsz hd hp ?_
  intro v T' L X' hQ
  obtain ⟨rfl, rfl, e'⟩ := hQ
  rw [hce, hsl, List.append_nil] at X'
  exact k T' X' e'
theorem p_init (B : Ctx p s m meth c Z own nm bytes maxL ret) (X : Stand p l e R s m args below meth c T locs cells slots) {y : MethodName} {bs : ByteArray} {mx : Nat} {rm : Room} {i W : Nat} {argsL under : List Value} {st : List Value} {b : Addr} (eT : T.heap = h) (hy1 : y.name = "<init>") (w1 : (Jvm.Cond.methodLink own i y).before a0 Z = true) (w2 : (Jvm.Cond.instanceMethod y).before a0 Z = true) (wc : (Jvm.Cond.code y bs mx none).before a0 Z = true) (wz : (Jvm.Cond.initialized y.cls).before a0 Z = true) (hy : y.cls ≠ "java/lang/invoke/MethodHandle" ∧ y.cls ≠ "java/lang/invoke/VarHandle") (hM : OMeets l Z y bs mx none [] rm (.ref b :: argsL).toArray h (PureQ none h)) (hlen : ∀ sig, parseMethodDescriptor y.desc = some sig → argsL.length = sig.parameters.length) (hst : st = argsL.reverse ++ .ref b :: under) (hW : (under.map fun v => v.category).sum = W) (hf : rm.frames + 1 ≤ R.frames) (hlo : W + (mx + 11) + rm.locals ≤ R.locals) (hce : rm.cells = 0) (hsl : rm.slots = 0) (hc0 : cells ≤ R.cells) (hs0 : slots ≤ R.slots) (hsz : Ls.size = maxL) (hd : decode bytes pc = .ok (.invokespecial i, 3)) (hp : pc + 3 = pc') (k : ∀ T', Stand p l e R s m args below meth c T' locs cells slots → T'.heap = h → Go p e below P (T'.setTop (mkF m pc' Ls under))) : Go p e below P (T.setTop (mkF m pc Ls st)) := by
  refine c_init B X eT hy1 w1 w2 wc wz hy hM hlen hst hW hf hlo (by omega) (by omega) hsz hd hp ?_
  intro v T' L X' hQ
  obtain ⟨rfl, rfl, e'⟩ := hQ
  rw [hce, hsl, List.append_nil] at X'
  exact k T' X' e'
theorem c_virtualUp (B : Ctx p s m meth c Z own nm bytes maxL ret) (X : Stand p l e R s m args below meth c T locs cells slots) {y z : MethodName} {bs : ByteArray} {mx : Nat} {rt : Option FieldType} {rm : Room} {i W : Nat} {argsL under : List Value} {Q : Option Value → Heap → List Loc → Prop} {st : List Value} {C owner : String} {b : Addr} (eT : T.heap = h) (w1 : (Jvm.Cond.methodLink own i y).before a0 Z = true) (ws : (Jvm.Cond.sameMethod y.cls owner y.name y.desc).before a0 Z = true) (w2 : (Jvm.Cond.declares ⟨owner, y.name, y.desc⟩).before a0 Z = true) (w3 : (Jvm.Cond.selects C y z).before a0 Z = true) (w4 : (Jvm.Cond.instanceMethod z).before a0 Z = true) (wc : (Jvm.Cond.code z bs mx rt).before a0 Z = true) (wz : (Jvm.Cond.initialized z.cls).before a0 Z = true) (hy : owner ≠ "java/lang/invoke/MethodHandle" ∧ owner ≠ "java/lang/invoke/VarHandle") (hM : OMeets l Z z bs mx rt [] rm (.ref b :: argsL).toArray h Q) (E : Exa Z h b C) (hlen : ∀ sig, parseMethodDescriptor y.desc = some sig → argsL.length = sig.parameters.length) (hst : st = argsL.reverse ++ .ref b :: under) (hW : (under.map fun v => v.category).sum = W) (hf : rm.frames + 1 ≤ R.frames) (hlo : W + (mx + 11) + rm.locals ≤ R.locals) (hce : cells + rm.cells ≤ R.cells) (hsl : slots + rm.slots ≤ R.slots) (hsz : Ls.size = maxL) (hd : decode bytes pc = .ok (.invokevirtual i, 3)) (hp : pc + 3 = pc') (k : ∀ v T' L, Stand p l e R s m args below meth c T' (locs ++ L) (cells + rm.cells) (slots + rm.slots) → Q v T'.heap L → Go p e below P (T'.setTop (mkF m pc' Ls (v.toList ++ under)))) : Go p e below P (T.setTop (mkF m pc Ls st)) := by
  subst hp hst
  obtain ⟨cq, kq, qa, qb, qc⟩ := isOf B.2.2.2.2.2.2.2 eT E
  obtain ⟨v, _, ⟨T', L', k', n'⟩, -, X', ⟨Lc, hQ, l', y', z'⟩, st'⟩ := X.virtualBackUp B.1 (x := y) (y := z) B.2.2.2.1 (mvT B.2.2.2.2.2.2.2 w1) (mvT B.2.2.2.2.2.2.2 ws) (mvT B.2.2.2.2.2.2.2 w2) hy (mvT B.2.2.2.2.2.2.2 w3) (mvT B.2.2.2.2.2.2.2 w4) (backOf (W := W) hM B.2.2.2.2.2.2.2 wc wz hf hlo) qa qc (g := mkF m pc Ls (argsL.reverse ++ .ref b :: under)) rfl (by rw [B.2.2.1]; exact hsz) (Steps.refl _) (argsL := argsL) (rest := under) hlen rfl (by show 2 * 0 + _ ≤ _; rw [Nat.mul_zero, Nat.zero_add]; exact Nat.le_of_eq hW) (hb B.2.1 hd) (fun _ _ => ⟨rfl, eT, hce, hsl⟩)
  dsimp only [Pt.U, Pt.locs, Pt.cells, Pt.slots] at X' l' y' z' st' hQ
  subst l' y' z'
  exact Go.on (fun t q => st'.trans q) (k v T' Lc X' hQ)
theorem p_virtualUp (B : Ctx p s m meth c Z own nm bytes maxL ret) (X : Stand p l e R s m args below meth c T locs cells slots) {y z : MethodName} {bs : ByteArray} {mx : Nat} {rt : Option FieldType} {rm : Room} {i W : Nat} {argsL under : List Value} {st : List Value} {C owner : String} {b : Addr} {r : Option Value} (eT : T.heap = h) (w1 : (Jvm.Cond.methodLink own i y).before a0 Z = true) (ws : (Jvm.Cond.sameMethod y.cls owner y.name y.desc).before a0 Z = true) (w2 : (Jvm.Cond.declares ⟨owner, y.name, y.desc⟩).before a0 Z = true) (w3 : (Jvm.Cond.selects C y z).before a0 Z = true) (w4 : (Jvm.Cond.instanceMethod z).before a0 Z = true) (wc : (Jvm.Cond.code z bs mx rt).before a0 Z = true) (wz : (Jvm.Cond.initialized z.cls).before a0 Z = true) (hy : owner ≠ "java/lang/invoke/MethodHandle" ∧ owner ≠ "java/lang/invoke/VarHandle") (hM : OMeets l Z z bs mx rt [] rm (.ref b :: argsL).toArray h (PureQ r h)) (E : Exa Z h b C) (hlen : ∀ sig, parseMethodDescriptor y.desc = some sig → argsL.length = sig.parameters.length) (hst : st = argsL.reverse ++ .ref b :: under) (hW : (under.map fun v => v.category).sum = W) (hf : rm.frames + 1 ≤ R.frames) (hlo : W + (mx + 11) + rm.locals ≤ R.locals) (hce : rm.cells = 0) (hsl : rm.slots = 0) (hc0 : cells ≤ R.cells) (hs0 : slots ≤ R.slots) (hsz : Ls.size = maxL) (hd : decode bytes pc = .ok (.invokevirtual i, 3)) (hp : pc + 3 = pc') (k : ∀ T', Stand p l e R s m args below meth c T' locs cells slots → T'.heap = h → Go p e below P (T'.setTop (mkF m pc' Ls (r.toList ++ under)))) : Go p e below P (T.setTop (mkF m pc Ls st)) := by
  refine c_virtualUp B X eT w1 ws w2 w3 w4 wc wz hy hM E hlen hst hW hf hlo (by omega) (by omega) hsz hd hp ?_
  intro v T' L X' hQ
  obtain ⟨rfl, rfl, e'⟩ := hQ
  rw [hce, hsl, List.append_nil] at X'
  exact k T' X' e'
end Kit
end Jvm.OwnKit

namespace Jvm.OwnKit
open Sem ClassFile Op Lib Jvm.Stand Jvm.Free Jvm.LawKit Jvm.RoadKit
section Heap
variable {p : Program} {l : Launch} {e : Env} {R : Room} {s : State} {m : MethodId} {args : Array Value} {below : List Frame} {meth : Method} {c : Code} {T : State} {locs : List Loc} {cells slots : Nat} {Z : State} {a0 : Array Value} {h h' : Heap} {own nm : String} {bytes : ByteArray} {maxL : Nat} {ret : Option FieldType} {P : Outcome → State → Prop} {pc pc' : Nat} {Ls Ls' : Array Slot} {rest : List Value} {a b : Addr} {k : ClassId} {ty : FieldType} {n i : Nat} {f g : Nat → Value} {v w : Value} {sl : Nat} {ws : List Addr}
/-- an array at a: n places, place i holds f i -/
def Ary (Z : State) (h : Heap) (a : Addr) (k : ClassId) (ty : FieldType) (n : Nat) (f : Nat → Value) : Prop := ∃ c : Cell, Arr Z h a c ty ∧ c.cls = k ∧ c.slots.size = n ∧ n < 2 ^ 31 ∧ ∀ i, i < n → c.slots[i]? = some (f i)
def upd (f : Nat → Value) (j : Nat) (v : Value) : Nat → Value := fun i => if i = j then v else f i
def lst (L : List Value) (d : Value) : Nat → Value := fun i => L.getD i d
theorem Ary.lt (F : Ary Z h a k ty n f) : a < h.size := by obtain ⟨c, A, -⟩ := F; exact A.lt
theorem Ary.ext (E : Ext h h') (F : Ary Z h a k ty n f) : Ary Z h' a k ty n f := by obtain ⟨c, A, r⟩ := F; exact ⟨c, A.ext E, r⟩
theorem Ary.other (W : Wr h h' b sl v) (F : Ary Z h a k ty n f) (q : a ≠ b) : Ary Z h' a k ty n f := by obtain ⟨c, A, r⟩ := F; exact ⟨c, A.other W q, r⟩
theorem Ary.keep (F : Ary Z h a k ty n f) (K : Keep h h' ws) (q : a ∉ ws) : Ary Z h' a k ty n f := by obtain ⟨c, A, r⟩ := F; exact ⟨c, ⟨K.2.1 a c A.1 q, A.2⟩, r⟩
theorem Ary.congr (F : Ary Z h a k ty n f) (q : ∀ i, i < n → f i = g i) : Ary Z h a k ty n g := by obtain ⟨c, A, r1, r2, r3, r4⟩ := F; exact ⟨c, A, r1, r2, r3, fun i hi => by rw [r4 i hi, q i hi]⟩
theorem upd_lst {L : List Value} {d v : Value} {j : Nat} (hj : j < L.length) {L' : List Value} (e : L.set j v = L') : upd (lst L d) j v = lst L' d := by
  subst e; funext i
  simp only [upd, lst, List.getD_eq_getElem?_getD, List.getElem?_set]
  by_cases q : i = j
  · subst q; simp [hj]
  · simp [q, Ne.symm q]
theorem Ary.same {j : Nat} (W : Wr h h' a j v) (F : Ary Z h a k ty n f) : Ary Z h' a k ty n (upd f j v) := by
  obtain ⟨c, A, r1, r2, r3, r4⟩ := F
  obtain ⟨cell, w1, w2, w3, -⟩ := id W
  cases w1.symm.trans A.1
  refine ⟨_, A.same W, r1, by rw [sz_set]; exact r2, r3, fun i hi => ?_⟩
  by_cases q : i = j
  · subst q; simp [Cell.setSlot, upd, w3]
  · simp only [Cell.setSlot, upd, if_neg q]; rw [Array.getElem?_setIfInBounds_ne (Ne.symm q)]; exact r4 i hi
theorem Ary.of_new {x : Int32} {N : Nat} (A : Arr Z h a (newA k ty x) ty) (hx : ¬ x < 0) (hN : x.toNatClampNeg = N) : Ary Z h a k ty N (fun _ => defaultValue ty) := by
  subst hN
  refine ⟨_, A, rfl, sz_new _ _ _, (back32 hx).2, fun i hi => ?_⟩
  simp [newA, hi]
theorem Ary.of_rep (F : Ary Z h a k ty n (fun _ => v)) {L : List Value} (q : ∀ i, i < n → L.getD i v = v) : Ary Z h a k ty n (lst L v) := F.congr fun i hi => (q i hi).symm

theorem Ary.sto {C : String} {y : Addr} (F : Ary Z h a k ty n f) (O : Ovr Z k C) (I : Ins Z h y C true) : Sto Z h a (.ref y) := by obtain ⟨c, A, r, -⟩ := F; exact Sto.of A (r ▸ O) I
theorem Ary.full {L : List Value} {j : Nat} {L' : List Value} (F : Ary Z h a k ty n (upd (lst L w) j v)) (hj : j < L.length) (e : L.set j v = L') : Ary Z h a k ty n (lst L' w) := by rw [← upd_lst (d := w) hj e]; exact F
theorem Ary.stoA {C : String} {y : Addr} {t0 : FieldType} (F : Ary Z h a k ty n f) (O : OvrA Z k t0 C) (I : Ins Z h y C true) : Sto Z h a (.ref y) := by obtain ⟨c, A, r, -⟩ := F; exact Sto.ofVA A r O I
theorem old_le {n0 : Nat} (O : Old Z n0 h) : n0 ≤ h.size := O.1 ▸ O.2.1
theorem s_new (B : Ctx p s m meth c Z own nm bytes maxL ret) (X : Stand p l e R s m args below meth c T locs cells slots) {C : String} {i0 n0 : Nat} (eT : T.heap = h) (w : (Jvm.Cond.classLink own i0 C).before a0 Z = true) (wi : (Jvm.Cond.instantiable C n0).before a0 Z = true) (wz : (Jvm.Cond.initialized C).before a0 Z = true) (hc : cells + 1 ≤ R.cells) (hl : slots + n0 ≤ R.slots) (hd : decode bytes pc = .ok (.new i0, 3)) (hp : pc + 3 = pc') (k : ∀ T' h' a, a = h.size → Stand p l e R s m args below meth c T' locs (cells + 1) (slots + n0) → T'.heap = h' → Ext h h' → Exa Z h' a C → (∀ {O nm d : String} {ty : FieldType}, Laid Z a0 C O nm d → parseFieldDescriptor d = some ty → Fld Z h' a O nm d (defaultValue ty)) → Go p e below P (T'.setTop (mkF m pc' Ls (.ref a :: rest)))) : Go p e below P (T.setTop (mkF m pc Ls (rest))) := by
  subst hp
  obtain ⟨T', h', X', e', E, A, D, -, st⟩ := newO X B.1 B.2.2.2.2.2.2.2 B.2.2.2.1 w wi wz eT (g := mkF m pc Ls rest) rfl (hb B.2.1 hd) hc hl
  exact Go.on st (k T' h' _ rfl X' e' E A D)
theorem s_initO (B : Ctx p s m meth c Z own nm bytes maxL ret) (X : Stand p l e R s m args below meth c T locs cells slots) {i0 W : Nat} {a : Addr} (eT : T.heap = h) (w1 : (Jvm.Cond.methodLink own i0 Lib.objectInit).before a0 Z = true) (w2 : (Jvm.Cond.instanceMethod Lib.objectInit).before a0 Z = true) (w3 : (Jvm.Cond.code Lib.objectInit ⟨#[0xb1]⟩ 1 none).before a0 Z = true) (hW : (rest.map fun v => v.category).sum = W) (hf : 1 ≤ R.frames) (hl : W + 12 ≤ R.locals) (hsz : Ls.size = maxL) (hd : decode bytes pc = .ok (.invokespecial i0, 3)) (hp : pc + 3 = pc') (k : ∀ T', Stand p l e R s m args below meth c T' locs cells slots → T'.heap = h → Go p e below P (T'.setTop (mkF m pc' Ls (rest)))) : Go p e below P (T.setTop (mkF m pc Ls (.ref a :: rest))) := by
  subst hp
  obtain ⟨T', X', e', st⟩ := initO X B.1 B.2.2.2.2.2.2.2 B.2.2.2.1 w1 w2 w3 eT (g := mkF m pc Ls (.ref a :: rest)) rfl (by rw [B.2.2.1]; exact hsz) rfl (hb B.2.1 hd) hf (W := W) (by show 2 * 0 + _ ≤ _; rw [Nat.mul_zero, Nat.zero_add]; exact Nat.le_of_eq hW) hl
  exact Go.on st (k T' X' e')
theorem s_putF (B : Ctx p s m meth c Z own nm bytes maxL ret) (X : Stand p l e R s m args below meth c T locs cells slots) {i0 kk : Nat} {R0 O n d host C : String} {ty : FieldType} {a : Addr} {v old : Value} (eT : T.heap = h) (w : (Jvm.Cond.fieldLink own i0 R0 n d).before a0 Z = true ∨ (Jvm.Cond.fieldLinkNest own i0 R0 n d host).before a0 Z = true) (via : Via Z R0 O n d) (F : Fld Z h a O n d old) (E : Exa Z h a C) (L : (Jvm.Cond.lays C O n d).before a0 Z = true ∨ ((Jvm.Cond.laysFinal C O n d).before a0 Z = true ∧ own = O ∧ nm = "<init>")) (wi : (Jvm.Cond.instantiable C kk).before a0 Z = true) (hty : parseFieldDescriptor d = some ty) (hn : narrow ty v = v) (hf : fits ty v = true) (hd : decode bytes pc = .ok (.putfield i0, 3)) (hp : pc + 3 = pc') (k : ∀ T' h', Stand p l e R s m args below meth c T' (locs ++ [⟨a, Jvm.RoadKit.slotOf Z O n d⟩]) cells slots → T'.heap = h' → Wr h h' a (Jvm.RoadKit.slotOf Z O n d) v → Go p e below P (T'.setTop (mkF m pc' Ls (rest)))) : Go p e below P (T.setTop (mkF m pc Ls (v :: .ref a :: rest))) := by
  subst hp
  obtain ⟨T', h', X', e', W, st⟩ := putF X B.1 B.2.2.2.2.2.2.2 B.2.2.2.1 w via eT F E (L.imp id fun q => ⟨q.1, q.2.1, by rw [B.2.2.2.2.1]; exact q.2.2⟩) wi hty hn hf (g := mkF m pc Ls (v :: .ref a :: rest)) rfl rfl (hb B.2.1 hd)
  exact Go.on st (k T' h' X' e' W)
theorem s_putFN (B : Ctx p s m meth c Z own nm bytes maxL ret) (X : Stand p l e R s m args below meth c T locs cells slots) {i0 kk : Nat} {R0 O n d C : String} {ty : FieldType} {a : Addr} {v v' old : Value} (eT : T.heap = h) (w : (Jvm.Cond.fieldLink own i0 R0 n d).before a0 Z = true) (via : Via Z R0 O n d) (F : Fld Z h a O n d old) (E : Exa Z h a C) (L : (Jvm.Cond.lays C O n d).before a0 Z = true ∨ ((Jvm.Cond.laysFinal C O n d).before a0 Z = true ∧ own = O ∧ nm = "<init>")) (wi : (Jvm.Cond.instantiable C kk).before a0 Z = true) (hty : parseFieldDescriptor d = some ty) (hn : narrow ty v = v') (hf : fits ty v' = true) (hd : decode bytes pc = .ok (.putfield i0, 3)) (hp : pc + 3 = pc') (k : ∀ T' h', Stand p l e R s m args below meth c T' (locs ++ [⟨a, Jvm.RoadKit.slotOf Z O n d⟩]) cells slots → T'.heap = h' → Wr h h' a (Jvm.RoadKit.slotOf Z O n d) v' → Go p e below P (T'.setTop (mkF m pc' Ls (rest)))) : Go p e below P (T.setTop (mkF m pc Ls (v :: .ref a :: rest))) := by
  subst hp
  obtain ⟨T', h', X', e', W, st⟩ := putFN X B.1 B.2.2.2.2.2.2.2 B.2.2.2.1 w via eT F E (L.imp id fun q => ⟨q.1, q.2.1, by rw [B.2.2.2.2.1]; exact q.2.2⟩) wi hty hn hf (g := mkF m pc Ls (v :: .ref a :: rest)) rfl rfl (hb B.2.1 hd)
  exact Go.on st (k T' h' X' e' W)
theorem s_newP (B : Ctx p s m meth c Z own nm bytes maxL ret) (X : Stand p l e R s m args below meth c T locs cells slots) {aty : ArrayType} {x : Int32} {N : Nat} (eT : T.heap = h) (w : (Jvm.Cond.arrayClass (newarray.typeOf aty)).before a0 Z = true) (hn : ¬ x < 0) (hN : x.toNatClampNeg = N) {cap : Nat} (hcap : N ≤ cap) (hb8 : cap * 8 ≤ 536870912) (hc : cells + 1 ≤ R.cells) (hl : slots + cap ≤ R.slots) (hd : decode bytes pc = .ok (.newarray aty, 2)) (hp : pc + 2 = pc') (k : ∀ T' h' a kA, a = h.size → Stand p l e R s m args below meth c T' locs (cells + 1) (slots + cap) → T'.heap = h' → Ext h h' → Ary Z h' a kA (newarray.typeOf aty) N (fun _ => defaultValue (newarray.typeOf aty)) → Go p e below P (T'.setTop (mkF m pc' Ls (.ref a :: rest)))) : Go p e below P (T.setTop (mkF m pc Ls (.int x :: rest))) := by
  subst hp
  obtain ⟨T', h', cA, X', e', E, A, st⟩ := newP X B.1 B.2.2.2.2.2.2.2 w eT (g := mkF m pc Ls (.int x :: rest)) rfl (hb B.2.1 hd) rfl hn (cap := cap) (hN ▸ hcap) hb8 hc hl
  exact Go.on st (k T' h' _ cA rfl X' e' E (Ary.of_new A hn hN))
theorem s_newR (B : Ctx p s m meth c Z own nm bytes maxL ret) (X : Stand p l e R s m args below meth c T locs cells slots) {i0 : Nat} {C : String} {x : Int32} {N : Nat} (eT : T.heap = h) (w1 : (Jvm.Cond.classLink own i0 C).before a0 Z = true) (w2 : (Jvm.Cond.arrayOver (.object C)).before a0 Z = true) (hn : ¬ x < 0) (hN : x.toNatClampNeg = N) {cap : Nat} (hcap : N ≤ cap) (hb8 : cap * 8 ≤ 536870912) (hc : cells + 1 ≤ R.cells) (hl : slots + cap ≤ R.slots) (hd : decode bytes pc = .ok (.anewarray i0, 3)) (hp : pc + 3 = pc') (k : ∀ T' h' a kA, a = h.size → Stand p l e R s m args below meth c T' locs (cells + 1) (slots + cap) → T'.heap = h' → Ext h h' → Ary Z h' a kA (.object C) N (fun _ => .null) → Ovr Z kA C → Go p e below P (T'.setTop (mkF m pc' Ls (.ref a :: rest)))) : Go p e below P (T.setTop (mkF m pc Ls (.int x :: rest))) := by
  subst hp
  obtain ⟨T', h', cA, X', e', E, A, O, st⟩ := newR X B.1 B.2.2.2.2.2.2.2 B.2.2.2.1 w1 w2 eT (g := mkF m pc Ls (.int x :: rest)) rfl (hb B.2.1 hd) rfl hn (cap := cap) (hN ▸ hcap) hb8 hc hl
  exact Go.on st (k T' h' _ cA rfl X' e' E (Ary.of_new A hn hN) O)
theorem s_newRA (B : Ctx p s m meth c Z own nm bytes maxL ret) (X : Stand p l e R s m args below meth c T locs cells slots) {i0 : Nat} {C : String} {ty : FieldType} {x : Int32} {N : Nat} (eT : T.heap = h) (hC : (FieldType.array ty).toString = C) (w1 : (Jvm.Cond.classLink own i0 C).before a0 Z = true) (w2 : (Jvm.Cond.arrayOver (.array ty)).before a0 Z = true) (hn : ¬ x < 0) (hN : x.toNatClampNeg = N) {cap : Nat} (hcap : N ≤ cap) (hb8 : cap * 8 ≤ 536870912) (hc : cells + 1 ≤ R.cells) (hl : slots + cap ≤ R.slots) (hd : decode bytes pc = .ok (.anewarray i0, 3)) (hp : pc + 3 = pc') (k : ∀ T' h' a kA, a = h.size → Stand p l e R s m args below meth c T' locs (cells + 1) (slots + cap) → T'.heap = h' → Ext h h' → Ary Z h' a kA (.array ty) N (fun _ => .null) → OvrA Z kA ty C → Go p e below P (T'.setTop (mkF m pc' Ls (.ref a :: rest)))) : Go p e below P (T.setTop (mkF m pc Ls (.int x :: rest))) := by
  subst hp
  obtain ⟨T', h', cA, X', e', E, A, -, O, st⟩ := newRA X B.1 B.2.2.2.2.2.2.2 B.2.2.2.1 hC w1 w2 eT (g := mkF m pc Ls (.int x :: rest)) rfl (hb B.2.1 hd) rfl hn (cap := cap) (hN ▸ hcap) hb8 hc hl rfl
  exact Go.on st (k T' h' _ cA rfl X' e' E (Ary.of_new A hn hN) O)
theorem s_stI (B : Ctx p s m meth c Z own nm bytes maxL ret) (X : Stand p l e R s m args below meth c T locs cells slots) {a : Addr} {x : Int32} {j : Int32} {jn N : Nat} {f : Nat → Value} {kA : ClassId} (eT : T.heap = h) (A : Ary Z h a kA .int N f) (hj : ¬ j < 0) (hjn : j.toNatClampNeg = jn) (hlt : jn < N) (hd : decode bytes pc = .ok (.iastore, 1)) (hp : pc + 1 = pc') (k : ∀ T' h', Stand p l e R s m args below meth c T' (locs ++ [⟨a, jn⟩]) cells slots → T'.heap = h' → Wr h h' a jn (.int x) → Ary Z h' a kA .int N (upd f jn (.int x)) → Go p e below P (T'.setTop (mkF m pc' Ls (rest)))) : Go p e below P (T.setTop (mkF m pc Ls (.int x :: .int j :: .ref a :: rest))) := by
  subst hp
  subst hjn
  obtain ⟨cl, A1, q1, q2, q3, q4⟩ := id A
  obtain ⟨T', h', X', e', W, st⟩ := stI X B.1 B.2.2.2.2.2.2.2 eT A1 (j := j) (by rw [q2]; intro z; rcases z with z | z; exact hj z; omega) (g := mkF m pc Ls (.int x :: .int j :: .ref a :: rest)) rfl rfl (hb B.2.1 hd)
  exact Go.on st (k T' h' X' e' W (A.same W))
theorem s_stJ (B : Ctx p s m meth c Z own nm bytes maxL ret) (X : Stand p l e R s m args below meth c T locs cells slots) {a : Addr} {x : Int64} {j : Int32} {jn N : Nat} {f : Nat → Value} {kA : ClassId} (eT : T.heap = h) (A : Ary Z h a kA .long N f) (hj : ¬ j < 0) (hjn : j.toNatClampNeg = jn) (hlt : jn < N) (hd : decode bytes pc = .ok (.lastore, 1)) (hp : pc + 1 = pc') (k : ∀ T' h', Stand p l e R s m args below meth c T' (locs ++ [⟨a, jn⟩]) cells slots → T'.heap = h' → Wr h h' a jn (.long x) → Ary Z h' a kA .long N (upd f jn (.long x)) → Go p e below P (T'.setTop (mkF m pc' Ls (rest)))) : Go p e below P (T.setTop (mkF m pc Ls (.long x :: .int j :: .ref a :: rest))) := by
  subst hp
  subst hjn
  obtain ⟨cl, A1, q1, q2, q3, q4⟩ := id A
  obtain ⟨T', h', X', e', W, st⟩ := stJ X B.1 B.2.2.2.2.2.2.2 eT A1 (j := j) (by rw [q2]; intro z; rcases z with z | z; exact hj z; omega) (g := mkF m pc Ls (.long x :: .int j :: .ref a :: rest)) rfl rfl (hb B.2.1 hd)
  exact Go.on st (k T' h' X' e' W (A.same W))
theorem s_stB (B : Ctx p s m meth c Z own nm bytes maxL ret) (X : Stand p l e R s m args below meth c T locs cells slots) {a : Addr} {x : Int32} {j : Int32} {jn N : Nat} {f : Nat → Value} {kA : ClassId} (eT : T.heap = h) (A : Ary Z h a kA .byte N f) (hj : ¬ j < 0) (hjn : j.toNatClampNeg = jn) (hlt : jn < N) (hd : decode bytes pc = .ok (.bastore, 1)) (hp : pc + 1 = pc') (k : ∀ T' h', Stand p l e R s m args below meth c T' (locs ++ [⟨a, jn⟩]) cells slots → T'.heap = h' → Wr h h' a jn (.int (nar .byte x)) → Ary Z h' a kA .byte N (upd f jn (.int (nar .byte x))) → Go p e below P (T'.setTop (mkF m pc' Ls (rest)))) : Go p e below P (T.setTop (mkF m pc Ls (.int x :: .int j :: .ref a :: rest))) := by
  subst hp
  subst hjn
  obtain ⟨cl, A1, q1, q2, q3, q4⟩ := id A
  obtain ⟨T', h', X', e', W, st⟩ := stB X B.1 B.2.2.2.2.2.2.2 eT A1 (j := j) (by rw [q2]; intro z; rcases z with z | z; exact hj z; omega) (g := mkF m pc Ls (.int x :: .int j :: .ref a :: rest)) rfl rfl (hb B.2.1 hd)
  exact Go.on st (k T' h' X' e' W (A.same W))
theorem s_stZ (B : Ctx p s m meth c Z own nm bytes maxL ret) (X : Stand p l e R s m args below meth c T locs cells slots) {a : Addr} {x : Int32} {j : Int32} {jn N : Nat} {f : Nat → Value} {kA : ClassId} (eT : T.heap = h) (A : Ary Z h a kA .boolean N f) (hj : ¬ j < 0) (hjn : j.toNatClampNeg = jn) (hlt : jn < N) (hd : decode bytes pc = .ok (.bastore, 1)) (hp : pc + 1 = pc') (k : ∀ T' h', Stand p l e R s m args below meth c T' (locs ++ [⟨a, jn⟩]) cells slots → T'.heap = h' → Wr h h' a jn (.int (nar .boolean x)) → Ary Z h' a kA .boolean N (upd f jn (.int (nar .boolean x))) → Go p e below P (T'.setTop (mkF m pc' Ls (rest)))) : Go p e below P (T.setTop (mkF m pc Ls (.int x :: .int j :: .ref a :: rest))) := by
  subst hp
  subst hjn
  obtain ⟨cl, A1, q1, q2, q3, q4⟩ := id A
  obtain ⟨T', h', X', e', W, st⟩ := stZ X B.1 B.2.2.2.2.2.2.2 eT A1 (j := j) (by rw [q2]; intro z; rcases z with z | z; exact hj z; omega) (g := mkF m pc Ls (.int x :: .int j :: .ref a :: rest)) rfl rfl (hb B.2.1 hd)
  exact Go.on st (k T' h' X' e' W (A.same W))
theorem s_stC (B : Ctx p s m meth c Z own nm bytes maxL ret) (X : Stand p l e R s m args below meth c T locs cells slots) {a : Addr} {x : Int32} {j : Int32} {jn N : Nat} {f : Nat → Value} {kA : ClassId} (eT : T.heap = h) (A : Ary Z h a kA .char N f) (hj : ¬ j < 0) (hjn : j.toNatClampNeg = jn) (hlt : jn < N) (hd : decode bytes pc = .ok (.castore, 1)) (hp : pc + 1 = pc') (k : ∀ T' h', Stand p l e R s m args below meth c T' (locs ++ [⟨a, jn⟩]) cells slots → T'.heap = h' → Wr h h' a jn (.int (nar .char x)) → Ary Z h' a kA .char N (upd f jn (.int (nar .char x))) → Go p e below P (T'.setTop (mkF m pc' Ls (rest)))) : Go p e below P (T.setTop (mkF m pc Ls (.int x :: .int j :: .ref a :: rest))) := by
  subst hp
  subst hjn
  obtain ⟨cl, A1, q1, q2, q3, q4⟩ := id A
  obtain ⟨T', h', X', e', W, st⟩ := stC X B.1 B.2.2.2.2.2.2.2 eT A1 (j := j) (by rw [q2]; intro z; rcases z with z | z; exact hj z; omega) (g := mkF m pc Ls (.int x :: .int j :: .ref a :: rest)) rfl rfl (hb B.2.1 hd)
  exact Go.on st (k T' h' X' e' W (A.same W))
theorem s_stR (B : Ctx p s m meth c Z own nm bytes maxL ret) (X : Stand p l e R s m args below meth c T locs cells slots) {a : Addr} {v : Value} {ty : FieldType} {j : Int32} {jn N : Nat} {f : Nat → Value} {kA : ClassId} (eT : T.heap = h) (A : Ary Z h a kA ty N f) (hty : ty.isReference = true) (S : Sto Z h a v) (hj : ¬ j < 0) (hjn : j.toNatClampNeg = jn) (hlt : jn < N) (hd : decode bytes pc = .ok (.aastore, 1)) (hp : pc + 1 = pc') (k : ∀ T' h', Stand p l e R s m args below meth c T' (locs ++ [⟨a, jn⟩]) cells slots → T'.heap = h' → Wr h h' a jn v → Ary Z h' a kA ty N (upd f jn v) → Go p e below P (T'.setTop (mkF m pc' Ls (rest)))) : Go p e below P (T.setTop (mkF m pc Ls (v :: .int j :: .ref a :: rest))) := by
  subst hp
  subst hjn
  obtain ⟨cl, A1, q1, q2, q3, q4⟩ := id A
  obtain ⟨T', h', X', e', W, st⟩ := stR X B.1 B.2.2.2.2.2.2.2 eT A1 (j := j) (by rw [q2]; intro z; rcases z with z | z; exact hj z; omega) hty S (g := mkF m pc Ls (v :: .int j :: .ref a :: rest)) rfl rfl (hb B.2.1 hd)
  exact Go.on st (k T' h' X' e' W (A.same W))
theorem s_ldI (B : Ctx p s m meth c Z own nm bytes maxL ret) (X : Stand p l e R s m args below meth c T locs cells slots) {a : Addr} {v : Value} {j : Int32} {jn N : Nat} {f : Nat → Value} {kA : ClassId} (eT : T.heap = h) (A : Ary Z h a kA .int N f) (hj : ¬ j < 0) (hjn : j.toNatClampNeg = jn) (hlt : jn < N) (hv : f jn = v) (hd : decode bytes pc = .ok (.iaload, 1)) (hp : pc + 1 = pc') (k : Go p e below P (T.setTop (mkF m pc' Ls (v :: rest)))) : Go p e below P (T.setTop (mkF m pc Ls (.int j :: .ref a :: rest))) := by
  subst hp hjn hv
  obtain ⟨cl, A1, q1, q2, q3, q4⟩ := A
  exact Go.on (X.iaload B.1 (j := j) (by rw [eT]; exact A1.1) (State.isArrayOf_alike B.2.2.2.2.2.2.2.alike A1.2.1) A1.2.2 (by rw [q2]; intro z; rcases z with z | z; exact hj z; omega) (q4 _ hlt) (g := mkF m pc Ls (.int j :: .ref a :: rest)) rfl rfl (hb B.2.1 hd)) k
theorem s_ldJ (B : Ctx p s m meth c Z own nm bytes maxL ret) (X : Stand p l e R s m args below meth c T locs cells slots) {a : Addr} {v : Value} {j : Int32} {jn N : Nat} {f : Nat → Value} {kA : ClassId} (eT : T.heap = h) (A : Ary Z h a kA .long N f) (hj : ¬ j < 0) (hjn : j.toNatClampNeg = jn) (hlt : jn < N) (hv : f jn = v) (hd : decode bytes pc = .ok (.laload, 1)) (hp : pc + 1 = pc') (k : Go p e below P (T.setTop (mkF m pc' Ls (v :: rest)))) : Go p e below P (T.setTop (mkF m pc Ls (.int j :: .ref a :: rest))) := by
  subst hp hjn hv
  obtain ⟨cl, A1, q1, q2, q3, q4⟩ := A
  exact Go.on (X.laload B.1 (j := j) (by rw [eT]; exact A1.1) (State.isArrayOf_alike B.2.2.2.2.2.2.2.alike A1.2.1) A1.2.2 (by rw [q2]; intro z; rcases z with z | z; exact hj z; omega) (q4 _ hlt) (g := mkF m pc Ls (.int j :: .ref a :: rest)) rfl rfl (hb B.2.1 hd)) k
theorem s_ldB (B : Ctx p s m meth c Z own nm bytes maxL ret) (X : Stand p l e R s m args below meth c T locs cells slots) {a : Addr} {v : Value} {j : Int32} {jn N : Nat} {f : Nat → Value} {kA : ClassId} (eT : T.heap = h) (A : Ary Z h a kA .byte N f) (hj : ¬ j < 0) (hjn : j.toNatClampNeg = jn) (hlt : jn < N) (hv : f jn = v) (hd : decode bytes pc = .ok (.baload, 1)) (hp : pc + 1 = pc') (k : Go p e below P (T.setTop (mkF m pc' Ls (v :: rest)))) : Go p e below P (T.setTop (mkF m pc Ls (.int j :: .ref a :: rest))) := by
  subst hp hjn hv
  obtain ⟨cl, A1, q1, q2, q3, q4⟩ := A
  exact Go.on (X.baloadBytes B.1 (j := j) (by rw [eT]; exact A1.1) (State.isArrayOf_alike B.2.2.2.2.2.2.2.alike A1.2.1) A1.2.2 (by rw [q2]; intro z; rcases z with z | z; exact hj z; omega) (q4 _ hlt) (g := mkF m pc Ls (.int j :: .ref a :: rest)) rfl rfl (hb B.2.1 hd)) k
theorem s_ldZ (B : Ctx p s m meth c Z own nm bytes maxL ret) (X : Stand p l e R s m args below meth c T locs cells slots) {a : Addr} {v : Value} {j : Int32} {jn N : Nat} {f : Nat → Value} {kA : ClassId} (eT : T.heap = h) (A : Ary Z h a kA .boolean N f) (hj : ¬ j < 0) (hjn : j.toNatClampNeg = jn) (hlt : jn < N) (hv : f jn = v) (hd : decode bytes pc = .ok (.baload, 1)) (hp : pc + 1 = pc') (k : Go p e below P (T.setTop (mkF m pc' Ls (v :: rest)))) : Go p e below P (T.setTop (mkF m pc Ls (.int j :: .ref a :: rest))) := by
  subst hp hjn hv
  obtain ⟨cl, A1, q1, q2, q3, q4⟩ := A
  exact Go.on (X.baloadBooleans B.1 (j := j) (by rw [eT]; exact A1.1) (State.isArrayOf_alike B.2.2.2.2.2.2.2.alike A1.2.1) A1.2.2 (by rw [q2]; intro z; rcases z with z | z; exact hj z; omega) (q4 _ hlt) (g := mkF m pc Ls (.int j :: .ref a :: rest)) rfl rfl (hb B.2.1 hd)) k
theorem s_ldC (B : Ctx p s m meth c Z own nm bytes maxL ret) (X : Stand p l e R s m args below meth c T locs cells slots) {a : Addr} {v : Value} {j : Int32} {jn N : Nat} {f : Nat → Value} {kA : ClassId} (eT : T.heap = h) (A : Ary Z h a kA .char N f) (hj : ¬ j < 0) (hjn : j.toNatClampNeg = jn) (hlt : jn < N) (hv : f jn = v) (hd : decode bytes pc = .ok (.caload, 1)) (hp : pc + 1 = pc') (k : Go p e below P (T.setTop (mkF m pc' Ls (v :: rest)))) : Go p e below P (T.setTop (mkF m pc Ls (.int j :: .ref a :: rest))) := by
  subst hp hjn hv
  obtain ⟨cl, A1, q1, q2, q3, q4⟩ := A
  exact Go.on (X.caload B.1 (j := j) (by rw [eT]; exact A1.1) (State.isArrayOf_alike B.2.2.2.2.2.2.2.alike A1.2.1) A1.2.2 (by rw [q2]; intro z; rcases z with z | z; exact hj z; omega) (q4 _ hlt) (g := mkF m pc Ls (.int j :: .ref a :: rest)) rfl rfl (hb B.2.1 hd)) k
theorem s_ldR (B : Ctx p s m meth c Z own nm bytes maxL ret) (X : Stand p l e R s m args below meth c T locs cells slots) {a : Addr} {v : Value} {ty : FieldType} {j : Int32} {jn N : Nat} {f : Nat → Value} {kA : ClassId} (eT : T.heap = h) (A : Ary Z h a kA ty N f) (hty : ty.isReference = true) (hj : ¬ j < 0) (hjn : j.toNatClampNeg = jn) (hlt : jn < N) (hv : f jn = v) (hd : decode bytes pc = .ok (.aaload, 1)) (hp : pc + 1 = pc') (k : Go p e below P (T.setTop (mkF m pc' Ls (v :: rest)))) : Go p e below P (T.setTop (mkF m pc Ls (.int j :: .ref a :: rest))) := by
  subst hp hjn hv
  obtain ⟨cl, A1, q1, q2, q3, q4⟩ := A
  exact Go.on (X.aaload B.1 (j := j) (by rw [eT]; exact A1.1) (State.isArrayOf_alike B.2.2.2.2.2.2.2.alike A1.2.1) hty A1.2.2 (by rw [q2]; intro z; rcases z with z | z; exact hj z; omega) (q4 _ hlt) (g := mkF m pc Ls (.int j :: .ref a :: rest)) rfl rfl (hb B.2.1 hd)) k
theorem s_len (B : Ctx p s m meth c Z own nm bytes maxL ret) (X : Stand p l e R s m args below meth c T locs cells slots) {a : Addr} {v : Int32} {ty : FieldType} {N : Nat} {f : Nat → Value} {kA : ClassId} (eT : T.heap = h) (A : Ary Z h a kA ty N f) (hv : N.toInt32 = v) (hd : decode bytes pc = .ok (.arraylength, 1)) (hp : pc + 1 = pc') (k : Go p e below P (T.setTop (mkF m pc' Ls (.int v :: rest)))) : Go p e below P (T.setTop (mkF m pc Ls (.ref a :: rest))) := by
  subst hp hv
  obtain ⟨cl, A1, q1, q2, q3, q4⟩ := A
  subst q2
  exact Go.on (X.arraylength B.1 (by rw [eT]; exact A1.1) (State.isArrayOf_alike B.2.2.2.2.2.2.2.alike A1.2.1) (g := mkF m pc Ls (.ref a :: rest)) rfl rfl (hb B.2.1 hd)) k
theorem s_castY (B : Ctx p s m meth c Z own nm bytes maxL ret) (X : Stand p l e R s m args below meth c T locs cells slots) {i0 : Nat} {K : String} {a : Addr} (eT : T.heap = h) (w : (Jvm.Cond.classLink own i0 K).before a0 Z = true) (F : Ins Z h a K true) (hd : decode bytes pc = .ok (.checkcast i0, 3)) (hp : pc + 3 = pc') (k : ∀ T', Stand p l e R s m args below meth c T' locs cells slots → T'.heap = h → Go p e below P (T'.setTop (mkF m pc' Ls (.ref a :: rest)))) : Go p e below P (T.setTop (mkF m pc Ls (.ref a :: rest))) := by
  subst hp
  obtain ⟨T', X', e', st⟩ := castY X B.1 B.2.2.2.2.2.2.2 B.2.2.2.1 w eT F (g := mkF m pc Ls (.ref a :: rest)) rfl rfl (hb B.2.1 hd)
  exact Go.on st (k T' X' e')
theorem s_instY (B : Ctx p s m meth c Z own nm bytes maxL ret) (X : Stand p l e R s m args below meth c T locs cells slots) {i0 : Nat} {K : String} {a : Addr} (eT : T.heap = h) (w : (Jvm.Cond.classLink own i0 K).before a0 Z = true) (F : Ins Z h a K true) (hd : decode bytes pc = .ok (.instanceof i0, 3)) (hp : pc + 3 = pc') (k : ∀ T', Stand p l e R s m args below meth c T' locs cells slots → T'.heap = h → Go p e below P (T'.setTop (mkF m pc' Ls (.int 1 :: rest)))) : Go p e below P (T.setTop (mkF m pc Ls (.ref a :: rest))) := by
  subst hp
  obtain ⟨T', X', e', st⟩ := instY X B.1 B.2.2.2.2.2.2.2 B.2.2.2.1 w eT F (g := mkF m pc Ls (.ref a :: rest)) rfl rfl (hb B.2.1 hd)
  exact Go.on st (k T' X' e')
theorem s_tswIn (B : Ctx p s m meth c Z own nm bytes maxL ret) (X : Stand p l e R s m args below meth c T locs cells slots) {df lo hi : Int} {offs : Array Int} {len : Nat} {o : Int} {x : Int32} (hd : decode bytes pc = .ok (.tableswitch df lo hi offs, len)) (hin : ¬ (x.toInt < lo ∨ x.toInt > hi)) (hoff : offs[(x.toInt - lo).toNat]? = some o) (ho : 0 ≤ (pc : Int) + o) (hp : ((pc : Int) + o).toNat = pc') (k : Go p e below P (T.setTop (mkF m pc' Ls (rest)))) : Go p e below P (T.setTop (mkF m pc Ls (.int x :: rest))) := Go.on (fun t => XS.tswIn (g := mkF m pc Ls (.int x :: rest)) X.here B.1 rfl (pc0 := pc) rfl (hb B.2.1 hd) (i := x) (rest := rest) rfl hin hoff ho hp) k
theorem s_tswOut (B : Ctx p s m meth c Z own nm bytes maxL ret) (X : Stand p l e R s m args below meth c T locs cells slots) {df lo hi : Int} {offs : Array Int} {len : Nat} {x : Int32} (hd : decode bytes pc = .ok (.tableswitch df lo hi offs, len)) (hout : x.toInt < lo ∨ x.toInt > hi) (ho : 0 ≤ (pc : Int) + df) (hp : ((pc : Int) + df).toNat = pc') (k : Go p e below P (T.setTop (mkF m pc' Ls (rest)))) : Go p e below P (T.setTop (mkF m pc Ls (.int x :: rest))) := Go.on (fun t => XS.tswOut (g := mkF m pc Ls (.int x :: rest)) X.here B.1 rfl (pc0 := pc) rfl (hb B.2.1 hd) (i := x) (rest := rest) rfl hout ho hp) k
end Heap
end Jvm.OwnKit

namespace Jvm.OwnKit
open Sem ClassFile Op Lib Jvm.Stand Jvm.Free Jvm.LawKit Jvm.RoadKit
section Start
variable {args : Array Value} {s : State} {t u : Term}
theorem eqI_v {k : Int32} (h : (Jvm.Cond.eq t (.int k)).value args s none s [] = some true) : t.eval args s none [] s = some (.int k) := by
  cases ht : t.eval args s none [] s with
  | none => simp [Cond.value, ht] at h
  | some x => cases x <;> simp [Cond.value, ht, Term.eval] at h ⊢; exact h
theorem eqJ_v {k : Int64} (h : (Jvm.Cond.eq t (.long k)).value args s none s [] = some true) : t.eval args s none [] s = some (.long k) := by
  cases ht : t.eval args s none [] s with
  | none => simp [Cond.value, ht] at h
  | some x => cases x <;> simp [Cond.value, ht, Term.eval] at h ⊢; exact h
theorem eqR_v {a : Addr} (hu : u.eval args s none [] s = some (.ref a)) (h : (Jvm.Cond.eq t u).value args s none s [] = some true) : t.eval args s none [] s = some (.ref a) := by
  cases ht : t.eval args s none [] s with
  | none => simp [Cond.value, ht] at h
  | some x => cases x <;> simp [Cond.value, ht, hu] at h ⊢; exact h
end Start
end Jvm.OwnKit

namespace Jvm.Pilot.@@N@@
open Jvm Jvm.ClassFile Sem Op Lib Jvm.Free Jvm.Stand Jvm.LawKit Jvm.RoadKit Jvm.OwnKit Bundle Jvm.Pilot.@@N@@.Jvm.D
theorem tw0 {Z : State} {a0 : Array Value} (hw : ∀ d ∈ tables_1, d.before a0 Z = true) : (Jvm.Cond.constant "com/example/waymark/waymark/model/MatchingRuleHasSubstringsPinLaw" (7 : Nat) (2147483647 : Int32)).before a0 Z = true := hw _ (List.mem_of_getElem? (i := 0) rfl)
theorem tw1 {Z : State} {a0 : Array Value} (hw : ∀ d ∈ tables_1, d.before a0 Z = true) : (Jvm.Cond.methodLink "com/example/waymark/waymark/model/MatchingRuleHasSubstringsPinLaw" (8 : Nat) ({ cls := "com/example/waymark/waymark/model/MatchingRuleHasSubstringsPinLaw", name := "rule", desc := "(I)Lcom/example/waymark/waymark/model/MatchingRule;" } : Jvm.MethodName)).before a0 Z = true := hw _ (List.mem_of_getElem? (i := 1) rfl)
theorem tw2 {Z : State} {a0 : Array Value} (hw : ∀ d ∈ tables_1, d.before a0 Z = true) : (Jvm.Cond.static ({ cls := "com/example/waymark/waymark/model/MatchingRuleHasSubstringsPinLaw", name := "rule", desc := "(I)Lcom/example/waymark/waymark/model/MatchingRule;" } : Jvm.MethodName)).before a0 Z = true := hw _ (List.mem_of_getElem? (i := 2) rfl)
theorem tw3 {Z : State} {a0 : Array Value} (hw : ∀ d ∈ tables_1, d.before a0 Z = true) : (Jvm.Cond.initialized "com/example/waymark/waymark/model/MatchingRuleHasSubstringsPinLaw").before a0 Z = true := hw _ (List.mem_of_getElem? (i := 3) rfl)
theorem tw4 {Z : State} {a0 : Array Value} (hw : ∀ d ∈ tables_1, d.before a0 Z = true) : (Jvm.Cond.code ({ cls := "com/example/waymark/waymark/model/MatchingRuleHasSubstringsPinLaw", name := "rule", desc := "(I)Lcom/example/waymark/waymark/model/MatchingRule;" } : Jvm.MethodName) method_3_code (1 : Nat) (Option.some (Jvm.ClassFile.FieldType.object "com/example/waymark/waymark/model/MatchingRule"))).before a0 Z = true := hw _ (List.mem_of_getElem? (i := 4) rfl)
theorem tw5 {Z : State} {a0 : Array Value} (hw : ∀ d ∈ tables_1, d.before a0 Z = true) : (Jvm.Cond.fieldLink "com/example/waymark/waymark/model/MatchingRuleHasSubstringsPinLaw" (24 : Nat) "com/example/waymark/waymark/model/MatchingRule" "CASE_IGNORE" "Lcom/example/waymark/waymark/model/MatchingRule;").before a0 Z = true := hw _ (List.mem_of_getElem? (i := 5) rfl)
theorem tw6 {Z : State} {a0 : Array Value} (hw : ∀ d ∈ tables_1, d.before a0 Z = true) : (Jvm.Cond.initialized "com/example/waymark/waymark/model/MatchingRule").before a0 Z = true := hw _ (List.mem_of_getElem? (i := 6) rfl)
theorem tw7 {Z : State} {a0 : Array Value} (hw : ∀ d ∈ tables_1, d.before a0 Z = true) : (Jvm.Cond.laysStatic "com/example/waymark/waymark/model/MatchingRule" "CASE_IGNORE" "Lcom/example/waymark/waymark/model/MatchingRule;").before a0 Z = true := hw _ (List.mem_of_getElem? (i := 7) rfl)
theorem tw8 {Z : State} {a0 : Array Value} (hw : ∀ d ∈ tables_1, d.before a0 Z = true) : (Jvm.Cond.methodLink "com/example/waymark/waymark/model/MatchingRuleHasSubstringsPinLaw" (14 : Nat) ({ cls := "com/example/waymark/waymark/model/MatchingRuleHasSubstringsPinLaw", name := "documentedSubstrings", desc := "(I)Z" } : Jvm.MethodName)).before a0 Z = true := hw _ (List.mem_of_getElem? (i := 8) rfl)
theorem tw9 {Z : State} {a0 : Array Value} (hw : ∀ d ∈ tables_1, d.before a0 Z = true) : (Jvm.Cond.static ({ cls := "com/example/waymark/waymark/model/MatchingRuleHasSubstringsPinLaw", name := "documentedSubstrings", desc := "(I)Z" } : Jvm.MethodName)).before a0 Z = true := hw _ (List.mem_of_getElem? (i := 9) rfl)
theorem tw10 {Z : State} {a0 : Array Value} (hw : ∀ d ∈ tables_1, d.before a0 Z = true) : (Jvm.Cond.code ({ cls := "com/example/waymark/waymark/model/MatchingRuleHasSubstringsPinLaw", name := "documentedSubstrings", desc := "(I)Z" } : Jvm.MethodName) method_4_code (1 : Nat) (Option.some Jvm.ClassFile.FieldType.boolean)).before a0 Z = true := hw _ (List.mem_of_getElem? (i := 10) rfl)
theorem tw11 {Z : State} {a0 : Array Value} (hw : ∀ d ∈ tables_1, d.before a0 Z = true) : (Jvm.Cond.methodLink "com/example/waymark/waymark/model/MatchingRuleHasSubstringsPinLaw" (18 : Nat) ({ cls := "com/example/waymark/waymark/model/MatchingRule", name := "hasSubstrings", desc := "()Z" } : Jvm.MethodName)).before a0 Z = true := hw _ (List.mem_of_getElem? (i := 11) rfl)
theorem tw12 {Z : State} {a0 : Array Value} (hw : ∀ d ∈ tables_1, d.before a0 Z = true) : (Jvm.Cond.declares ({ cls := "com/example/waymark/waymark/model/MatchingRule", name := "hasSubstrings", desc := "()Z" } : Jvm.MethodName)).before a0 Z = true := hw _ (List.mem_of_getElem? (i := 12) rfl)
theorem tw13 {Z : State} {a0 : Array Value} (hw : ∀ d ∈ tables_1, d.before a0 Z = true) : (Jvm.Cond.instanceMethod ({ cls := "com/example/waymark/waymark/model/MatchingRule", name := "hasSubstrings", desc := "()Z" } : Jvm.MethodName)).before a0 Z = true := hw _ (List.mem_of_getElem? (i := 13) rfl)
theorem tw14 {Z : State} {a0 : Array Value} (hw : ∀ d ∈ tables_1, d.before a0 Z = true) : (Jvm.Cond.selects "com/example/waymark/waymark/model/MatchingRule" ({ cls := "com/example/waymark/waymark/model/MatchingRule", name := "hasSubstrings", desc := "()Z" } : Jvm.MethodName) ({ cls := "com/example/waymark/waymark/model/MatchingRule", name := "hasSubstrings", desc := "()Z" } : Jvm.MethodName)).before a0 Z = true := hw _ (List.mem_of_getElem? (i := 14) rfl)
theorem tw15 {Z : State} {a0 : Array Value} (hw : ∀ d ∈ tables_1, d.before a0 Z = true) : (Jvm.Cond.code ({ cls := "com/example/waymark/waymark/model/MatchingRule", name := "hasSubstrings", desc := "()Z" } : Jvm.MethodName) prog_62_method_13_code (1 : Nat) (Option.some Jvm.ClassFile.FieldType.boolean)).before a0 Z = true := hw _ (List.mem_of_getElem? (i := 15) rfl)
theorem tw16 {Z : State} {a0 : Array Value} (hw : ∀ d ∈ tables_1, d.before a0 Z = true) : (Jvm.Cond.fieldLink "com/example/waymark/waymark/model/MatchingRule" (81 : Nat) "com/example/waymark/waymark/model/MatchingRule" "substringsName" "Ljava/lang/String;").before a0 Z = true := hw _ (List.mem_of_getElem? (i := 16) rfl)
theorem tw18 {Z : State} {a0 : Array Value} (hw : ∀ d ∈ tables_1, d.before a0 Z = true) : (Jvm.Cond.fieldLink "com/example/waymark/waymark/model/MatchingRuleHasSubstringsPinLaw" (34 : Nat) "com/example/waymark/waymark/model/MatchingRule" "NUMERIC_STRING" "Lcom/example/waymark/waymark/model/MatchingRule;").before a0 Z = true := hw _ (List.mem_of_getElem? (i := 18) rfl)
theorem tw19 {Z : State} {a0 : Array Value} (hw : ∀ d ∈ tables_1, d.before a0 Z = true) : (Jvm.Cond.laysStatic "com/example/waymark/waymark/model/MatchingRule" "NUMERIC_STRING" "Lcom/example/waymark/waymark/model/MatchingRule;").before a0 Z = true := hw _ (List.mem_of_getElem? (i := 19) rfl)
theorem tw20 {Z : State} {a0 : Array Value} (hw : ∀ d ∈ tables_1, d.before a0 Z = true) : (Jvm.Cond.fieldLink "com/example/waymark/waymark/model/MatchingRuleHasSubstringsPinLaw" (31 : Nat) "com/example/waymark/waymark/model/MatchingRule" "CASE_IGNORE_IA5" "Lcom/example/waymark/waymark/model/MatchingRule;").before a0 Z = true := hw _ (List.mem_of_getElem? (i := 20) rfl)
theorem tw21 {Z : State} {a0 : Array Value} (hw : ∀ d ∈ tables_1, d.before a0 Z = true) : (Jvm.Cond.laysStatic "com/example/waymark/waymark/model/MatchingRule" "CASE_IGNORE_IA5" "Lcom/example/waymark/waymark/model/MatchingRule;").before a0 Z = true := hw _ (List.mem_of_getElem? (i := 21) rfl)
theorem tw22 {Z : State} {a0 : Array Value} (hw : ∀ d ∈ tables_1, d.before a0 Z = true) : (Jvm.Cond.fieldLink "com/example/waymark/waymark/model/MatchingRuleHasSubstringsPinLaw" (46 : Nat) "com/example/waymark/waymark/model/MatchingRule" "OCTET_STRING" "Lcom/example/waymark/waymark/model/MatchingRule;").before a0 Z = true := hw _ (List.mem_of_getElem? (i := 22) rfl)
theorem tw23 {Z : State} {a0 : Array Value} (hw : ∀ d ∈ tables_1, d.before a0 Z = true) : (Jvm.Cond.laysStatic "com/example/waymark/waymark/model/MatchingRule" "OCTET_STRING" "Lcom/example/waymark/waymark/model/MatchingRule;").before a0 Z = true := hw _ (List.mem_of_getElem? (i := 23) rfl)
theorem tw24 {Z : State} {a0 : Array Value} (hw : ∀ d ∈ tables_1, d.before a0 Z = true) : (Jvm.Cond.fieldLink "com/example/waymark/waymark/model/MatchingRuleHasSubstringsPinLaw" (58 : Nat) "com/example/waymark/waymark/model/MatchingRule" "OBJECT_IDENTIFIER_FIRST_COMPONENT" "Lcom/example/waymark/waymark/model/MatchingRule;").before a0 Z = true := hw _ (List.mem_of_getElem? (i := 24) rfl)
theorem tw25 {Z : State} {a0 : Array Value} (hw : ∀ d ∈ tables_1, d.before a0 Z = true) : (Jvm.Cond.laysStatic "com/example/waymark/waymark/model/MatchingRule" "OBJECT_IDENTIFIER_FIRST_COMPONENT" "Lcom/example/waymark/waymark/model/MatchingRule;").before a0 Z = true := hw _ (List.mem_of_getElem? (i := 25) rfl)
theorem tw26 {Z : State} {a0 : Array Value} (hw : ∀ d ∈ tables_1, d.before a0 Z = true) : (Jvm.Cond.fieldLink "com/example/waymark/waymark/model/MatchingRuleHasSubstringsPinLaw" (37 : Nat) "com/example/waymark/waymark/model/MatchingRule" "CASE_IGNORE_LIST" "Lcom/example/waymark/waymark/model/MatchingRule;").before a0 Z = true := hw _ (List.mem_of_getElem? (i := 26) rfl)
theorem tw27 {Z : State} {a0 : Array Value} (hw : ∀ d ∈ tables_1, d.before a0 Z = true) : (Jvm.Cond.laysStatic "com/example/waymark/waymark/model/MatchingRule" "CASE_IGNORE_LIST" "Lcom/example/waymark/waymark/model/MatchingRule;").before a0 Z = true := hw _ (List.mem_of_getElem? (i := 27) rfl)
theorem tw28 {Z : State} {a0 : Array Value} (hw : ∀ d ∈ tables_1, d.before a0 Z = true) : (Jvm.Cond.fieldLink "com/example/waymark/waymark/model/MatchingRuleHasSubstringsPinLaw" (49 : Nat) "com/example/waymark/waymark/model/MatchingRule" "DISTINGUISHED_NAME" "Lcom/example/waymark/waymark/model/MatchingRule;").before a0 Z = true := hw _ (List.mem_of_getElem? (i := 28) rfl)
theorem tw29 {Z : State} {a0 : Array Value} (hw : ∀ d ∈ tables_1, d.before a0 Z = true) : (Jvm.Cond.laysStatic "com/example/waymark/waymark/model/MatchingRule" "DISTINGUISHED_NAME" "Lcom/example/waymark/waymark/model/MatchingRule;").before a0 Z = true := hw _ (List.mem_of_getElem? (i := 29) rfl)
theorem tw30 {Z : State} {a0 : Array Value} (hw : ∀ d ∈ tables_1, d.before a0 Z = true) : (Jvm.Cond.fieldLink "com/example/waymark/waymark/model/MatchingRuleHasSubstringsPinLaw" (28 : Nat) "com/example/waymark/waymark/model/MatchingRule" "CASE_EXACT" "Lcom/example/waymark/waymark/model/MatchingRule;").before a0 Z = true := hw _ (List.mem_of_getElem? (i := 30) rfl)
theorem tw31 {Z : State} {a0 : Array Value} (hw : ∀ d ∈ tables_1, d.before a0 Z = true) : (Jvm.Cond.laysStatic "com/example/waymark/waymark/model/MatchingRule" "CASE_EXACT" "Lcom/example/waymark/waymark/model/MatchingRule;").before a0 Z = true := hw _ (List.mem_of_getElem? (i := 31) rfl)
theorem tw32 {Z : State} {a0 : Array Value} (hw : ∀ d ∈ tables_1, d.before a0 Z = true) : (Jvm.Cond.fieldLink "com/example/waymark/waymark/model/MatchingRuleHasSubstringsPinLaw" (55 : Nat) "com/example/waymark/waymark/model/MatchingRule" "INTEGER_FIRST_COMPONENT" "Lcom/example/waymark/waymark/model/MatchingRule;").before a0 Z = true := hw _ (List.mem_of_getElem? (i := 32) rfl)
theorem tw33 {Z : State} {a0 : Array Value} (hw : ∀ d ∈ tables_1, d.before a0 Z = true) : (Jvm.Cond.laysStatic "com/example/waymark/waymark/model/MatchingRule" "INTEGER_FIRST_COMPONENT" "Lcom/example/waymark/waymark/model/MatchingRule;").before a0 Z = true := hw _ (List.mem_of_getElem? (i := 33) rfl)
theorem tw34 {Z : State} {a0 : Array Value} (hw : ∀ d ∈ tables_1, d.before a0 Z = true) : (Jvm.Cond.fieldLink "com/example/waymark/waymark/model/MatchingRuleHasSubstringsPinLaw" (52 : Nat) "com/example/waymark/waymark/model/MatchingRule" "UNIQUE_MEMBER" "Lcom/example/waymark/waymark/model/MatchingRule;").before a0 Z = true := hw _ (List.mem_of_getElem? (i := 34) rfl)
theorem tw35 {Z : State} {a0 : Array Value} (hw : ∀ d ∈ tables_1, d.before a0 Z = true) : (Jvm.Cond.laysStatic "com/example/waymark/waymark/model/MatchingRule" "UNIQUE_MEMBER" "Lcom/example/waymark/waymark/model/MatchingRule;").before a0 Z = true := hw _ (List.mem_of_getElem? (i := 35) rfl)
theorem tw36 {Z : State} {a0 : Array Value} (hw : ∀ d ∈ tables_1, d.before a0 Z = true) : (Jvm.Cond.fieldLink "com/example/waymark/waymark/model/MatchingRuleHasSubstringsPinLaw" (43 : Nat) "com/example/waymark/waymark/model/MatchingRule" "OBJECT_IDENTIFIER" "Lcom/example/waymark/waymark/model/MatchingRule;").before a0 Z = true := hw _ (List.mem_of_getElem? (i := 36) rfl)
theorem tw37 {Z : State} {a0 : Array Value} (hw : ∀ d ∈ tables_1, d.before a0 Z = true) : (Jvm.Cond.laysStatic "com/example/waymark/waymark/model/MatchingRule" "OBJECT_IDENTIFIER" "Lcom/example/waymark/waymark/model/MatchingRule;").before a0 Z = true := hw _ (List.mem_of_getElem? (i := 37) rfl)
theorem tw38 {Z : State} {a0 : Array Value} (hw : ∀ d ∈ tables_1, d.before a0 Z = true) : (Jvm.Cond.fieldLink "com/example/waymark/waymark/model/MatchingRuleHasSubstringsPinLaw" (40 : Nat) "com/example/waymark/waymark/model/MatchingRule" "TELEPHONE_NUMBER" "Lcom/example/waymark/waymark/model/MatchingRule;").before a0 Z = true := hw _ (List.mem_of_getElem? (i := 38) rfl)
theorem tw39 {Z : State} {a0 : Array Value} (hw : ∀ d ∈ tables_1, d.before a0 Z = true) : (Jvm.Cond.laysStatic "com/example/waymark/waymark/model/MatchingRule" "TELEPHONE_NUMBER" "Lcom/example/waymark/waymark/model/MatchingRule;").before a0 Z = true := hw _ (List.mem_of_getElem? (i := 39) rfl)
abbrev mn0 : MethodName := ⟨"com/example/waymark/waymark/model/MatchingRuleHasSubstringsPinLaw", "rule", "(I)Lcom/example/waymark/waymark/model/MatchingRule;"⟩
abbrev mn1 : MethodName := ⟨"com/example/waymark/waymark/model/MatchingRuleHasSubstringsPinLaw", "documentedSubstrings", "(I)Z"⟩
abbrev mn2 : MethodName := ⟨"com/example/waymark/waymark/model/MatchingRule", "hasSubstrings", "()Z"⟩
theorem pd_2 : parseMethodDescriptor "()Z" = some ⟨[], some .boolean⟩ := by decide +kernel
theorem pd_1 : parseMethodDescriptor "(I)Z" = some ⟨[.int], some .boolean⟩ := by decide +kernel
theorem pd_0 : parseMethodDescriptor "(I)Lcom/example/waymark/waymark/model/MatchingRule;" = some ⟨[.int], some (.object "com/example/waymark/waymark/model/MatchingRule")⟩ := by decide +kernel
def OwnF (Z : State) (h : Heap) (w_CASE_IGNORE w_NUMERIC_STRING w_CASE_IGNORE_IA5 w_OCTET_STRING w_OBJECT_IDENTIFIER_FIRST_COMPONENT w_CASE_IGNORE_LIST w_DISTINGUISHED_NAME w_CASE_EXACT w_INTEGER_FIRST_COMPONENT w_UNIQUE_MEMBER w_OBJECT_IDENTIFIER w_TELEPHONE_NUMBER w_CASE_IGNORE_substringsName w_NUMERIC_STRING_substringsName w_CASE_IGNORE_IA5_substringsName w_CASE_IGNORE_LIST_substringsName w_CASE_EXACT_substringsName w_TELEPHONE_NUMBER_substringsName : Addr) : Prop := Sta Z h "com/example/waymark/waymark/model/MatchingRule" "CASE_IGNORE" "Lcom/example/waymark/waymark/model/MatchingRule;" (.ref w_CASE_IGNORE) ∧
  Exa Z h w_CASE_IGNORE "com/example/waymark/waymark/model/MatchingRule" ∧
  Sta Z h "com/example/waymark/waymark/model/MatchingRule" "NUMERIC_STRING" "Lcom/example/waymark/waymark/model/MatchingRule;" (.ref w_NUMERIC_STRING) ∧
  Exa Z h w_NUMERIC_STRING "com/example/waymark/waymark/model/MatchingRule" ∧
  Sta Z h "com/example/waymark/waymark/model/MatchingRule" "CASE_IGNORE_IA5" "Lcom/example/waymark/waymark/model/MatchingRule;" (.ref w_CASE_IGNORE_IA5) ∧
  Exa Z h w_CASE_IGNORE_IA5 "com/example/waymark/waymark/model/MatchingRule" ∧
  Sta Z h "com/example/waymark/waymark/model/MatchingRule" "OCTET_STRING" "Lcom/example/waymark/waymark/model/MatchingRule;" (.ref w_OCTET_STRING) ∧
  Exa Z h w_OCTET_STRING "com/example/waymark/waymark/model/MatchingRule" ∧
  Sta Z h "com/example/waymark/waymark/model/MatchingRule" "OBJECT_IDENTIFIER_FIRST_COMPONENT" "Lcom/example/waymark/waymark/model/MatchingRule;" (.ref w_OBJECT_IDENTIFIER_FIRST_COMPONENT) ∧
  Exa Z h w_OBJECT_IDENTIFIER_FIRST_COMPONENT "com/example/waymark/waymark/model/MatchingRule" ∧
  Sta Z h "com/example/waymark/waymark/model/MatchingRule" "CASE_IGNORE_LIST" "Lcom/example/waymark/waymark/model/MatchingRule;" (.ref w_CASE_IGNORE_LIST) ∧
  Exa Z h w_CASE_IGNORE_LIST "com/example/waymark/waymark/model/MatchingRule" ∧
  Sta Z h "com/example/waymark/waymark/model/MatchingRule" "DISTINGUISHED_NAME" "Lcom/example/waymark/waymark/model/MatchingRule;" (.ref w_DISTINGUISHED_NAME) ∧
  Exa Z h w_DISTINGUISHED_NAME "com/example/waymark/waymark/model/MatchingRule" ∧
  Sta Z h "com/example/waymark/waymark/model/MatchingRule" "CASE_EXACT" "Lcom/example/waymark/waymark/model/MatchingRule;" (.ref w_CASE_EXACT) ∧
  Exa Z h w_CASE_EXACT "com/example/waymark/waymark/model/MatchingRule" ∧
  Sta Z h "com/example/waymark/waymark/model/MatchingRule" "INTEGER_FIRST_COMPONENT" "Lcom/example/waymark/waymark/model/MatchingRule;" (.ref w_INTEGER_FIRST_COMPONENT) ∧
  Exa Z h w_INTEGER_FIRST_COMPONENT "com/example/waymark/waymark/model/MatchingRule" ∧
  Sta Z h "com/example/waymark/waymark/model/MatchingRule" "UNIQUE_MEMBER" "Lcom/example/waymark/waymark/model/MatchingRule;" (.ref w_UNIQUE_MEMBER) ∧
  Exa Z h w_UNIQUE_MEMBER "com/example/waymark/waymark/model/MatchingRule" ∧
  Sta Z h "com/example/waymark/waymark/model/MatchingRule" "OBJECT_IDENTIFIER" "Lcom/example/waymark/waymark/model/MatchingRule;" (.ref w_OBJECT_IDENTIFIER) ∧
  Exa Z h w_OBJECT_IDENTIFIER "com/example/waymark/waymark/model/MatchingRule" ∧
  Sta Z h "com/example/waymark/waymark/model/MatchingRule" "TELEPHONE_NUMBER" "Lcom/example/waymark/waymark/model/MatchingRule;" (.ref w_TELEPHONE_NUMBER) ∧
  Exa Z h w_TELEPHONE_NUMBER "com/example/waymark/waymark/model/MatchingRule" ∧
  Fld Z h w_CASE_IGNORE "com/example/waymark/waymark/model/MatchingRule" "substringsName" "Ljava/lang/String;" (.ref w_CASE_IGNORE_substringsName) ∧
  Exa Z h w_CASE_IGNORE_substringsName "java/lang/String" ∧
  Fld Z h w_NUMERIC_STRING "com/example/waymark/waymark/model/MatchingRule" "substringsName" "Ljava/lang/String;" (.ref w_NUMERIC_STRING_substringsName) ∧
  Exa Z h w_NUMERIC_STRING_substringsName "java/lang/String" ∧
  Fld Z h w_CASE_IGNORE_IA5 "com/example/waymark/waymark/model/MatchingRule" "substringsName" "Ljava/lang/String;" (.ref w_CASE_IGNORE_IA5_substringsName) ∧
  Exa Z h w_CASE_IGNORE_IA5_substringsName "java/lang/String" ∧
  Fld Z h w_OCTET_STRING "com/example/waymark/waymark/model/MatchingRule" "substringsName" "Ljava/lang/String;" .null ∧
  Fld Z h w_OBJECT_IDENTIFIER_FIRST_COMPONENT "com/example/waymark/waymark/model/MatchingRule" "substringsName" "Ljava/lang/String;" .null ∧
  Fld Z h w_CASE_IGNORE_LIST "com/example/waymark/waymark/model/MatchingRule" "substringsName" "Ljava/lang/String;" (.ref w_CASE_IGNORE_LIST_substringsName) ∧
  Exa Z h w_CASE_IGNORE_LIST_substringsName "java/lang/String" ∧
  Fld Z h w_DISTINGUISHED_NAME "com/example/waymark/waymark/model/MatchingRule" "substringsName" "Ljava/lang/String;" .null ∧
  Fld Z h w_CASE_EXACT "com/example/waymark/waymark/model/MatchingRule" "substringsName" "Ljava/lang/String;" (.ref w_CASE_EXACT_substringsName) ∧
  Exa Z h w_CASE_EXACT_substringsName "java/lang/String" ∧
  Fld Z h w_INTEGER_FIRST_COMPONENT "com/example/waymark/waymark/model/MatchingRule" "substringsName" "Ljava/lang/String;" .null ∧
  Fld Z h w_UNIQUE_MEMBER "com/example/waymark/waymark/model/MatchingRule" "substringsName" "Ljava/lang/String;" .null ∧
  Fld Z h w_OBJECT_IDENTIFIER "com/example/waymark/waymark/model/MatchingRule" "substringsName" "Ljava/lang/String;" .null ∧
  Fld Z h w_TELEPHONE_NUMBER "com/example/waymark/waymark/model/MatchingRule" "substringsName" "Ljava/lang/String;" (.ref w_TELEPHONE_NUMBER_substringsName) ∧
  Exa Z h w_TELEPHONE_NUMBER_substringsName "java/lang/String"
theorem OwnF.ext {Z : State} {h h' : Heap} {w_CASE_IGNORE w_NUMERIC_STRING w_CASE_IGNORE_IA5 w_OCTET_STRING w_OBJECT_IDENTIFIER_FIRST_COMPONENT w_CASE_IGNORE_LIST w_DISTINGUISHED_NAME w_CASE_EXACT w_INTEGER_FIRST_COMPONENT w_UNIQUE_MEMBER w_OBJECT_IDENTIFIER w_TELEPHONE_NUMBER w_CASE_IGNORE_substringsName w_NUMERIC_STRING_substringsName w_CASE_IGNORE_IA5_substringsName w_CASE_IGNORE_LIST_substringsName w_CASE_EXACT_substringsName w_TELEPHONE_NUMBER_substringsName : Addr} (E : Ext h h') (F : OwnF Z h w_CASE_IGNORE w_NUMERIC_STRING w_CASE_IGNORE_IA5 w_OCTET_STRING w_OBJECT_IDENTIFIER_FIRST_COMPONENT w_CASE_IGNORE_LIST w_DISTINGUISHED_NAME w_CASE_EXACT w_INTEGER_FIRST_COMPONENT w_UNIQUE_MEMBER w_OBJECT_IDENTIFIER w_TELEPHONE_NUMBER w_CASE_IGNORE_substringsName w_NUMERIC_STRING_substringsName w_CASE_IGNORE_IA5_substringsName w_CASE_IGNORE_LIST_substringsName w_CASE_EXACT_substringsName w_TELEPHONE_NUMBER_substringsName) : OwnF Z h' w_CASE_IGNORE w_NUMERIC_STRING w_CASE_IGNORE_IA5 w_OCTET_STRING w_OBJECT_IDENTIFIER_FIRST_COMPONENT w_CASE_IGNORE_LIST w_DISTINGUISHED_NAME w_CASE_EXACT w_INTEGER_FIRST_COMPONENT w_UNIQUE_MEMBER w_OBJECT_IDENTIFIER w_TELEPHONE_NUMBER w_CASE_IGNORE_substringsName w_NUMERIC_STRING_substringsName w_CASE_IGNORE_IA5_substringsName w_CASE_IGNORE_LIST_substringsName w_CASE_EXACT_substringsName w_TELEPHONE_NUMBER_substringsName := by
  obtain ⟨S_CASE_IGNORE, E_CASE_IGNORE, S_NUMERIC_STRING, E_NUMERIC_STRING, S_CASE_IGNORE_IA5, E_CASE_IGNORE_IA5, S_OCTET_STRING, E_OCTET_STRING, S_OBJECT_IDENTIFIER_FIRST_COMPONENT, E_OBJECT_IDENTIFIER_FIRST_COMPONENT, S_CASE_IGNORE_LIST, E_CASE_IGNORE_LIST, S_DISTINGUISHED_NAME, E_DISTINGUISHED_NAME, S_CASE_EXACT, E_CASE_EXACT, S_INTEGER_FIRST_COMPONENT, E_INTEGER_FIRST_COMPONENT, S_UNIQUE_MEMBER, E_UNIQUE_MEMBER, S_OBJECT_IDENTIFIER, E_OBJECT_IDENTIFIER, S_TELEPHONE_NUMBER, E_TELEPHONE_NUMBER, F_CASE_IGNORE_substringsName, E_CASE_IGNORE_substringsName, F_NUMERIC_STRING_substringsName, E_NUMERIC_STRING_substringsName, F_CASE_IGNORE_IA5_substringsName, E_CASE_IGNORE_IA5_substringsName, F_OCTET_STRING_substringsName, F_OBJECT_IDENTIFIER_FIRST_COMPONENT_substringsName, F_CASE_IGNORE_LIST_substringsName, E_CASE_IGNORE_LIST_substringsName, F_DISTINGUISHED_NAME_substringsName, F_CASE_EXACT_substringsName, E_CASE_EXACT_substringsName, F_INTEGER_FIRST_COMPONENT_substringsName, F_UNIQUE_MEMBER_substringsName, F_OBJECT_IDENTIFIER_substringsName, F_TELEPHONE_NUMBER_substringsName, E_TELEPHONE_NUMBER_substringsName⟩ := F
  exact ⟨S_CASE_IGNORE.ext E, E_CASE_IGNORE.ext E, S_NUMERIC_STRING.ext E, E_NUMERIC_STRING.ext E, S_CASE_IGNORE_IA5.ext E, E_CASE_IGNORE_IA5.ext E, S_OCTET_STRING.ext E, E_OCTET_STRING.ext E, S_OBJECT_IDENTIFIER_FIRST_COMPONENT.ext E, E_OBJECT_IDENTIFIER_FIRST_COMPONENT.ext E, S_CASE_IGNORE_LIST.ext E, E_CASE_IGNORE_LIST.ext E, S_DISTINGUISHED_NAME.ext E, E_DISTINGUISHED_NAME.ext E, S_CASE_EXACT.ext E, E_CASE_EXACT.ext E, S_INTEGER_FIRST_COMPONENT.ext E, E_INTEGER_FIRST_COMPONENT.ext E, S_UNIQUE_MEMBER.ext E, E_UNIQUE_MEMBER.ext E, S_OBJECT_IDENTIFIER.ext E, E_OBJECT_IDENTIFIER.ext E, S_TELEPHONE_NUMBER.ext E, E_TELEPHONE_NUMBER.ext E, F_CASE_IGNORE_substringsName.ext E, E_CASE_IGNORE_substringsName.ext E, F_NUMERIC_STRING_substringsName.ext E, E_NUMERIC_STRING_substringsName.ext E, F_CASE_IGNORE_IA5_substringsName.ext E, E_CASE_IGNORE_IA5_substringsName.ext E, F_OCTET_STRING_substringsName.ext E, F_OBJECT_IDENTIFIER_FIRST_COMPONENT_substringsName.ext E, F_CASE_IGNORE_LIST_substringsName.ext E, E_CASE_IGNORE_LIST_substringsName.ext E, F_DISTINGUISHED_NAME_substringsName.ext E, F_CASE_EXACT_substringsName.ext E, E_CASE_EXACT_substringsName.ext E, F_INTEGER_FIRST_COMPONENT_substringsName.ext E, F_UNIQUE_MEMBER_substringsName.ext E, F_OBJECT_IDENTIFIER_substringsName.ext E, F_TELEPHONE_NUMBER_substringsName.ext E, E_TELEPHONE_NUMBER_substringsName.ext E⟩
theorem own_rng12 {v : Int32} (h0 : 0 ≤ v.toInt) (h1 : v.toInt < 12) : v = 0 ∨ v = 1 ∨ v = 2 ∨ v = 3 ∨ v = 4 ∨ v = 5 ∨ v = 6 ∨ v = 7 ∨ v = 8 ∨ v = 9 ∨ v = 10 ∨ v = 11 := by
  rcases (by omega : v.toInt = 0 ∨ v.toInt = 1 ∨ v.toInt = 2 ∨ v.toInt = 3 ∨ v.toInt = 4 ∨ v.toInt = 5 ∨ v.toInt = 6 ∨ v.toInt = 7 ∨ v.toInt = 8 ∨ v.toInt = 9 ∨ v.toInt = 10 ∨ v.toInt = 11) with h | h | h | h | h | h | h | h | h | h | h | h
  · exact Or.inl (Int32.toInt_inj.mp (h.trans (by decide)))
  · exact Or.inr (Or.inl (Int32.toInt_inj.mp (h.trans (by decide))))
  · exact Or.inr (Or.inr (Or.inl (Int32.toInt_inj.mp (h.trans (by decide)))))
  · exact Or.inr (Or.inr (Or.inr (Or.inl (Int32.toInt_inj.mp (h.trans (by decide))))))
  · exact Or.inr (Or.inr (Or.inr (Or.inr (Or.inl (Int32.toInt_inj.mp (h.trans (by decide)))))))
  · exact Or.inr (Or.inr (Or.inr (Or.inr (Or.inr (Or.inl (Int32.toInt_inj.mp (h.trans (by decide))))))))
  · exact Or.inr (Or.inr (Or.inr (Or.inr (Or.inr (Or.inr (Or.inl (Int32.toInt_inj.mp (h.trans (by decide)))))))))
  · exact Or.inr (Or.inr (Or.inr (Or.inr (Or.inr (Or.inr (Or.inr (Or.inl (Int32.toInt_inj.mp (h.trans (by decide))))))))))
  · exact Or.inr (Or.inr (Or.inr (Or.inr (Or.inr (Or.inr (Or.inr (Or.inr (Or.inl (Int32.toInt_inj.mp (h.trans (by decide)))))))))))
  · exact Or.inr (Or.inr (Or.inr (Or.inr (Or.inr (Or.inr (Or.inr (Or.inr (Or.inr (Or.inl (Int32.toInt_inj.mp (h.trans (by decide))))))))))))
  · exact Or.inr (Or.inr (Or.inr (Or.inr (Or.inr (Or.inr (Or.inr (Or.inr (Or.inr (Or.inr (Or.inl (Int32.toInt_inj.mp (h.trans (by decide)))))))))))))
  · exact Or.inr (Or.inr (Or.inr (Or.inr (Or.inr (Or.inr (Or.inr (Or.inr (Or.inr (Or.inr (Or.inr ((Int32.toInt_inj.mp (h.trans (by decide))))))))))))))
theorem own_rem12 (x : Int32) : (x &&& 2147483647) % 12 = 0 ∨ (x &&& 2147483647) % 12 = 1 ∨ (x &&& 2147483647) % 12 = 2 ∨ (x &&& 2147483647) % 12 = 3 ∨ (x &&& 2147483647) % 12 = 4 ∨ (x &&& 2147483647) % 12 = 5 ∨ (x &&& 2147483647) % 12 = 6 ∨ (x &&& 2147483647) % 12 = 7 ∨ (x &&& 2147483647) % 12 = 8 ∨ (x &&& 2147483647) % 12 = 9 ∨ (x &&& 2147483647) % 12 = 10 ∨ (x &&& 2147483647) % 12 = 11 := by
  have e := c_mask x 2147483647 31 (by decide) (by decide)
  have e2 := (c_irem (x &&& 2147483647) 12 12 (by decide)).1 (by rw [e]; omega)
  exact own_rng12 (by rw [e2]; omega) (by rw [e2]; omega)
theorem d1_0 : decode method_3_code 0 = .ok (.iload_n 0, 1) := by decide +kernel
theorem d1_1 : decode method_3_code 1 = .ok (.ifCond .ne 7, 3) := by decide +kernel
theorem d1_4 : decode method_3_code 4 = .ok (.getstatic 24, 3) := by decide +kernel
theorem d1_7 : decode method_3_code 7 = .ok (.areturn, 1) := by decide +kernel
theorem pn_rm1_0 : plainName "com/example/waymark/waymark/model/MatchingRuleHasSubstringsPinLaw" = true := by first | (simp [plainName, overriddenIn]; done) | decide +kernel
set_option maxRecDepth 65536 in
set_option maxHeartbeats 40000000 in
theorem rm1_0 (l : Launch) (Z : State) (a0 : Array Value) (hw : ∀ d ∈ tables_1, d.before a0 Z = true)  (w_CASE_IGNORE w_NUMERIC_STRING w_CASE_IGNORE_IA5 w_OCTET_STRING w_OBJECT_IDENTIFIER_FIRST_COMPONENT w_CASE_IGNORE_LIST w_DISTINGUISHED_NAME w_CASE_EXACT w_INTEGER_FIRST_COMPONENT w_UNIQUE_MEMBER w_OBJECT_IDENTIFIER w_TELEPHONE_NUMBER w_CASE_IGNORE_substringsName w_NUMERIC_STRING_substringsName w_CASE_IGNORE_IA5_substringsName w_CASE_IGNORE_LIST_substringsName w_CASE_EXACT_substringsName w_TELEPHONE_NUMBER_substringsName : Addr) (h0 : Heap) (F0 : OwnF Z h0 w_CASE_IGNORE w_NUMERIC_STRING w_CASE_IGNORE_IA5 w_OCTET_STRING w_OBJECT_IDENTIFIER_FIRST_COMPONENT w_CASE_IGNORE_LIST w_DISTINGUISHED_NAME w_CASE_EXACT w_INTEGER_FIRST_COMPONENT w_UNIQUE_MEMBER w_OBJECT_IDENTIFIER w_TELEPHONE_NUMBER w_CASE_IGNORE_substringsName w_NUMERIC_STRING_substringsName w_CASE_IGNORE_IA5_substringsName w_CASE_IGNORE_LIST_substringsName w_CASE_EXACT_substringsName w_TELEPHONE_NUMBER_substringsName)  :
    OMeets l Z mn0 method_3_code 1 (some (.object "com/example/waymark/waymark/model/MatchingRule")) [] ({ frames := 0, cells := 0, slots := 0, locals := 0 } : Room) #[(.int (0 : Int32))] h0 (PureQ (some (.ref w_CASE_IGNORE)) h0) := by
  refine OMeets.of pn_rm1_0 #[.val (.int (0 : Int32))] (fun m => by first | rfl | (simp [entryFrame, mkF, argsToLocals, Value.category, maxLocals]; done)) ?_
  intro p e s m below meth c s₁ B X0 e0
  have F := F0
  obtain ⟨S_CASE_IGNORE, E_CASE_IGNORE, S_NUMERIC_STRING, E_NUMERIC_STRING, S_CASE_IGNORE_IA5, E_CASE_IGNORE_IA5, S_OCTET_STRING, E_OCTET_STRING, S_OBJECT_IDENTIFIER_FIRST_COMPONENT, E_OBJECT_IDENTIFIER_FIRST_COMPONENT, S_CASE_IGNORE_LIST, E_CASE_IGNORE_LIST, S_DISTINGUISHED_NAME, E_DISTINGUISHED_NAME, S_CASE_EXACT, E_CASE_EXACT, S_INTEGER_FIRST_COMPONENT, E_INTEGER_FIRST_COMPONENT, S_UNIQUE_MEMBER, E_UNIQUE_MEMBER, S_OBJECT_IDENTIFIER, E_OBJECT_IDENTIFIER, S_TELEPHONE_NUMBER, E_TELEPHONE_NUMBER, F_CASE_IGNORE_substringsName, E_CASE_IGNORE_substringsName, F_NUMERIC_STRING_substringsName, E_NUMERIC_STRING_substringsName, F_CASE_IGNORE_IA5_substringsName, E_CASE_IGNORE_IA5_substringsName, F_OCTET_STRING_substringsName, F_OBJECT_IDENTIFIER_FIRST_COMPONENT_substringsName, F_CASE_IGNORE_LIST_substringsName, E_CASE_IGNORE_LIST_substringsName, F_DISTINGUISHED_NAME_substringsName, F_CASE_EXACT_substringsName, E_CASE_EXACT_substringsName, F_INTEGER_FIRST_COMPONENT_substringsName, F_UNIQUE_MEMBER_substringsName, F_OBJECT_IDENTIFIER_substringsName, F_TELEPHONE_NUMBER_substringsName, E_TELEPHONE_NUMBER_substringsName⟩ := F
  refine s_iloadN B X0 (pc' := 1) d1_0 rfl rfl ?_
  refine s_ifN B X0 (pc' := 4) d1_1 (by decide) rfl ?_
  refine s_getS B X0 (pc' := 7) e0 (tw5 hw) Via.refl S_CASE_IGNORE d1_4 rfl (fun T1 X1 e1 => ?_)
  exact r_ref B X1 (t := (.object "com/example/waymark/waymark/model/MatchingRule")) rfl rfl rfl rfl d1_7 ⟨rfl, rfl, e1⟩ (by decide) (by decide)
theorem d2_0 : decode method_4_code 0 = .ok (.iload_n 0, 1) := by decide +kernel
theorem d2_1 : decode method_4_code 1 = .ok (.ifCond .eq 28, 3) := by decide +kernel
theorem d2_29 : decode method_4_code 29 = .ok (.iconst 1, 1) := by decide +kernel
theorem d2_30 : decode method_4_code 30 = .ok (.ireturn, 1) := by decide +kernel
theorem pn_rm2_1 : plainName "com/example/waymark/waymark/model/MatchingRuleHasSubstringsPinLaw" = true := by first | (simp [plainName, overriddenIn]; done) | decide +kernel
set_option maxRecDepth 65536 in
set_option maxHeartbeats 40000000 in
theorem rm2_1 (l : Launch) (Z : State) (a0 : Array Value) (hw : ∀ d ∈ tables_1, d.before a0 Z = true)  (w_CASE_IGNORE w_NUMERIC_STRING w_CASE_IGNORE_IA5 w_OCTET_STRING w_OBJECT_IDENTIFIER_FIRST_COMPONENT w_CASE_IGNORE_LIST w_DISTINGUISHED_NAME w_CASE_EXACT w_INTEGER_FIRST_COMPONENT w_UNIQUE_MEMBER w_OBJECT_IDENTIFIER w_TELEPHONE_NUMBER w_CASE_IGNORE_substringsName w_NUMERIC_STRING_substringsName w_CASE_IGNORE_IA5_substringsName w_CASE_IGNORE_LIST_substringsName w_CASE_EXACT_substringsName w_TELEPHONE_NUMBER_substringsName : Addr) (h0 : Heap) (F0 : OwnF Z h0 w_CASE_IGNORE w_NUMERIC_STRING w_CASE_IGNORE_IA5 w_OCTET_STRING w_OBJECT_IDENTIFIER_FIRST_COMPONENT w_CASE_IGNORE_LIST w_DISTINGUISHED_NAME w_CASE_EXACT w_INTEGER_FIRST_COMPONENT w_UNIQUE_MEMBER w_OBJECT_IDENTIFIER w_TELEPHONE_NUMBER w_CASE_IGNORE_substringsName w_NUMERIC_STRING_substringsName w_CASE_IGNORE_IA5_substringsName w_CASE_IGNORE_LIST_substringsName w_CASE_EXACT_substringsName w_TELEPHONE_NUMBER_substringsName)  :
    OMeets l Z mn1 method_4_code 1 (some .boolean) [] ({ frames := 0, cells := 0, slots := 0, locals := 0 } : Room) #[(.int (0 : Int32))] h0 (PureQ (some (.int (1 : Int32))) h0) := by
  refine OMeets.of pn_rm2_1 #[.val (.int (0 : Int32))] (fun m => by first | rfl | (simp [entryFrame, mkF, argsToLocals, Value.category, maxLocals]; done)) ?_
  intro p e s m below meth c s₁ B X0 e0
  have F := F0
  obtain ⟨S_CASE_IGNORE, E_CASE_IGNORE, S_NUMERIC_STRING, E_NUMERIC_STRING, S_CASE_IGNORE_IA5, E_CASE_IGNORE_IA5, S_OCTET_STRING, E_OCTET_STRING, S_OBJECT_IDENTIFIER_FIRST_COMPONENT, E_OBJECT_IDENTIFIER_FIRST_COMPONENT, S_CASE_IGNORE_LIST, E_CASE_IGNORE_LIST, S_DISTINGUISHED_NAME, E_DISTINGUISHED_NAME, S_CASE_EXACT, E_CASE_EXACT, S_INTEGER_FIRST_COMPONENT, E_INTEGER_FIRST_COMPONENT, S_UNIQUE_MEMBER, E_UNIQUE_MEMBER, S_OBJECT_IDENTIFIER, E_OBJECT_IDENTIFIER, S_TELEPHONE_NUMBER, E_TELEPHONE_NUMBER, F_CASE_IGNORE_substringsName, E_CASE_IGNORE_substringsName, F_NUMERIC_STRING_substringsName, E_NUMERIC_STRING_substringsName, F_CASE_IGNORE_IA5_substringsName, E_CASE_IGNORE_IA5_substringsName, F_OCTET_STRING_substringsName, F_OBJECT_IDENTIFIER_FIRST_COMPONENT_substringsName, F_CASE_IGNORE_LIST_substringsName, E_CASE_IGNORE_LIST_substringsName, F_DISTINGUISHED_NAME_substringsName, F_CASE_EXACT_substringsName, E_CASE_EXACT_substringsName, F_INTEGER_FIRST_COMPONENT_substringsName, F_UNIQUE_MEMBER_substringsName, F_OBJECT_IDENTIFIER_substringsName, F_TELEPHONE_NUMBER_substringsName, E_TELEPHONE_NUMBER_substringsName⟩ := F
  refine s_iloadN B X0 (pc' := 1) d2_0 rfl rfl ?_
  refine s_ifY B X0 (pc' := 29) d2_1 (by decide) (by decide) (by decide) ?_
  refine s_iconst B X0 (pc' := 30) (v := (1 : Int32)) d2_29 rfl rfl ?_
  exact r_nar B X0 (t := .boolean) (by simp) rfl d2_30 ⟨rfl, rfl, e0⟩ (by decide) (by decide)
theorem d3_0 : decode prog_62_method_13_code 0 = .ok (.aload_n 0, 1) := by decide +kernel
theorem d3_1 : decode prog_62_method_13_code 1 = .ok (.getfield 81, 3) := by decide +kernel
theorem d3_4 : decode prog_62_method_13_code 4 = .ok (.ifnull 7, 3) := by decide +kernel
theorem d3_7 : decode prog_62_method_13_code 7 = .ok (.iconst 1, 1) := by decide +kernel
theorem d3_8 : decode prog_62_method_13_code 8 = .ok (.goto 4, 3) := by decide +kernel
theorem d3_12 : decode prog_62_method_13_code 12 = .ok (.ireturn, 1) := by decide +kernel
theorem pn_rm3_2 : plainName "com/example/waymark/waymark/model/MatchingRule" = true := by first | (simp [plainName, overriddenIn]; done) | decide +kernel
set_option maxRecDepth 65536 in
set_option maxHeartbeats 40000000 in
theorem rm3_2 (l : Launch) (Z : State) (a0 : Array Value) (hw : ∀ d ∈ tables_1, d.before a0 Z = true)  (w_CASE_IGNORE w_NUMERIC_STRING w_CASE_IGNORE_IA5 w_OCTET_STRING w_OBJECT_IDENTIFIER_FIRST_COMPONENT w_CASE_IGNORE_LIST w_DISTINGUISHED_NAME w_CASE_EXACT w_INTEGER_FIRST_COMPONENT w_UNIQUE_MEMBER w_OBJECT_IDENTIFIER w_TELEPHONE_NUMBER w_CASE_IGNORE_substringsName w_NUMERIC_STRING_substringsName w_CASE_IGNORE_IA5_substringsName w_CASE_IGNORE_LIST_substringsName w_CASE_EXACT_substringsName w_TELEPHONE_NUMBER_substringsName : Addr) (h0 : Heap) (F0 : OwnF Z h0 w_CASE_IGNORE w_NUMERIC_STRING w_CASE_IGNORE_IA5 w_OCTET_STRING w_OBJECT_IDENTIFIER_FIRST_COMPONENT w_CASE_IGNORE_LIST w_DISTINGUISHED_NAME w_CASE_EXACT w_INTEGER_FIRST_COMPONENT w_UNIQUE_MEMBER w_OBJECT_IDENTIFIER w_TELEPHONE_NUMBER w_CASE_IGNORE_substringsName w_NUMERIC_STRING_substringsName w_CASE_IGNORE_IA5_substringsName w_CASE_IGNORE_LIST_substringsName w_CASE_EXACT_substringsName w_TELEPHONE_NUMBER_substringsName)  :
    OMeets l Z mn2 prog_62_method_13_code 1 (some .boolean) [] ({ frames := 0, cells := 0, slots := 0, locals := 0 } : Room) #[(.ref w_CASE_IGNORE)] h0 (PureQ (some (.int (1 : Int32))) h0) := by
  refine OMeets.of pn_rm3_2 #[.val (.ref w_CASE_IGNORE)] (fun m => by first | rfl | (simp [entryFrame, mkF, argsToLocals, Value.category, maxLocals]; done)) ?_
  intro p e s m below meth c s₁ B X0 e0
  have F := F0
  obtain ⟨S_CASE_IGNORE, E_CASE_IGNORE, S_NUMERIC_STRING, E_NUMERIC_STRING, S_CASE_IGNORE_IA5, E_CASE_IGNORE_IA5, S_OCTET_STRING, E_OCTET_STRING, S_OBJECT_IDENTIFIER_FIRST_COMPONENT, E_OBJECT_IDENTIFIER_FIRST_COMPONENT, S_CASE_IGNORE_LIST, E_CASE_IGNORE_LIST, S_DISTINGUISHED_NAME, E_DISTINGUISHED_NAME, S_CASE_EXACT, E_CASE_EXACT, S_INTEGER_FIRST_COMPONENT, E_INTEGER_FIRST_COMPONENT, S_UNIQUE_MEMBER, E_UNIQUE_MEMBER, S_OBJECT_IDENTIFIER, E_OBJECT_IDENTIFIER, S_TELEPHONE_NUMBER, E_TELEPHONE_NUMBER, F_CASE_IGNORE_substringsName, E_CASE_IGNORE_substringsName, F_NUMERIC_STRING_substringsName, E_NUMERIC_STRING_substringsName, F_CASE_IGNORE_IA5_substringsName, E_CASE_IGNORE_IA5_substringsName, F_OCTET_STRING_substringsName, F_OBJECT_IDENTIFIER_FIRST_COMPONENT_substringsName, F_CASE_IGNORE_LIST_substringsName, E_CASE_IGNORE_LIST_substringsName, F_DISTINGUISHED_NAME_substringsName, F_CASE_EXACT_substringsName, E_CASE_EXACT_substringsName, F_INTEGER_FIRST_COMPONENT_substringsName, F_UNIQUE_MEMBER_substringsName, F_OBJECT_IDENTIFIER_substringsName, F_TELEPHONE_NUMBER_substringsName, E_TELEPHONE_NUMBER_substringsName⟩ := F
  refine s_aloadN B X0 (pc' := 1) d3_0 rfl rfl rfl ?_
  refine s_getF B X0 (pc' := 4) e0 (host := "") (Or.inl (tw16 hw)) Via.refl F_CASE_IGNORE_substringsName d3_1 rfl (fun T1 X1 e1 => ?_)
  refine s_ifnullN B X1 (pc' := 7) d3_4 rfl ?_
  refine s_iconst B X1 (pc' := 8) (v := (1 : Int32)) d3_7 rfl rfl ?_
  refine s_goto B X1 (pc' := 12) d3_8 (by decide) (by decide) ?_
  exact r_nar B X1 (t := .boolean) (by simp) rfl d3_12 ⟨rfl, rfl, e1⟩ (by decide) (by decide)
theorem d1_8 : decode method_3_code 8 = .ok (.iload_n 0, 1) := by decide +kernel
theorem d1_9 : decode method_3_code 9 = .ok (.iconst 1, 1) := by decide +kernel
theorem d1_10 : decode method_3_code 10 = .ok (.if_icmp .ne 7, 3) := by decide +kernel
theorem d1_13 : decode method_3_code 13 = .ok (.getstatic 28, 3) := by decide +kernel
theorem d1_16 : decode method_3_code 16 = .ok (.areturn, 1) := by decide +kernel
theorem pn_rm1_3 : plainName "com/example/waymark/waymark/model/MatchingRuleHasSubstringsPinLaw" = true := by first | (simp [plainName, overriddenIn]; done) | decide +kernel
set_option maxRecDepth 65536 in
set_option maxHeartbeats 40000000 in
theorem rm1_3 (l : Launch) (Z : State) (a0 : Array Value) (hw : ∀ d ∈ tables_1, d.before a0 Z = true)  (w_CASE_IGNORE w_NUMERIC_STRING w_CASE_IGNORE_IA5 w_OCTET_STRING w_OBJECT_IDENTIFIER_FIRST_COMPONENT w_CASE_IGNORE_LIST w_DISTINGUISHED_NAME w_CASE_EXACT w_INTEGER_FIRST_COMPONENT w_UNIQUE_MEMBER w_OBJECT_IDENTIFIER w_TELEPHONE_NUMBER w_CASE_IGNORE_substringsName w_NUMERIC_STRING_substringsName w_CASE_IGNORE_IA5_substringsName w_CASE_IGNORE_LIST_substringsName w_CASE_EXACT_substringsName w_TELEPHONE_NUMBER_substringsName : Addr) (h0 : Heap) (F0 : OwnF Z h0 w_CASE_IGNORE w_NUMERIC_STRING w_CASE_IGNORE_IA5 w_OCTET_STRING w_OBJECT_IDENTIFIER_FIRST_COMPONENT w_CASE_IGNORE_LIST w_DISTINGUISHED_NAME w_CASE_EXACT w_INTEGER_FIRST_COMPONENT w_UNIQUE_MEMBER w_OBJECT_IDENTIFIER w_TELEPHONE_NUMBER w_CASE_IGNORE_substringsName w_NUMERIC_STRING_substringsName w_CASE_IGNORE_IA5_substringsName w_CASE_IGNORE_LIST_substringsName w_CASE_EXACT_substringsName w_TELEPHONE_NUMBER_substringsName)  :
    OMeets l Z mn0 method_3_code 1 (some (.object "com/example/waymark/waymark/model/MatchingRule")) [] ({ frames := 0, cells := 0, slots := 0, locals := 0 } : Room) #[(.int (1 : Int32))] h0 (PureQ (some (.ref w_CASE_EXACT)) h0) := by
  refine OMeets.of pn_rm1_3 #[.val (.int (1 : Int32))] (fun m => by first | rfl | (simp [entryFrame, mkF, argsToLocals, Value.category, maxLocals]; done)) ?_
  intro p e s m below meth c s₁ B X0 e0
  have F := F0
  obtain ⟨S_CASE_IGNORE, E_CASE_IGNORE, S_NUMERIC_STRING, E_NUMERIC_STRING, S_CASE_IGNORE_IA5, E_CASE_IGNORE_IA5, S_OCTET_STRING, E_OCTET_STRING, S_OBJECT_IDENTIFIER_FIRST_COMPONENT, E_OBJECT_IDENTIFIER_FIRST_COMPONENT, S_CASE_IGNORE_LIST, E_CASE_IGNORE_LIST, S_DISTINGUISHED_NAME, E_DISTINGUISHED_NAME, S_CASE_EXACT, E_CASE_EXACT, S_INTEGER_FIRST_COMPONENT, E_INTEGER_FIRST_COMPONENT, S_UNIQUE_MEMBER, E_UNIQUE_MEMBER, S_OBJECT_IDENTIFIER, E_OBJECT_IDENTIFIER, S_TELEPHONE_NUMBER, E_TELEPHONE_NUMBER, F_CASE_IGNORE_substringsName, E_CASE_IGNORE_substringsName, F_NUMERIC_STRING_substringsName, E_NUMERIC_STRING_substringsName, F_CASE_IGNORE_IA5_substringsName, E_CASE_IGNORE_IA5_substringsName, F_OCTET_STRING_substringsName, F_OBJECT_IDENTIFIER_FIRST_COMPONENT_substringsName, F_CASE_IGNORE_LIST_substringsName, E_CASE_IGNORE_LIST_substringsName, F_DISTINGUISHED_NAME_substringsName, F_CASE_EXACT_substringsName, E_CASE_EXACT_substringsName, F_INTEGER_FIRST_COMPONENT_substringsName, F_UNIQUE_MEMBER_substringsName, F_OBJECT_IDENTIFIER_substringsName, F_TELEPHONE_NUMBER_substringsName, E_TELEPHONE_NUMBER_substringsName⟩ := F
  refine s_iloadN B X0 (pc' := 1) d1_0 rfl rfl ?_
  refine s_ifY B X0 (pc' := 8) d1_1 (by decide) (by decide) (by decide) ?_
  refine s_iloadN B X0 (pc' := 9) d1_8 rfl rfl ?_
  refine s_iconst B X0 (pc' := 10) (v := (1 : Int32)) d1_9 rfl rfl ?_
  refine s_icmpN B X0 (pc' := 13) d1_10 (by decide) rfl ?_
  refine s_getS B X0 (pc' := 16) e0 (tw30 hw) Via.refl S_CASE_EXACT d1_13 rfl (fun T1 X1 e1 => ?_)
  exact r_ref B X1 (t := (.object "com/example/waymark/waymark/model/MatchingRule")) rfl rfl rfl rfl d1_16 ⟨rfl, rfl, e1⟩ (by decide) (by decide)
theorem d2_4 : decode method_4_code 4 = .ok (.iload_n 0, 1) := by decide +kernel
theorem d2_5 : decode method_4_code 5 = .ok (.iconst 1, 1) := by decide +kernel
theorem d2_6 : decode method_4_code 6 = .ok (.if_icmp .eq 23, 3) := by decide +kernel
theorem pn_rm2_4 : plainName "com/example/waymark/waymark/model/MatchingRuleHasSubstringsPinLaw" = true := by first | (simp [plainName, overriddenIn]; done) | decide +kernel
set_option maxRecDepth 65536 in
set_option maxHeartbeats 40000000 in
theorem rm2_4 (l : Launch) (Z : State) (a0 : Array Value) (hw : ∀ d ∈ tables_1, d.before a0 Z = true)  (w_CASE_IGNORE w_NUMERIC_STRING w_CASE_IGNORE_IA5 w_OCTET_STRING w_OBJECT_IDENTIFIER_FIRST_COMPONENT w_CASE_IGNORE_LIST w_DISTINGUISHED_NAME w_CASE_EXACT w_INTEGER_FIRST_COMPONENT w_UNIQUE_MEMBER w_OBJECT_IDENTIFIER w_TELEPHONE_NUMBER w_CASE_IGNORE_substringsName w_NUMERIC_STRING_substringsName w_CASE_IGNORE_IA5_substringsName w_CASE_IGNORE_LIST_substringsName w_CASE_EXACT_substringsName w_TELEPHONE_NUMBER_substringsName : Addr) (h0 : Heap) (F0 : OwnF Z h0 w_CASE_IGNORE w_NUMERIC_STRING w_CASE_IGNORE_IA5 w_OCTET_STRING w_OBJECT_IDENTIFIER_FIRST_COMPONENT w_CASE_IGNORE_LIST w_DISTINGUISHED_NAME w_CASE_EXACT w_INTEGER_FIRST_COMPONENT w_UNIQUE_MEMBER w_OBJECT_IDENTIFIER w_TELEPHONE_NUMBER w_CASE_IGNORE_substringsName w_NUMERIC_STRING_substringsName w_CASE_IGNORE_IA5_substringsName w_CASE_IGNORE_LIST_substringsName w_CASE_EXACT_substringsName w_TELEPHONE_NUMBER_substringsName)  :
    OMeets l Z mn1 method_4_code 1 (some .boolean) [] ({ frames := 0, cells := 0, slots := 0, locals := 0 } : Room) #[(.int (1 : Int32))] h0 (PureQ (some (.int (1 : Int32))) h0) := by
  refine OMeets.of pn_rm2_4 #[.val (.int (1 : Int32))] (fun m => by first | rfl | (simp [entryFrame, mkF, argsToLocals, Value.category, maxLocals]; done)) ?_
  intro p e s m below meth c s₁ B X0 e0
  have F := F0
  obtain ⟨S_CASE_IGNORE, E_CASE_IGNORE, S_NUMERIC_STRING, E_NUMERIC_STRING, S_CASE_IGNORE_IA5, E_CASE_IGNORE_IA5, S_OCTET_STRING, E_OCTET_STRING, S_OBJECT_IDENTIFIER_FIRST_COMPONENT, E_OBJECT_IDENTIFIER_FIRST_COMPONENT, S_CASE_IGNORE_LIST, E_CASE_IGNORE_LIST, S_DISTINGUISHED_NAME, E_DISTINGUISHED_NAME, S_CASE_EXACT, E_CASE_EXACT, S_INTEGER_FIRST_COMPONENT, E_INTEGER_FIRST_COMPONENT, S_UNIQUE_MEMBER, E_UNIQUE_MEMBER, S_OBJECT_IDENTIFIER, E_OBJECT_IDENTIFIER, S_TELEPHONE_NUMBER, E_TELEPHONE_NUMBER, F_CASE_IGNORE_substringsName, E_CASE_IGNORE_substringsName, F_NUMERIC_STRING_substringsName, E_NUMERIC_STRING_substringsName, F_CASE_IGNORE_IA5_substringsName, E_CASE_IGNORE_IA5_substringsName, F_OCTET_STRING_substringsName, F_OBJECT_IDENTIFIER_FIRST_COMPONENT_substringsName, F_CASE_IGNORE_LIST_substringsName, E_CASE_IGNORE_LIST_substringsName, F_DISTINGUISHED_NAME_substringsName, F_CASE_EXACT_substringsName, E_CASE_EXACT_substringsName, F_INTEGER_FIRST_COMPONENT_substringsName, F_UNIQUE_MEMBER_substringsName, F_OBJECT_IDENTIFIER_substringsName, F_TELEPHONE_NUMBER_substringsName, E_TELEPHONE_NUMBER_substringsName⟩ := F
  refine s_iloadN B X0 (pc' := 1) d2_0 rfl rfl ?_
  refine s_ifN B X0 (pc' := 4) d2_1 (by decide) rfl ?_
  refine s_iloadN B X0 (pc' := 5) d2_4 rfl rfl ?_
  refine s_iconst B X0 (pc' := 6) (v := (1 : Int32)) d2_5 rfl rfl ?_
  refine s_icmpY B X0 (pc' := 29) d2_6 (by decide) (by decide) (by decide) ?_
  refine s_iconst B X0 (pc' := 30) (v := (1 : Int32)) d2_29 rfl rfl ?_
  exact r_nar B X0 (t := .boolean) (by simp) rfl d2_30 ⟨rfl, rfl, e0⟩ (by decide) (by decide)

theorem pn_rm3_5 : plainName "com/example/waymark/waymark/model/MatchingRule" = true := by first | (simp [plainName, overriddenIn]; done) | decide +kernel
set_option maxRecDepth 65536 in
set_option maxHeartbeats 40000000 in
theorem rm3_5 (l : Launch) (Z : State) (a0 : Array Value) (hw : ∀ d ∈ tables_1, d.before a0 Z = true)  (w_CASE_IGNORE w_NUMERIC_STRING w_CASE_IGNORE_IA5 w_OCTET_STRING w_OBJECT_IDENTIFIER_FIRST_COMPONENT w_CASE_IGNORE_LIST w_DISTINGUISHED_NAME w_CASE_EXACT w_INTEGER_FIRST_COMPONENT w_UNIQUE_MEMBER w_OBJECT_IDENTIFIER w_TELEPHONE_NUMBER w_CASE_IGNORE_substringsName w_NUMERIC_STRING_substringsName w_CASE_IGNORE_IA5_substringsName w_CASE_IGNORE_LIST_substringsName w_CASE_EXACT_substringsName w_TELEPHONE_NUMBER_substringsName : Addr) (h0 : Heap) (F0 : OwnF Z h0 w_CASE_IGNORE w_NUMERIC_STRING w_CASE_IGNORE_IA5 w_OCTET_STRING w_OBJECT_IDENTIFIER_FIRST_COMPONENT w_CASE_IGNORE_LIST w_DISTINGUISHED_NAME w_CASE_EXACT w_INTEGER_FIRST_COMPONENT w_UNIQUE_MEMBER w_OBJECT_IDENTIFIER w_TELEPHONE_NUMBER w_CASE_IGNORE_substringsName w_NUMERIC_STRING_substringsName w_CASE_IGNORE_IA5_substringsName w_CASE_IGNORE_LIST_substringsName w_CASE_EXACT_substringsName w_TELEPHONE_NUMBER_substringsName)  :
    OMeets l Z mn2 prog_62_method_13_code 1 (some .boolean) [] ({ frames := 0, cells := 0, slots := 0, locals := 0 } : Room) #[(.ref w_CASE_EXACT)] h0 (PureQ (some (.int (1 : Int32))) h0) := by
  refine OMeets.of pn_rm3_5 #[.val (.ref w_CASE_EXACT)] (fun m => by first | rfl | (simp [entryFrame, mkF, argsToLocals, Value.category, maxLocals]; done)) ?_
  intro p e s m below meth c s₁ B X0 e0
  have F := F0
  obtain ⟨S_CASE_IGNORE, E_CASE_IGNORE, S_NUMERIC_STRING, E_NUMERIC_STRING, S_CASE_IGNORE_IA5, E_CASE_IGNORE_IA5, S_OCTET_STRING, E_OCTET_STRING, S_OBJECT_IDENTIFIER_FIRST_COMPONENT, E_OBJECT_IDENTIFIER_FIRST_COMPONENT, S_CASE_IGNORE_LIST, E_CASE_IGNORE_LIST, S_DISTINGUISHED_NAME, E_DISTINGUISHED_NAME, S_CASE_EXACT, E_CASE_EXACT, S_INTEGER_FIRST_COMPONENT, E_INTEGER_FIRST_COMPONENT, S_UNIQUE_MEMBER, E_UNIQUE_MEMBER, S_OBJECT_IDENTIFIER, E_OBJECT_IDENTIFIER, S_TELEPHONE_NUMBER, E_TELEPHONE_NUMBER, F_CASE_IGNORE_substringsName, E_CASE_IGNORE_substringsName, F_NUMERIC_STRING_substringsName, E_NUMERIC_STRING_substringsName, F_CASE_IGNORE_IA5_substringsName, E_CASE_IGNORE_IA5_substringsName, F_OCTET_STRING_substringsName, F_OBJECT_IDENTIFIER_FIRST_COMPONENT_substringsName, F_CASE_IGNORE_LIST_substringsName, E_CASE_IGNORE_LIST_substringsName, F_DISTINGUISHED_NAME_substringsName, F_CASE_EXACT_substringsName, E_CASE_EXACT_substringsName, F_INTEGER_FIRST_COMPONENT_substringsName, F_UNIQUE_MEMBER_substringsName, F_OBJECT_IDENTIFIER_substringsName, F_TELEPHONE_NUMBER_substringsName, E_TELEPHONE_NUMBER_substringsName⟩ := F
  refine s_aloadN B X0 (pc' := 1) d3_0 rfl rfl rfl ?_
  refine s_getF B X0 (pc' := 4) e0 (host := "") (Or.inl (tw16 hw)) Via.refl F_CASE_EXACT_substringsName d3_1 rfl (fun T1 X1 e1 => ?_)
  refine s_ifnullN B X1 (pc' := 7) d3_4 rfl ?_
  refine s_iconst B X1 (pc' := 8) (v := (1 : Int32)) d3_7 rfl rfl ?_
  refine s_goto B X1 (pc' := 12) d3_8 (by decide) (by decide) ?_
  exact r_nar B X1 (t := .boolean) (by simp) rfl d3_12 ⟨rfl, rfl, e1⟩ (by decide) (by decide)
theorem d1_17 : decode method_3_code 17 = .ok (.iload_n 0, 1) := by decide +kernel
theorem d1_18 : decode method_3_code 18 = .ok (.iconst 2, 1) := by decide +kernel
theorem d1_19 : decode method_3_code 19 = .ok (.if_icmp .ne 7, 3) := by decide +kernel
theorem d1_22 : decode method_3_code 22 = .ok (.getstatic 31, 3) := by decide +kernel
theorem d1_25 : decode method_3_code 25 = .ok (.areturn, 1) := by decide +kernel
theorem pn_rm1_6 : plainName "com/example/waymark/waymark/model/MatchingRuleHasSubstringsPinLaw" = true := by first | (simp [plainName, overriddenIn]; done) | decide +kernel
set_option maxRecDepth 65536 in
set_option maxHeartbeats 40000000 in
theorem rm1_6 (l : Launch) (Z : State) (a0 : Array Value) (hw : ∀ d ∈ tables_1, d.before a0 Z = true)  (w_CASE_IGNORE w_NUMERIC_STRING w_CASE_IGNORE_IA5 w_OCTET_STRING w_OBJECT_IDENTIFIER_FIRST_COMPONENT w_CASE_IGNORE_LIST w_DISTINGUISHED_NAME w_CASE_EXACT w_INTEGER_FIRST_COMPONENT w_UNIQUE_MEMBER w_OBJECT_IDENTIFIER w_TELEPHONE_NUMBER w_CASE_IGNORE_substringsName w_NUMERIC_STRING_substringsName w_CASE_IGNORE_IA5_substringsName w_CASE_IGNORE_LIST_substringsName w_CASE_EXACT_substringsName w_TELEPHONE_NUMBER_substringsName : Addr) (h0 : Heap) (F0 : OwnF Z h0 w_CASE_IGNORE w_NUMERIC_STRING w_CASE_IGNORE_IA5 w_OCTET_STRING w_OBJECT_IDENTIFIER_FIRST_COMPONENT w_CASE_IGNORE_LIST w_DISTINGUISHED_NAME w_CASE_EXACT w_INTEGER_FIRST_COMPONENT w_UNIQUE_MEMBER w_OBJECT_IDENTIFIER w_TELEPHONE_NUMBER w_CASE_IGNORE_substringsName w_NUMERIC_STRING_substringsName w_CASE_IGNORE_IA5_substringsName w_CASE_IGNORE_LIST_substringsName w_CASE_EXACT_substringsName w_TELEPHONE_NUMBER_substringsName)  :
    OMeets l Z mn0 method_3_code 1 (some (.object "com/example/waymark/waymark/model/MatchingRule")) [] ({ frames := 0, cells := 0, slots := 0, locals := 0 } : Room) #[(.int (2 : Int32))] h0 (PureQ (some (.ref w_CASE_IGNORE_IA5)) h0) := by
  refine OMeets.of pn_rm1_6 #[.val (.int (2 : Int32))] (fun m => by first | rfl | (simp [entryFrame, mkF, argsToLocals, Value.category, maxLocals]; done)) ?_
  intro p e s m below meth c s₁ B X0 e0
  have F := F0
  obtain ⟨S_CASE_IGNORE, E_CASE_IGNORE, S_NUMERIC_STRING, E_NUMERIC_STRING, S_CASE_IGNORE_IA5, E_CASE_IGNORE_IA5, S_OCTET_STRING, E_OCTET_STRING, S_OBJECT_IDENTIFIER_FIRST_COMPONENT, E_OBJECT_IDENTIFIER_FIRST_COMPONENT, S_CASE_IGNORE_LIST, E_CASE_IGNORE_LIST, S_DISTINGUISHED_NAME, E_DISTINGUISHED_NAME, S_CASE_EXACT, E_CASE_EXACT, S_INTEGER_FIRST_COMPONENT, E_INTEGER_FIRST_COMPONENT, S_UNIQUE_MEMBER, E_UNIQUE_MEMBER, S_OBJECT_IDENTIFIER, E_OBJECT_IDENTIFIER, S_TELEPHONE_NUMBER, E_TELEPHONE_NUMBER, F_CASE_IGNORE_substringsName, E_CASE_IGNORE_substringsName, F_NUMERIC_STRING_substringsName, E_NUMERIC_STRING_substringsName, F_CASE_IGNORE_IA5_substringsName, E_CASE_IGNORE_IA5_substringsName, F_OCTET_STRING_substringsName, F_OBJECT_IDENTIFIER_FIRST_COMPONENT_substringsName, F_CASE_IGNORE_LIST_substringsName, E_CASE_IGNORE_LIST_substringsName, F_DISTINGUISHED_NAME_substringsName, F_CASE_EXACT_substringsName, E_CASE_EXACT_substringsName, F_INTEGER_FIRST_COMPONENT_substringsName, F_UNIQUE_MEMBER_substringsName, F_OBJECT_IDENTIFIER_substringsName, F_TELEPHONE_NUMBER_substringsName, E_TELEPHONE_NUMBER_substringsName⟩ := F
  refine s_iloadN B X0 (pc' := 1) d1_0 rfl rfl ?_
  refine s_ifY B X0 (pc' := 8) d1_1 (by decide) (by decide) (by decide) ?_
  refine s_iloadN B X0 (pc' := 9) d1_8 rfl rfl ?_
  refine s_iconst B X0 (pc' := 10) (v := (1 : Int32)) d1_9 rfl rfl ?_
  refine s_icmpY B X0 (pc' := 17) d1_10 (by decide) (by decide) (by decide) ?_
  refine s_iloadN B X0 (pc' := 18) d1_17 rfl rfl ?_
  refine s_iconst B X0 (pc' := 19) (v := (2 : Int32)) d1_18 rfl rfl ?_
  refine s_icmpN B X0 (pc' := 22) d1_19 (by decide) rfl ?_
  refine s_getS B X0 (pc' := 25) e0 (tw20 hw) Via.refl S_CASE_IGNORE_IA5 d1_22 rfl (fun T1 X1 e1 => ?_)
  exact r_ref B X1 (t := (.object "com/example/waymark/waymark/model/MatchingRule")) rfl rfl rfl rfl d1_25 ⟨rfl, rfl, e1⟩ (by decide) (by decide)
theorem d2_9 : decode method_4_code 9 = .ok (.iload_n 0, 1) := by decide +kernel
theorem d2_10 : decode method_4_code 10 = .ok (.iconst 2, 1) := by decide +kernel
theorem d2_11 : decode method_4_code 11 = .ok (.if_icmp .eq 18, 3) := by decide +kernel
theorem pn_rm2_7 : plainName "com/example/waymark/waymark/model/MatchingRuleHasSubstringsPinLaw" = true := by first | (simp [plainName, overriddenIn]; done) | decide +kernel
set_option maxRecDepth 65536 in
set_option maxHeartbeats 40000000 in
theorem rm2_7 (l : Launch) (Z : State) (a0 : Array Value) (hw : ∀ d ∈ tables_1, d.before a0 Z = true)  (w_CASE_IGNORE w_NUMERIC_STRING w_CASE_IGNORE_IA5 w_OCTET_STRING w_OBJECT_IDENTIFIER_FIRST_COMPONENT w_CASE_IGNORE_LIST w_DISTINGUISHED_NAME w_CASE_EXACT w_INTEGER_FIRST_COMPONENT w_UNIQUE_MEMBER w_OBJECT_IDENTIFIER w_TELEPHONE_NUMBER w_CASE_IGNORE_substringsName w_NUMERIC_STRING_substringsName w_CASE_IGNORE_IA5_substringsName w_CASE_IGNORE_LIST_substringsName w_CASE_EXACT_substringsName w_TELEPHONE_NUMBER_substringsName : Addr) (h0 : Heap) (F0 : OwnF Z h0 w_CASE_IGNORE w_NUMERIC_STRING w_CASE_IGNORE_IA5 w_OCTET_STRING w_OBJECT_IDENTIFIER_FIRST_COMPONENT w_CASE_IGNORE_LIST w_DISTINGUISHED_NAME w_CASE_EXACT w_INTEGER_FIRST_COMPONENT w_UNIQUE_MEMBER w_OBJECT_IDENTIFIER w_TELEPHONE_NUMBER w_CASE_IGNORE_substringsName w_NUMERIC_STRING_substringsName w_CASE_IGNORE_IA5_substringsName w_CASE_IGNORE_LIST_substringsName w_CASE_EXACT_substringsName w_TELEPHONE_NUMBER_substringsName)  :
    OMeets l Z mn1 method_4_code 1 (some .boolean) [] ({ frames := 0, cells := 0, slots := 0, locals := 0 } : Room) #[(.int (2 : Int32))] h0 (PureQ (some (.int (1 : Int32))) h0) := by
  refine OMeets.of pn_rm2_7 #[.val (.int (2 : Int32))] (fun m => by first | rfl | (simp [entryFrame, mkF, argsToLocals, Value.category, maxLocals]; done)) ?_
  intro p e s m below meth c s₁ B X0 e0
  have F := F0
  obtain ⟨S_CASE_IGNORE, E_CASE_IGNORE, S_NUMERIC_STRING, E_NUMERIC_STRING, S_CASE_IGNORE_IA5, E_CASE_IGNORE_IA5, S_OCTET_STRING, E_OCTET_STRING, S_OBJECT_IDENTIFIER_FIRST_COMPONENT, E_OBJECT_IDENTIFIER_FIRST_COMPONENT, S_CASE_IGNORE_LIST, E_CASE_IGNORE_LIST, S_DISTINGUISHED_NAME, E_DISTINGUISHED_NAME, S_CASE_EXACT, E_CASE_EXACT, S_INTEGER_FIRST_COMPONENT, E_INTEGER_FIRST_COMPONENT, S_UNIQUE_MEMBER, E_UNIQUE_MEMBER, S_OBJECT_IDENTIFIER, E_OBJECT_IDENTIFIER, S_TELEPHONE_NUMBER, E_TELEPHONE_NUMBER, F_CASE_IGNORE_substringsName, E_CASE_IGNORE_substringsName, F_NUMERIC_STRING_substringsName, E_NUMERIC_STRING_substringsName, F_CASE_IGNORE_IA5_substringsName, E_CASE_IGNORE_IA5_substringsName, F_OCTET_STRING_substringsName, F_OBJECT_IDENTIFIER_FIRST_COMPONENT_substringsName, F_CASE_IGNORE_LIST_substringsName, E_CASE_IGNORE_LIST_substringsName, F_DISTINGUISHED_NAME_substringsName, F_CASE_EXACT_substringsName, E_CASE_EXACT_substringsName, F_INTEGER_FIRST_COMPONENT_substringsName, F_UNIQUE_MEMBER_substringsName, F_OBJECT_IDENTIFIER_substringsName, F_TELEPHONE_NUMBER_substringsName, E_TELEPHONE_NUMBER_substringsName⟩ := F
  refine s_iloadN B X0 (pc' := 1) d2_0 rfl rfl ?_
  refine s_ifN B X0 (pc' := 4) d2_1 (by decide) rfl ?_
  refine s_iloadN B X0 (pc' := 5) d2_4 rfl rfl ?_
  refine s_iconst B X0 (pc' := 6) (v := (1 : Int32)) d2_5 rfl rfl ?_
  refine s_icmpN B X0 (pc' := 9) d2_6 (by decide) rfl ?_
  refine s_iloadN B X0 (pc' := 10) d2_9 rfl rfl ?_
  refine s_iconst B X0 (pc' := 11) (v := (2 : Int32)) d2_10 rfl rfl ?_
  refine s_icmpY B X0 (pc' := 29) d2_11 (by decide) (by decide) (by decide) ?_
  refine s_iconst B X0 (pc' := 30) (v := (1 : Int32)) d2_29 rfl rfl ?_
  exact r_nar B X0 (t := .boolean) (by simp) rfl d2_30 ⟨rfl, rfl, e0⟩ (by decide) (by decide)

theorem pn_rm3_8 : plainName "com/example/waymark/waymark/model/MatchingRule" = true := by first | (simp [plainName, overriddenIn]; done) | decide +kernel
set_option maxRecDepth 65536 in
set_option maxHeartbeats 40000000 in
theorem rm3_8 (l : Launch) (Z : State) (a0 : Array Value) (hw : ∀ d ∈ tables_1, d.before a0 Z = true)  (w_CASE_IGNORE w_NUMERIC_STRING w_CASE_IGNORE_IA5 w_OCTET_STRING w_OBJECT_IDENTIFIER_FIRST_COMPONENT w_CASE_IGNORE_LIST w_DISTINGUISHED_NAME w_CASE_EXACT w_INTEGER_FIRST_COMPONENT w_UNIQUE_MEMBER w_OBJECT_IDENTIFIER w_TELEPHONE_NUMBER w_CASE_IGNORE_substringsName w_NUMERIC_STRING_substringsName w_CASE_IGNORE_IA5_substringsName w_CASE_IGNORE_LIST_substringsName w_CASE_EXACT_substringsName w_TELEPHONE_NUMBER_substringsName : Addr) (h0 : Heap) (F0 : OwnF Z h0 w_CASE_IGNORE w_NUMERIC_STRING w_CASE_IGNORE_IA5 w_OCTET_STRING w_OBJECT_IDENTIFIER_FIRST_COMPONENT w_CASE_IGNORE_LIST w_DISTINGUISHED_NAME w_CASE_EXACT w_INTEGER_FIRST_COMPONENT w_UNIQUE_MEMBER w_OBJECT_IDENTIFIER w_TELEPHONE_NUMBER w_CASE_IGNORE_substringsName w_NUMERIC_STRING_substringsName w_CASE_IGNORE_IA5_substringsName w_CASE_IGNORE_LIST_substringsName w_CASE_EXACT_substringsName w_TELEPHONE_NUMBER_substringsName)  :
    OMeets l Z mn2 prog_62_method_13_code 1 (some .boolean) [] ({ frames := 0, cells := 0, slots := 0, locals := 0 } : Room) #[(.ref w_CASE_IGNORE_IA5)] h0 (PureQ (some (.int (1 : Int32))) h0) := by
  refine OMeets.of pn_rm3_8 #[.val (.ref w_CASE_IGNORE_IA5)] (fun m => by first | rfl | (simp [entryFrame, mkF, argsToLocals, Value.category, maxLocals]; done)) ?_
  intro p e s m below meth c s₁ B X0 e0
  have F := F0
  obtain ⟨S_CASE_IGNORE, E_CASE_IGNORE, S_NUMERIC_STRING, E_NUMERIC_STRING, S_CASE_IGNORE_IA5, E_CASE_IGNORE_IA5, S_OCTET_STRING, E_OCTET_STRING, S_OBJECT_IDENTIFIER_FIRST_COMPONENT, E_OBJECT_IDENTIFIER_FIRST_COMPONENT, S_CASE_IGNORE_LIST, E_CASE_IGNORE_LIST, S_DISTINGUISHED_NAME, E_DISTINGUISHED_NAME, S_CASE_EXACT, E_CASE_EXACT, S_INTEGER_FIRST_COMPONENT, E_INTEGER_FIRST_COMPONENT, S_UNIQUE_MEMBER, E_UNIQUE_MEMBER, S_OBJECT_IDENTIFIER, E_OBJECT_IDENTIFIER, S_TELEPHONE_NUMBER, E_TELEPHONE_NUMBER, F_CASE_IGNORE_substringsName, E_CASE_IGNORE_substringsName, F_NUMERIC_STRING_substringsName, E_NUMERIC_STRING_substringsName, F_CASE_IGNORE_IA5_substringsName, E_CASE_IGNORE_IA5_substringsName, F_OCTET_STRING_substringsName, F_OBJECT_IDENTIFIER_FIRST_COMPONENT_substringsName, F_CASE_IGNORE_LIST_substringsName, E_CASE_IGNORE_LIST_substringsName, F_DISTINGUISHED_NAME_substringsName, F_CASE_EXACT_substringsName, E_CASE_EXACT_substringsName, F_INTEGER_FIRST_COMPONENT_substringsName, F_UNIQUE_MEMBER_substringsName, F_OBJECT_IDENTIFIER_substringsName, F_TELEPHONE_NUMBER_substringsName, E_TELEPHONE_NUMBER_substringsName⟩ := F
  refine s_aloadN B X0 (pc' := 1) d3_0 rfl rfl rfl ?_
  refine s_getF B X0 (pc' := 4) e0 (host := "") (Or.inl (tw16 hw)) Via.refl F_CASE_IGNORE_IA5_substringsName d3_1 rfl (fun T1 X1 e1 => ?_)
  refine s_ifnullN B X1 (pc' := 7) d3_4 rfl ?_
  refine s_iconst B X1 (pc' := 8) (v := (1 : Int32)) d3_7 rfl rfl ?_
  refine s_goto B X1 (pc' := 12) d3_8 (by decide) (by decide) ?_
  exact r_nar B X1 (t := .boolean) (by simp) rfl d3_12 ⟨rfl, rfl, e1⟩ (by decide) (by decide)
theorem d1_26 : decode method_3_code 26 = .ok (.iload_n 0, 1) := by decide +kernel
theorem d1_27 : decode method_3_code 27 = .ok (.iconst 3, 1) := by decide +kernel
theorem d1_28 : decode method_3_code 28 = .ok (.if_icmp .ne 7, 3) := by decide +kernel
theorem d1_31 : decode method_3_code 31 = .ok (.getstatic 34, 3) := by decide +kernel
theorem d1_34 : decode method_3_code 34 = .ok (.areturn, 1) := by decide +kernel
theorem pn_rm1_9 : plainName "com/example/waymark/waymark/model/MatchingRuleHasSubstringsPinLaw" = true := by first | (simp [plainName, overriddenIn]; done) | decide +kernel
set_option maxRecDepth 65536 in
set_option maxHeartbeats 40000000 in
theorem rm1_9 (l : Launch) (Z : State) (a0 : Array Value) (hw : ∀ d ∈ tables_1, d.before a0 Z = true)  (w_CASE_IGNORE w_NUMERIC_STRING w_CASE_IGNORE_IA5 w_OCTET_STRING w_OBJECT_IDENTIFIER_FIRST_COMPONENT w_CASE_IGNORE_LIST w_DISTINGUISHED_NAME w_CASE_EXACT w_INTEGER_FIRST_COMPONENT w_UNIQUE_MEMBER w_OBJECT_IDENTIFIER w_TELEPHONE_NUMBER w_CASE_IGNORE_substringsName w_NUMERIC_STRING_substringsName w_CASE_IGNORE_IA5_substringsName w_CASE_IGNORE_LIST_substringsName w_CASE_EXACT_substringsName w_TELEPHONE_NUMBER_substringsName : Addr) (h0 : Heap) (F0 : OwnF Z h0 w_CASE_IGNORE w_NUMERIC_STRING w_CASE_IGNORE_IA5 w_OCTET_STRING w_OBJECT_IDENTIFIER_FIRST_COMPONENT w_CASE_IGNORE_LIST w_DISTINGUISHED_NAME w_CASE_EXACT w_INTEGER_FIRST_COMPONENT w_UNIQUE_MEMBER w_OBJECT_IDENTIFIER w_TELEPHONE_NUMBER w_CASE_IGNORE_substringsName w_NUMERIC_STRING_substringsName w_CASE_IGNORE_IA5_substringsName w_CASE_IGNORE_LIST_substringsName w_CASE_EXACT_substringsName w_TELEPHONE_NUMBER_substringsName)  :
    OMeets l Z mn0 method_3_code 1 (some (.object "com/example/waymark/waymark/model/MatchingRule")) [] ({ frames := 0, cells := 0, slots := 0, locals := 0 } : Room) #[(.int (3 : Int32))] h0 (PureQ (some (.ref w_NUMERIC_STRING)) h0) := by
  refine OMeets.of pn_rm1_9 #[.val (.int (3 : Int32))] (fun m => by first | rfl | (simp [entryFrame, mkF, argsToLocals, Value.category, maxLocals]; done)) ?_
  intro p e s m below meth c s₁ B X0 e0
  have F := F0
  obtain ⟨S_CASE_IGNORE, E_CASE_IGNORE, S_NUMERIC_STRING, E_NUMERIC_STRING, S_CASE_IGNORE_IA5, E_CASE_IGNORE_IA5, S_OCTET_STRING, E_OCTET_STRING, S_OBJECT_IDENTIFIER_FIRST_COMPONENT, E_OBJECT_IDENTIFIER_FIRST_COMPONENT, S_CASE_IGNORE_LIST, E_CASE_IGNORE_LIST, S_DISTINGUISHED_NAME, E_DISTINGUISHED_NAME, S_CASE_EXACT, E_CASE_EXACT, S_INTEGER_FIRST_COMPONENT, E_INTEGER_FIRST_COMPONENT, S_UNIQUE_MEMBER, E_UNIQUE_MEMBER, S_OBJECT_IDENTIFIER, E_OBJECT_IDENTIFIER, S_TELEPHONE_NUMBER, E_TELEPHONE_NUMBER, F_CASE_IGNORE_substringsName, E_CASE_IGNORE_substringsName, F_NUMERIC_STRING_substringsName, E_NUMERIC_STRING_substringsName, F_CASE_IGNORE_IA5_substringsName, E_CASE_IGNORE_IA5_substringsName, F_OCTET_STRING_substringsName, F_OBJECT_IDENTIFIER_FIRST_COMPONENT_substringsName, F_CASE_IGNORE_LIST_substringsName, E_CASE_IGNORE_LIST_substringsName, F_DISTINGUISHED_NAME_substringsName, F_CASE_EXACT_substringsName, E_CASE_EXACT_substringsName, F_INTEGER_FIRST_COMPONENT_substringsName, F_UNIQUE_MEMBER_substringsName, F_OBJECT_IDENTIFIER_substringsName, F_TELEPHONE_NUMBER_substringsName, E_TELEPHONE_NUMBER_substringsName⟩ := F
  refine s_iloadN B X0 (pc' := 1) d1_0 rfl rfl ?_
  refine s_ifY B X0 (pc' := 8) d1_1 (by decide) (by decide) (by decide) ?_
  refine s_iloadN B X0 (pc' := 9) d1_8 rfl rfl ?_
  refine s_iconst B X0 (pc' := 10) (v := (1 : Int32)) d1_9 rfl rfl ?_
  refine s_icmpY B X0 (pc' := 17) d1_10 (by decide) (by decide) (by decide) ?_
  refine s_iloadN B X0 (pc' := 18) d1_17 rfl rfl ?_
  refine s_iconst B X0 (pc' := 19) (v := (2 : Int32)) d1_18 rfl rfl ?_
  refine s_icmpY B X0 (pc' := 26) d1_19 (by decide) (by decide) (by decide) ?_
  refine s_iloadN B X0 (pc' := 27) d1_26 rfl rfl ?_
  refine s_iconst B X0 (pc' := 28) (v := (3 : Int32)) d1_27 rfl rfl ?_
  refine s_icmpN B X0 (pc' := 31) d1_28 (by decide) rfl ?_
  refine s_getS B X0 (pc' := 34) e0 (tw18 hw) Via.refl S_NUMERIC_STRING d1_31 rfl (fun T1 X1 e1 => ?_)
  exact r_ref B X1 (t := (.object "com/example/waymark/waymark/model/MatchingRule")) rfl rfl rfl rfl d1_34 ⟨rfl, rfl, e1⟩ (by decide) (by decide)
theorem d2_14 : decode method_4_code 14 = .ok (.iload_n 0, 1) := by decide +kernel
theorem d2_15 : decode method_4_code 15 = .ok (.iconst 3, 1) := by decide +kernel
theorem d2_16 : decode method_4_code 16 = .ok (.if_icmp .eq 13, 3) := by decide +kernel
theorem pn_rm2_10 : plainName "com/example/waymark/waymark/model/MatchingRuleHasSubstringsPinLaw" = true := by first | (simp [plainName, overriddenIn]; done) | decide +kernel
set_option maxRecDepth 65536 in
set_option maxHeartbeats 40000000 in
theorem rm2_10 (l : Launch) (Z : State) (a0 : Array Value) (hw : ∀ d ∈ tables_1, d.before a0 Z = true)  (w_CASE_IGNORE w_NUMERIC_STRING w_CASE_IGNORE_IA5 w_OCTET_STRING w_OBJECT_IDENTIFIER_FIRST_COMPONENT w_CASE_IGNORE_LIST w_DISTINGUISHED_NAME w_CASE_EXACT w_INTEGER_FIRST_COMPONENT w_UNIQUE_MEMBER w_OBJECT_IDENTIFIER w_TELEPHONE_NUMBER w_CASE_IGNORE_substringsName w_NUMERIC_STRING_substringsName w_CASE_IGNORE_IA5_substringsName w_CASE_IGNORE_LIST_substringsName w_CASE_EXACT_substringsName w_TELEPHONE_NUMBER_substringsName : Addr) (h0 : Heap) (F0 : OwnF Z h0 w_CASE_IGNORE w_NUMERIC_STRING w_CASE_IGNORE_IA5 w_OCTET_STRING w_OBJECT_IDENTIFIER_FIRST_COMPONENT w_CASE_IGNORE_LIST w_DISTINGUISHED_NAME w_CASE_EXACT w_INTEGER_FIRST_COMPONENT w_UNIQUE_MEMBER w_OBJECT_IDENTIFIER w_TELEPHONE_NUMBER w_CASE_IGNORE_substringsName w_NUMERIC_STRING_substringsName w_CASE_IGNORE_IA5_substringsName w_CASE_IGNORE_LIST_substringsName w_CASE_EXACT_substringsName w_TELEPHONE_NUMBER_substringsName)  :
    OMeets l Z mn1 method_4_code 1 (some .boolean) [] ({ frames := 0, cells := 0, slots := 0, locals := 0 } : Room) #[(.int (3 : Int32))] h0 (PureQ (some (.int (1 : Int32))) h0) := by
  refine OMeets.of pn_rm2_10 #[.val (.int (3 : Int32))] (fun m => by first | rfl | (simp [entryFrame, mkF, argsToLocals, Value.category, maxLocals]; done)) ?_
  intro p e s m below meth c s₁ B X0 e0
  have F := F0
  obtain ⟨S_CASE_IGNORE, E_CASE_IGNORE, S_NUMERIC_STRING, E_NUMERIC_STRING, S_CASE_IGNORE_IA5, E_CASE_IGNORE_IA5, S_OCTET_STRING, E_OCTET_STRING, S_OBJECT_IDENTIFIER_FIRST_COMPONENT, E_OBJECT_IDENTIFIER_FIRST_COMPONENT, S_CASE_IGNORE_LIST, E_CASE_IGNORE_LIST, S_DISTINGUISHED_NAME, E_DISTINGUISHED_NAME, S_CASE_EXACT, E_CASE_EXACT, S_INTEGER_FIRST_COMPONENT, E_INTEGER_FIRST_COMPONENT, S_UNIQUE_MEMBER, E_UNIQUE_MEMBER, S_OBJECT_IDENTIFIER, E_OBJECT_IDENTIFIER, S_TELEPHONE_NUMBER, E_TELEPHONE_NUMBER, F_CASE_IGNORE_substringsName, E_CASE_IGNORE_substringsName, F_NUMERIC_STRING_substringsName, E_NUMERIC_STRING_substringsName, F_CASE_IGNORE_IA5_substringsName, E_CASE_IGNORE_IA5_substringsName, F_OCTET_STRING_substringsName, F_OBJECT_IDENTIFIER_FIRST_COMPONENT_substringsName, F_CASE_IGNORE_LIST_substringsName, E_CASE_IGNORE_LIST_substringsName, F_DISTINGUISHED_NAME_substringsName, F_CASE_EXACT_substringsName, E_CASE_EXACT_substringsName, F_INTEGER_FIRST_COMPONENT_substringsName, F_UNIQUE_MEMBER_substringsName, F_OBJECT_IDENTIFIER_substringsName, F_TELEPHONE_NUMBER_substringsName, E_TELEPHONE_NUMBER_substringsName⟩ := F
  refine s_iloadN B X0 (pc' := 1) d2_0 rfl rfl ?_
  refine s_ifN B X0 (pc' := 4) d2_1 (by decide) rfl ?_
  refine s_iloadN B X0 (pc' := 5) d2_4 rfl rfl ?_
  refine s_iconst B X0 (pc' := 6) (v := (1 : Int32)) d2_5 rfl rfl ?_
  refine s_icmpN B X0 (pc' := 9) d2_6 (by decide) rfl ?_
  refine s_iloadN B X0 (pc' := 10) d2_9 rfl rfl ?_
  refine s_iconst B X0 (pc' := 11) (v := (2 : Int32)) d2_10 rfl rfl ?_
  refine s_icmpN B X0 (pc' := 14) d2_11 (by decide) rfl ?_
  refine s_iloadN B X0 (pc' := 15) d2_14 rfl rfl ?_
  refine s_iconst B X0 (pc' := 16) (v := (3 : Int32)) d2_15 rfl rfl ?_
  refine s_icmpY B X0 (pc' := 29) d2_16 (by decide) (by decide) (by decide) ?_
  refine s_iconst B X0 (pc' := 30) (v := (1 : Int32)) d2_29 rfl rfl ?_
  exact r_nar B X0 (t := .boolean) (by simp) rfl d2_30 ⟨rfl, rfl, e0⟩ (by decide) (by decide)

theorem pn_rm3_11 : plainName "com/example/waymark/waymark/model/MatchingRule" = true := by first | (simp [plainName, overriddenIn]; done) | decide +kernel
set_option maxRecDepth 65536 in
set_option maxHeartbeats 40000000 in
theorem rm3_11 (l : Launch) (Z : State) (a0 : Array Value) (hw : ∀ d ∈ tables_1, d.before a0 Z = true)  (w_CASE_IGNORE w_NUMERIC_STRING w_CASE_IGNORE_IA5 w_OCTET_STRING w_OBJECT_IDENTIFIER_FIRST_COMPONENT w_CASE_IGNORE_LIST w_DISTINGUISHED_NAME w_CASE_EXACT w_INTEGER_FIRST_COMPONENT w_UNIQUE_MEMBER w_OBJECT_IDENTIFIER w_TELEPHONE_NUMBER w_CASE_IGNORE_substringsName w_NUMERIC_STRING_substringsName w_CASE_IGNORE_IA5_substringsName w_CASE_IGNORE_LIST_substringsName w_CASE_EXACT_substringsName w_TELEPHONE_NUMBER_substringsName : Addr) (h0 : Heap) (F0 : OwnF Z h0 w_CASE_IGNORE w_NUMERIC_STRING w_CASE_IGNORE_IA5 w_OCTET_STRING w_OBJECT_IDENTIFIER_FIRST_COMPONENT w_CASE_IGNORE_LIST w_DISTINGUISHED_NAME w_CASE_EXACT w_INTEGER_FIRST_COMPONENT w_UNIQUE_MEMBER w_OBJECT_IDENTIFIER w_TELEPHONE_NUMBER w_CASE_IGNORE_substringsName w_NUMERIC_STRING_substringsName w_CASE_IGNORE_IA5_substringsName w_CASE_IGNORE_LIST_substringsName w_CASE_EXACT_substringsName w_TELEPHONE_NUMBER_substringsName)  :
    OMeets l Z mn2 prog_62_method_13_code 1 (some .boolean) [] ({ frames := 0, cells := 0, slots := 0, locals := 0 } : Room) #[(.ref w_NUMERIC_STRING)] h0 (PureQ (some (.int (1 : Int32))) h0) := by
  refine OMeets.of pn_rm3_11 #[.val (.ref w_NUMERIC_STRING)] (fun m => by first | rfl | (simp [entryFrame, mkF, argsToLocals, Value.category, maxLocals]; done)) ?_
  intro p e s m below meth c s₁ B X0 e0
  have F := F0
  obtain ⟨S_CASE_IGNORE, E_CASE_IGNORE, S_NUMERIC_STRING, E_NUMERIC_STRING, S_CASE_IGNORE_IA5, E_CASE_IGNORE_IA5, S_OCTET_STRING, E_OCTET_STRING, S_OBJECT_IDENTIFIER_FIRST_COMPONENT, E_OBJECT_IDENTIFIER_FIRST_COMPONENT, S_CASE_IGNORE_LIST, E_CASE_IGNORE_LIST, S_DISTINGUISHED_NAME, E_DISTINGUISHED_NAME, S_CASE_EXACT, E_CASE_EXACT, S_INTEGER_FIRST_COMPONENT, E_INTEGER_FIRST_COMPONENT, S_UNIQUE_MEMBER, E_UNIQUE_MEMBER, S_OBJECT_IDENTIFIER, E_OBJECT_IDENTIFIER, S_TELEPHONE_NUMBER, E_TELEPHONE_NUMBER, F_CASE_IGNORE_substringsName, E_CASE_IGNORE_substringsName, F_NUMERIC_STRING_substringsName, E_NUMERIC_STRING_substringsName, F_CASE_IGNORE_IA5_substringsName, E_CASE_IGNORE_IA5_substringsName, F_OCTET_STRING_substringsName, F_OBJECT_IDENTIFIER_FIRST_COMPONENT_substringsName, F_CASE_IGNORE_LIST_substringsName, E_CASE_IGNORE_LIST_substringsName, F_DISTINGUISHED_NAME_substringsName, F_CASE_EXACT_substringsName, E_CASE_EXACT_substringsName, F_INTEGER_FIRST_COMPONENT_substringsName, F_UNIQUE_MEMBER_substringsName, F_OBJECT_IDENTIFIER_substringsName, F_TELEPHONE_NUMBER_substringsName, E_TELEPHONE_NUMBER_substringsName⟩ := F
  refine s_aloadN B X0 (pc' := 1) d3_0 rfl rfl rfl ?_
  refine s_getF B X0 (pc' := 4) e0 (host := "") (Or.inl (tw16 hw)) Via.refl F_NUMERIC_STRING_substringsName d3_1 rfl (fun T1 X1 e1 => ?_)
  refine s_ifnullN B X1 (pc' := 7) d3_4 rfl ?_
  refine s_iconst B X1 (pc' := 8) (v := (1 : Int32)) d3_7 rfl rfl ?_
  refine s_goto B X1 (pc' := 12) d3_8 (by decide) (by decide) ?_
  exact r_nar B X1 (t := .boolean) (by simp) rfl d3_12 ⟨rfl, rfl, e1⟩ (by decide) (by decide)
theorem d1_35 : decode method_3_code 35 = .ok (.iload_n 0, 1) := by decide +kernel
theorem d1_36 : decode method_3_code 36 = .ok (.iconst 4, 1) := by decide +kernel
theorem d1_37 : decode method_3_code 37 = .ok (.if_icmp .ne 7, 3) := by decide +kernel
theorem d1_40 : decode method_3_code 40 = .ok (.getstatic 37, 3) := by decide +kernel
theorem d1_43 : decode method_3_code 43 = .ok (.areturn, 1) := by decide +kernel
theorem pn_rm1_12 : plainName "com/example/waymark/waymark/model/MatchingRuleHasSubstringsPinLaw" = true := by first | (simp [plainName, overriddenIn]; done) | decide +kernel
set_option maxRecDepth 65536 in
set_option maxHeartbeats 40000000 in
theorem rm1_12 (l : Launch) (Z : State) (a0 : Array Value) (hw : ∀ d ∈ tables_1, d.before a0 Z = true)  (w_CASE_IGNORE w_NUMERIC_STRING w_CASE_IGNORE_IA5 w_OCTET_STRING w_OBJECT_IDENTIFIER_FIRST_COMPONENT w_CASE_IGNORE_LIST w_DISTINGUISHED_NAME w_CASE_EXACT w_INTEGER_FIRST_COMPONENT w_UNIQUE_MEMBER w_OBJECT_IDENTIFIER w_TELEPHONE_NUMBER w_CASE_IGNORE_substringsName w_NUMERIC_STRING_substringsName w_CASE_IGNORE_IA5_substringsName w_CASE_IGNORE_LIST_substringsName w_CASE_EXACT_substringsName w_TELEPHONE_NUMBER_substringsName : Addr) (h0 : Heap) (F0 : OwnF Z h0 w_CASE_IGNORE w_NUMERIC_STRING w_CASE_IGNORE_IA5 w_OCTET_STRING w_OBJECT_IDENTIFIER_FIRST_COMPONENT w_CASE_IGNORE_LIST w_DISTINGUISHED_NAME w_CASE_EXACT w_INTEGER_FIRST_COMPONENT w_UNIQUE_MEMBER w_OBJECT_IDENTIFIER w_TELEPHONE_NUMBER w_CASE_IGNORE_substringsName w_NUMERIC_STRING_substringsName w_CASE_IGNORE_IA5_substringsName w_CASE_IGNORE_LIST_substringsName w_CASE_EXACT_substringsName w_TELEPHONE_NUMBER_substringsName)  :
    OMeets l Z mn0 method_3_code 1 (some (.object "com/example/waymark/waymark/model/MatchingRule")) [] ({ frames := 0, cells := 0, slots := 0, locals := 0 } : Room) #[(.int (4 : Int32))] h0 (PureQ (some (.ref w_CASE_IGNORE_LIST)) h0) := by
  refine OMeets.of pn_rm1_12 #[.val (.int (4 : Int32))] (fun m => by first | rfl | (simp [entryFrame, mkF, argsToLocals, Value.category, maxLocals]; done)) ?_
  intro p e s m below meth c s₁ B X0 e0
  have F := F0
  obtain ⟨S_CASE_IGNORE, E_CASE_IGNORE, S_NUMERIC_STRING, E_NUMERIC_STRING, S_CASE_IGNORE_IA5, E_CASE_IGNORE_IA5, S_OCTET_STRING, E_OCTET_STRING, S_OBJECT_IDENTIFIER_FIRST_COMPONENT, E_OBJECT_IDENTIFIER_FIRST_COMPONENT, S_CASE_IGNORE_LIST, E_CASE_IGNORE_LIST, S_DISTINGUISHED_NAME, E_DISTINGUISHED_NAME, S_CASE_EXACT, E_CASE_EXACT, S_INTEGER_FIRST_COMPONENT, E_INTEGER_FIRST_COMPONENT, S_UNIQUE_MEMBER, E_UNIQUE_MEMBER, S_OBJECT_IDENTIFIER, E_OBJECT_IDENTIFIER, S_TELEPHONE_NUMBER, E_TELEPHONE_NUMBER, F_CASE_IGNORE_substringsName, E_CASE_IGNORE_substringsName, F_NUMERIC_STRING_substringsName, E_NUMERIC_STRING_substringsName, F_CASE_IGNORE_IA5_substringsName, E_CASE_IGNORE_IA5_substringsName, F_OCTET_STRING_substringsName, F_OBJECT_IDENTIFIER_FIRST_COMPONENT_substringsName, F_CASE_IGNORE_LIST_substringsName, E_CASE_IGNORE_LIST_substringsName, F_DISTINGUISHED_NAME_substringsName, F_CASE_EXACT_substringsName, E_CASE_EXACT_substringsName, F_INTEGER_FIRST_COMPONENT_substringsName, F_UNIQUE_MEMBER_substringsName, F_OBJECT_IDENTIFIER_substringsName, F_TELEPHONE_NUMBER_substringsName, E_TELEPHONE_NUMBER_substringsName⟩ := F
  refine s_iloadN B X0 (pc' := 1) d1_0 rfl rfl ?_
  refine s_ifY B X0 (pc' := 8) d1_1 (by decide) (by decide) (by decide) ?_
  refine s_iloadN B X0 (pc' := 9) d1_8 rfl rfl ?_
  refine s_iconst B X0 (pc' := 10) (v := (1 : Int32)) d1_9 rfl rfl ?_
  refine s_icmpY B X0 (pc' := 17) d1_10 (by decide) (by decide) (by decide) ?_
  refine s_iloadN B X0 (pc' := 18) d1_17 rfl rfl ?_
  refine s_iconst B X0 (pc' := 19) (v := (2 : Int32)) d1_18 rfl rfl ?_
  refine s_icmpY B X0 (pc' := 26) d1_19 (by decide) (by decide) (by decide) ?_
  refine s_iloadN B X0 (pc' := 27) d1_26 rfl rfl ?_
  refine s_iconst B X0 (pc' := 28) (v := (3 : Int32)) d1_27 rfl rfl ?_
  refine s_icmpY B X0 (pc' := 35) d1_28 (by decide) (by decide) (by decide) ?_
  refine s_iloadN B X0 (pc' := 36) d1_35 rfl rfl ?_
  refine s_iconst B X0 (pc' := 37) (v := (4 : Int32)) d1_36 rfl rfl ?_
  refine s_icmpN B X0 (pc' := 40) d1_37 (by decide) rfl ?_
  refine s_getS B X0 (pc' := 43) e0 (tw26 hw) Via.refl S_CASE_IGNORE_LIST d1_40 rfl (fun T1 X1 e1 => ?_)
  exact r_ref B X1 (t := (.object "com/example/waymark/waymark/model/MatchingRule")) rfl rfl rfl rfl d1_43 ⟨rfl, rfl, e1⟩ (by decide) (by decide)
theorem d2_19 : decode method_4_code 19 = .ok (.iload_n 0, 1) := by decide +kernel
theorem d2_20 : decode method_4_code 20 = .ok (.iconst 4, 1) := by decide +kernel
theorem d2_21 : decode method_4_code 21 = .ok (.if_icmp .eq 8, 3) := by decide +kernel
theorem pn_rm2_13 : plainName "com/example/waymark/waymark/model/MatchingRuleHasSubstringsPinLaw" = true := by first | (simp [plainName, overriddenIn]; done) | decide +kernel
set_option maxRecDepth 65536 in
set_option maxHeartbeats 40000000 in
theorem rm2_13 (l : Launch) (Z : State) (a0 : Array Value) (hw : ∀ d ∈ tables_1, d.before a0 Z = true)  (w_CASE_IGNORE w_NUMERIC_STRING w_CASE_IGNORE_IA5 w_OCTET_STRING w_OBJECT_IDENTIFIER_FIRST_COMPONENT w_CASE_IGNORE_LIST w_DISTINGUISHED_NAME w_CASE_EXACT w_INTEGER_FIRST_COMPONENT w_UNIQUE_MEMBER w_OBJECT_IDENTIFIER w_TELEPHONE_NUMBER w_CASE_IGNORE_substringsName w_NUMERIC_STRING_substringsName w_CASE_IGNORE_IA5_substringsName w_CASE_IGNORE_LIST_substringsName w_CASE_EXACT_substringsName w_TELEPHONE_NUMBER_substringsName : Addr) (h0 : Heap) (F0 : OwnF Z h0 w_CASE_IGNORE w_NUMERIC_STRING w_CASE_IGNORE_IA5 w_OCTET_STRING w_OBJECT_IDENTIFIER_FIRST_COMPONENT w_CASE_IGNORE_LIST w_DISTINGUISHED_NAME w_CASE_EXACT w_INTEGER_FIRST_COMPONENT w_UNIQUE_MEMBER w_OBJECT_IDENTIFIER w_TELEPHONE_NUMBER w_CASE_IGNORE_substringsName w_NUMERIC_STRING_substringsName w_CASE_IGNORE_IA5_substringsName w_CASE_IGNORE_LIST_substringsName w_CASE_EXACT_substringsName w_TELEPHONE_NUMBER_substringsName)  :
    OMeets l Z mn1 method_4_code 1 (some .boolean) [] ({ frames := 0, cells := 0, slots := 0, locals := 0 } : Room) #[(.int (4 : Int32))] h0 (PureQ (some (.int (1 : Int32))) h0) := by
  refine OMeets.of pn_rm2_13 #[.val (.int (4 : Int32))] (fun m => by first | rfl | (simp [entryFrame, mkF, argsToLocals, Value.category, maxLocals]; done)) ?_
  intro p e s m below meth c s₁ B X0 e0
  have F := F0
  obtain ⟨S_CASE_IGNORE, E_CASE_IGNORE, S_NUMERIC_STRING, E_NUMERIC_STRING, S_CASE_IGNORE_IA5, E_CASE_IGNORE_IA5, S_OCTET_STRING, E_OCTET_STRING, S_OBJECT_IDENTIFIER_FIRST_COMPONENT, E_OBJECT_IDENTIFIER_FIRST_COMPONENT, S_CASE_IGNORE_LIST, E_CASE_IGNORE_LIST, S_DISTINGUISHED_NAME, E_DISTINGUISHED_NAME, S_CASE_EXACT, E_CASE_EXACT, S_INTEGER_FIRST_COMPONENT, E_INTEGER_FIRST_COMPONENT, S_UNIQUE_MEMBER, E_UNIQUE_MEMBER, S_OBJECT_IDENTIFIER, E_OBJECT_IDENTIFIER, S_TELEPHONE_NUMBER, E_TELEPHONE_NUMBER, F_CASE_IGNORE_substringsName, E_CASE_IGNORE_substringsName, F_NUMERIC_STRING_substringsName, E_NUMERIC_STRING_substringsName, F_CASE_IGNORE_IA5_substringsName, E_CASE_IGNORE_IA5_substringsName, F_OCTET_STRING_substringsName, F_OBJECT_IDENTIFIER_FIRST_COMPONENT_substringsName, F_CASE_IGNORE_LIST_substringsName, E_CASE_IGNORE_LIST_substringsName, F_DISTINGUISHED_NAME_substringsName, F_CASE_EXACT_substringsName, E_CASE_EXACT_substringsName, F_INTEGER_FIRST_COMPONENT_substringsName, F_UNIQUE_MEMBER_substringsName, F_OBJECT_IDENTIFIER_substringsName, F_TELEPHONE_NUMBER_substringsName, E_TELEPHONE_NUMBER_substringsName⟩ := F
  refine s_iloadN B X0 (pc' := 1) d2_0 rfl rfl ?_
  refine s_ifN B X0 (pc' := 4) d2_1 (by decide) rfl ?_
  refine s_iloadN B X0 (pc' := 5) d2_4 rfl rfl ?_
  refine s_iconst B X0 (pc' := 6) (v := (1 : Int32)) d2_5 rfl rfl ?_
  refine s_icmpN B X0 (pc' := 9) d2_6 (by decide) rfl ?_
  refine s_iloadN B X0 (pc' := 10) d2_9 rfl rfl ?_
  refine s_iconst B X0 (pc' := 11) (v := (2 : Int32)) d2_10 rfl rfl ?_
  refine s_icmpN B X0 (pc' := 14) d2_11 (by decide) rfl ?_
  refine s_iloadN B X0 (pc' := 15) d2_14 rfl rfl ?_
  refine s_iconst B X0 (pc' := 16) (v := (3 : Int32)) d2_15 rfl rfl ?_
  refine s_icmpN B X0 (pc' := 19) d2_16 (by decide) rfl ?_
  refine s_iloadN B X0 (pc' := 20) d2_19 rfl rfl ?_
  refine s_iconst B X0 (pc' := 21) (v := (4 : Int32)) d2_20 rfl rfl ?_
  refine s_icmpY B X0 (pc' := 29) d2_21 (by decide) (by decide) (by decide) ?_
  refine s_iconst B X0 (pc' := 30) (v := (1 : Int32)) d2_29 rfl rfl ?_
  exact r_nar B X0 (t := .boolean) (by simp) rfl d2_30 ⟨rfl, rfl, e0⟩ (by decide) (by decide)

theorem pn_rm3_14 : plainName "com/example/waymark/waymark/model/MatchingRule" = true := by first | (simp [plainName, overriddenIn]; done) | decide +kernel
set_option maxRecDepth 65536 in
set_option maxHeartbeats 40000000 in
theorem rm3_14 (l : Launch) (Z : State) (a0 : Array Value) (hw : ∀ d ∈ tables_1, d.before a0 Z = true)  (w_CASE_IGNORE w_NUMERIC_STRING w_CASE_IGNORE_IA5 w_OCTET_STRING w_OBJECT_IDENTIFIER_FIRST_COMPONENT w_CASE_IGNORE_LIST w_DISTINGUISHED_NAME w_CASE_EXACT w_INTEGER_FIRST_COMPONENT w_UNIQUE_MEMBER w_OBJECT_IDENTIFIER w_TELEPHONE_NUMBER w_CASE_IGNORE_substringsName w_NUMERIC_STRING_substringsName w_CASE_IGNORE_IA5_substringsName w_CASE_IGNORE_LIST_substringsName w_CASE_EXACT_substringsName w_TELEPHONE_NUMBER_substringsName : Addr) (h0 : Heap) (F0 : OwnF Z h0 w_CASE_IGNORE w_NUMERIC_STRING w_CASE_IGNORE_IA5 w_OCTET_STRING w_OBJECT_IDENTIFIER_FIRST_COMPONENT w_CASE_IGNORE_LIST w_DISTINGUISHED_NAME w_CASE_EXACT w_INTEGER_FIRST_COMPONENT w_UNIQUE_MEMBER w_OBJECT_IDENTIFIER w_TELEPHONE_NUMBER w_CASE_IGNORE_substringsName w_NUMERIC_STRING_substringsName w_CASE_IGNORE_IA5_substringsName w_CASE_IGNORE_LIST_substringsName w_CASE_EXACT_substringsName w_TELEPHONE_NUMBER_substringsName)  :
    OMeets l Z mn2 prog_62_method_13_code 1 (some .boolean) [] ({ frames := 0, cells := 0, slots := 0, locals := 0 } : Room) #[(.ref w_CASE_IGNORE_LIST)] h0 (PureQ (some (.int (1 : Int32))) h0) := by
  refine OMeets.of pn_rm3_14 #[.val (.ref w_CASE_IGNORE_LIST)] (fun m => by first | rfl | (simp [entryFrame, mkF, argsToLocals, Value.category, maxLocals]; done)) ?_
  intro p e s m below meth c s₁ B X0 e0
  have F := F0
  obtain ⟨S_CASE_IGNORE, E_CASE_IGNORE, S_NUMERIC_STRING, E_NUMERIC_STRING, S_CASE_IGNORE_IA5, E_CASE_IGNORE_IA5, S_OCTET_STRING, E_OCTET_STRING, S_OBJECT_IDENTIFIER_FIRST_COMPONENT, E_OBJECT_IDENTIFIER_FIRST_COMPONENT, S_CASE_IGNORE_LIST, E_CASE_IGNORE_LIST, S_DISTINGUISHED_NAME, E_DISTINGUISHED_NAME, S_CASE_EXACT, E_CASE_EXACT, S_INTEGER_FIRST_COMPONENT, E_INTEGER_FIRST_COMPONENT, S_UNIQUE_MEMBER, E_UNIQUE_MEMBER, S_OBJECT_IDENTIFIER, E_OBJECT_IDENTIFIER, S_TELEPHONE_NUMBER, E_TELEPHONE_NUMBER, F_CASE_IGNORE_substringsName, E_CASE_IGNORE_substringsName, F_NUMERIC_STRING_substringsName, E_NUMERIC_STRING_substringsName, F_CASE_IGNORE_IA5_substringsName, E_CASE_IGNORE_IA5_substringsName, F_OCTET_STRING_substringsName, F_OBJECT_IDENTIFIER_FIRST_COMPONENT_substringsName, F_CASE_IGNORE_LIST_substringsName, E_CASE_IGNORE_LIST_substringsName, F_DISTINGUISHED_NAME_substringsName, F_CASE_EXACT_substringsName, E_CASE_EXACT_substringsName, F_INTEGER_FIRST_COMPONENT_substringsName, F_UNIQUE_MEMBER_substringsName, F_OBJECT_IDENTIFIER_substringsName, F_TELEPHONE_NUMBER_substringsName, E_TELEPHONE_NUMBER_substringsName⟩ := F
  refine s_aloadN B X0 (pc' := 1) d3_0 rfl rfl rfl ?_
  refine s_getF B X0 (pc' := 4) e0 (host := "") (Or.inl (tw16 hw)) Via.refl F_CASE_IGNORE_LIST_substringsName d3_1 rfl (fun T1 X1 e1 => ?_)
  refine s_ifnullN B X1 (pc' := 7) d3_4 rfl ?_
  refine s_iconst B X1 (pc' := 8) (v := (1 : Int32)) d3_7 rfl rfl ?_
  refine s_goto B X1 (pc' := 12) d3_8 (by decide) (by decide) ?_
  exact r_nar B X1 (t := .boolean) (by simp) rfl d3_12 ⟨rfl, rfl, e1⟩ (by decide) (by decide)
theorem d1_44 : decode method_3_code 44 = .ok (.iload_n 0, 1) := by decide +kernel
theorem d1_45 : decode method_3_code 45 = .ok (.iconst 5, 1) := by decide +kernel
theorem d1_46 : decode method_3_code 46 = .ok (.if_icmp .ne 7, 3) := by decide +kernel
theorem d1_49 : decode method_3_code 49 = .ok (.getstatic 40, 3) := by decide +kernel
theorem d1_52 : decode method_3_code 52 = .ok (.areturn, 1) := by decide +kernel
theorem pn_rm1_15 : plainName "com/example/waymark/waymark/model/MatchingRuleHasSubstringsPinLaw" = true := by first | (simp [plainName, overriddenIn]; done) | decide +kernel
set_option maxRecDepth 65536 in
set_option maxHeartbeats 40000000 in
theorem rm1_15 (l : Launch) (Z : State) (a0 : Array Value) (hw : ∀ d ∈ tables_1, d.before a0 Z = true)  (w_CASE_IGNORE w_NUMERIC_STRING w_CASE_IGNORE_IA5 w_OCTET_STRING w_OBJECT_IDENTIFIER_FIRST_COMPONENT w_CASE_IGNORE_LIST w_DISTINGUISHED_NAME w_CASE_EXACT w_INTEGER_FIRST_COMPONENT w_UNIQUE_MEMBER w_OBJECT_IDENTIFIER w_TELEPHONE_NUMBER w_CASE_IGNORE_substringsName w_NUMERIC_STRING_substringsName w_CASE_IGNORE_IA5_substringsName w_CASE_IGNORE_LIST_substringsName w_CASE_EXACT_substringsName w_TELEPHONE_NUMBER_substringsName : Addr) (h0 : Heap) (F0 : OwnF Z h0 w_CASE_IGNORE w_NUMERIC_STRING w_CASE_IGNORE_IA5 w_OCTET_STRING w_OBJECT_IDENTIFIER_FIRST_COMPONENT w_CASE_IGNORE_LIST w_DISTINGUISHED_NAME w_CASE_EXACT w_INTEGER_FIRST_COMPONENT w_UNIQUE_MEMBER w_OBJECT_IDENTIFIER w_TELEPHONE_NUMBER w_CASE_IGNORE_substringsName w_NUMERIC_STRING_substringsName w_CASE_IGNORE_IA5_substringsName w_CASE_IGNORE_LIST_substringsName w_CASE_EXACT_substringsName w_TELEPHONE_NUMBER_substringsName)  :
    OMeets l Z mn0 method_3_code 1 (some (.object "com/example/waymark/waymark/model/MatchingRule")) [] ({ frames := 0, cells := 0, slots := 0, locals := 0 } : Room) #[(.int (5 : Int32))] h0 (PureQ (some (.ref w_TELEPHONE_NUMBER)) h0) := by
  refine OMeets.of pn_rm1_15 #[.val (.int (5 : Int32))] (fun m => by first | rfl | (simp [entryFrame, mkF, argsToLocals, Value.category, maxLocals]; done)) ?_
  intro p e s m below meth c s₁ B X0 e0
  have F := F0
  obtain ⟨S_CASE_IGNORE, E_CASE_IGNORE, S_NUMERIC_STRING, E_NUMERIC_STRING, S_CASE_IGNORE_IA5, E_CASE_IGNORE_IA5, S_OCTET_STRING, E_OCTET_STRING, S_OBJECT_IDENTIFIER_FIRST_COMPONENT, E_OBJECT_IDENTIFIER_FIRST_COMPONENT, S_CASE_IGNORE_LIST, E_CASE_IGNORE_LIST, S_DISTINGUISHED_NAME, E_DISTINGUISHED_NAME, S_CASE_EXACT, E_CASE_EXACT, S_INTEGER_FIRST_COMPONENT, E_INTEGER_FIRST_COMPONENT, S_UNIQUE_MEMBER, E_UNIQUE_MEMBER, S_OBJECT_IDENTIFIER, E_OBJECT_IDENTIFIER, S_TELEPHONE_NUMBER, E_TELEPHONE_NUMBER, F_CASE_IGNORE_substringsName, E_CASE_IGNORE_substringsName, F_NUMERIC_STRING_substringsName, E_NUMERIC_STRING_substringsName, F_CASE_IGNORE_IA5_substringsName, E_CASE_IGNORE_IA5_substringsName, F_OCTET_STRING_substringsName, F_OBJECT_IDENTIFIER_FIRST_COMPONENT_substringsName, F_CASE_IGNORE_LIST_substringsName, E_CASE_IGNORE_LIST_substringsName, F_DISTINGUISHED_NAME_substringsName, F_CASE_EXACT_substringsName, E_CASE_EXACT_substringsName, F_INTEGER_FIRST_COMPONENT_substringsName, F_UNIQUE_MEMBER_substringsName, F_OBJECT_IDENTIFIER_substringsName, F_TELEPHONE_NUMBER_substringsName, E_TELEPHONE_NUMBER_substringsName⟩ := F
  refine s_iloadN B X0 (pc' := 1) d1_0 rfl rfl ?_
  refine s_ifY B X0 (pc' := 8) d1_1 (by decide) (by decide) (by decide) ?_
  refine s_iloadN B X0 (pc' := 9) d1_8 rfl rfl ?_
  refine s_iconst B X0 (pc' := 10) (v := (1 : Int32)) d1_9 rfl rfl ?_
  refine s_icmpY B X0 (pc' := 17) d1_10 (by decide) (by decide) (by decide) ?_
  refine s_iloadN B X0 (pc' := 18) d1_17 rfl rfl ?_
  refine s_iconst B X0 (pc' := 19) (v := (2 : Int32)) d1_18 rfl rfl ?_
  refine s_icmpY B X0 (pc' := 26) d1_19 (by decide) (by decide) (by decide) ?_
  refine s_iloadN B X0 (pc' := 27) d1_26 rfl rfl ?_
  refine s_iconst B X0 (pc' := 28) (v := (3 : Int32)) d1_27 rfl rfl ?_
  refine s_icmpY B X0 (pc' := 35) d1_28 (by decide) (by decide) (by decide) ?_
  refine s_iloadN B X0 (pc' := 36) d1_35 rfl rfl ?_
  refine s_iconst B X0 (pc' := 37) (v := (4 : Int32)) d1_36 rfl rfl ?_
  refine s_icmpY B X0 (pc' := 44) d1_37 (by decide) (by decide) (by decide) ?_
  refine s_iloadN B X0 (pc' := 45) d1_44 rfl rfl ?_
  refine s_iconst B X0 (pc' := 46) (v := (5 : Int32)) d1_45 rfl rfl ?_
  refine s_icmpN B X0 (pc' := 49) d1_46 (by decide) rfl ?_
  refine s_getS B X0 (pc' := 52) e0 (tw38 hw) Via.refl S_TELEPHONE_NUMBER d1_49 rfl (fun T1 X1 e1 => ?_)
  exact r_ref B X1 (t := (.object "com/example/waymark/waymark/model/MatchingRule")) rfl rfl rfl rfl d1_52 ⟨rfl, rfl, e1⟩ (by decide) (by decide)
theorem d2_24 : decode method_4_code 24 = .ok (.iload_n 0, 1) := by decide +kernel
theorem d2_25 : decode method_4_code 25 = .ok (.iconst 5, 1) := by decide +kernel
theorem d2_26 : decode method_4_code 26 = .ok (.if_icmp .ne 5, 3) := by decide +kernel
theorem pn_rm2_16 : plainName "com/example/waymark/waymark/model/MatchingRuleHasSubstringsPinLaw" = true := by first | (simp [plainName, overriddenIn]; done) | decide +kernel
set_option maxRecDepth 65536 in
set_option maxHeartbeats 40000000 in
theorem rm2_16 (l : Launch) (Z : State) (a0 : Array Value) (hw : ∀ d ∈ tables_1, d.before a0 Z = true)  (w_CASE_IGNORE w_NUMERIC_STRING w_CASE_IGNORE_IA5 w_OCTET_STRING w_OBJECT_IDENTIFIER_FIRST_COMPONENT w_CASE_IGNORE_LIST w_DISTINGUISHED_NAME w_CASE_EXACT w_INTEGER_FIRST_COMPONENT w_UNIQUE_MEMBER w_OBJECT_IDENTIFIER w_TELEPHONE_NUMBER w_CASE_IGNORE_substringsName w_NUMERIC_STRING_substringsName w_CASE_IGNORE_IA5_substringsName w_CASE_IGNORE_LIST_substringsName w_CASE_EXACT_substringsName w_TELEPHONE_NUMBER_substringsName : Addr) (h0 : Heap) (F0 : OwnF Z h0 w_CASE_IGNORE w_NUMERIC_STRING w_CASE_IGNORE_IA5 w_OCTET_STRING w_OBJECT_IDENTIFIER_FIRST_COMPONENT w_CASE_IGNORE_LIST w_DISTINGUISHED_NAME w_CASE_EXACT w_INTEGER_FIRST_COMPONENT w_UNIQUE_MEMBER w_OBJECT_IDENTIFIER w_TELEPHONE_NUMBER w_CASE_IGNORE_substringsName w_NUMERIC_STRING_substringsName w_CASE_IGNORE_IA5_substringsName w_CASE_IGNORE_LIST_substringsName w_CASE_EXACT_substringsName w_TELEPHONE_NUMBER_substringsName)  :
    OMeets l Z mn1 method_4_code 1 (some .boolean) [] ({ frames := 0, cells := 0, slots := 0, locals := 0 } : Room) #[(.int (5 : Int32))] h0 (PureQ (some (.int (1 : Int32))) h0) := by
  refine OMeets.of pn_rm2_16 #[.val (.int (5 : Int32))] (fun m => by first | rfl | (simp [entryFrame, mkF, argsToLocals, Value.category, maxLocals]; done)) ?_
  intro p e s m below meth c s₁ B X0 e0
  have F := F0
  obtain ⟨S_CASE_IGNORE, E_CASE_IGNORE, S_NUMERIC_STRING, E_NUMERIC_STRING, S_CASE_IGNORE_IA5, E_CASE_IGNORE_IA5, S_OCTET_STRING, E_OCTET_STRING, S_OBJECT_IDENTIFIER_FIRST_COMPONENT, E_OBJECT_IDENTIFIER_FIRST_COMPONENT, S_CASE_IGNORE_LIST, E_CASE_IGNORE_LIST, S_DISTINGUISHED_NAME, E_DISTINGUISHED_NAME, S_CASE_EXACT, E_CASE_EXACT, S_INTEGER_FIRST_COMPONENT, E_INTEGER_FIRST_COMPONENT, S_UNIQUE_MEMBER, E_UNIQUE_MEMBER, S_OBJECT_IDENTIFIER, E_OBJECT_IDENTIFIER, S_TELEPHONE_NUMBER, E_TELEPHONE_NUMBER, F_CASE_IGNORE_substringsName, E_CASE_IGNORE_substringsName, F_NUMERIC_STRING_substringsName, E_NUMERIC_STRING_substringsName, F_CASE_IGNORE_IA5_substringsName, E_CASE_IGNORE_IA5_substringsName, F_OCTET_STRING_substringsName, F_OBJECT_IDENTIFIER_FIRST_COMPONENT_substringsName, F_CASE_IGNORE_LIST_substringsName, E_CASE_IGNORE_LIST_substringsName, F_DISTINGUISHED_NAME_substringsName, F_CASE_EXACT_substringsName, E_CASE_EXACT_substringsName, F_INTEGER_FIRST_COMPONENT_substringsName, F_UNIQUE_MEMBER_substringsName, F_OBJECT_IDENTIFIER_substringsName, F_TELEPHONE_NUMBER_substringsName, E_TELEPHONE_NUMBER_substringsName⟩ := F
  refine s_iloadN B X0 (pc' := 1) d2_0 rfl rfl ?_
  refine s_ifN B X0 (pc' := 4) d2_1 (by decide) rfl ?_
  refine s_iloadN B X0 (pc' := 5) d2_4 rfl rfl ?_
  refine s_iconst B X0 (pc' := 6) (v := (1 : Int32)) d2_5 rfl rfl ?_
  refine s_icmpN B X0 (pc' := 9) d2_6 (by decide) rfl ?_
  refine s_iloadN B X0 (pc' := 10) d2_9 rfl rfl ?_
  refine s_iconst B X0 (pc' := 11) (v := (2 : Int32)) d2_10 rfl rfl ?_
  refine s_icmpN B X0 (pc' := 14) d2_11 (by decide) rfl ?_
  refine s_iloadN B X0 (pc' := 15) d2_14 rfl rfl ?_
  refine s_iconst B X0 (pc' := 16) (v := (3 : Int32)) d2_15 rfl rfl ?_
  refine s_icmpN B X0 (pc' := 19) d2_16 (by decide) rfl ?_
  refine s_iloadN B X0 (pc' := 20) d2_19 rfl rfl ?_
  refine s_iconst B X0 (pc' := 21) (v := (4 : Int32)) d2_20 rfl rfl ?_
  refine s_icmpN B X0 (pc' := 24) d2_21 (by decide) rfl ?_
  refine s_iloadN B X0 (pc' := 25) d2_24 rfl rfl ?_
  refine s_iconst B X0 (pc' := 26) (v := (5 : Int32)) d2_25 rfl rfl ?_
  refine s_icmpN B X0 (pc' := 29) d2_26 (by decide) rfl ?_
  refine s_iconst B X0 (pc' := 30) (v := (1 : Int32)) d2_29 rfl rfl ?_
  exact r_nar B X0 (t := .boolean) (by simp) rfl d2_30 ⟨rfl, rfl, e0⟩ (by decide) (by decide)

theorem pn_rm3_17 : plainName "com/example/waymark/waymark/model/MatchingRule" = true := by first | (simp [plainName, overriddenIn]; done) | decide +kernel
set_option maxRecDepth 65536 in
set_option maxHeartbeats 40000000 in
theorem rm3_17 (l : Launch) (Z : State) (a0 : Array Value) (hw : ∀ d ∈ tables_1, d.before a0 Z = true)  (w_CASE_IGNORE w_NUMERIC_STRING w_CASE_IGNORE_IA5 w_OCTET_STRING w_OBJECT_IDENTIFIER_FIRST_COMPONENT w_CASE_IGNORE_LIST w_DISTINGUISHED_NAME w_CASE_EXACT w_INTEGER_FIRST_COMPONENT w_UNIQUE_MEMBER w_OBJECT_IDENTIFIER w_TELEPHONE_NUMBER w_CASE_IGNORE_substringsName w_NUMERIC_STRING_substringsName w_CASE_IGNORE_IA5_substringsName w_CASE_IGNORE_LIST_substringsName w_CASE_EXACT_substringsName w_TELEPHONE_NUMBER_substringsName : Addr) (h0 : Heap) (F0 : OwnF Z h0 w_CASE_IGNORE w_NUMERIC_STRING w_CASE_IGNORE_IA5 w_OCTET_STRING w_OBJECT_IDENTIFIER_FIRST_COMPONENT w_CASE_IGNORE_LIST w_DISTINGUISHED_NAME w_CASE_EXACT w_INTEGER_FIRST_COMPONENT w_UNIQUE_MEMBER w_OBJECT_IDENTIFIER w_TELEPHONE_NUMBER w_CASE_IGNORE_substringsName w_NUMERIC_STRING_substringsName w_CASE_IGNORE_IA5_substringsName w_CASE_IGNORE_LIST_substringsName w_CASE_EXACT_substringsName w_TELEPHONE_NUMBER_substringsName)  :
    OMeets l Z mn2 prog_62_method_13_code 1 (some .boolean) [] ({ frames := 0, cells := 0, slots := 0, locals := 0 } : Room) #[(.ref w_TELEPHONE_NUMBER)] h0 (PureQ (some (.int (1 : Int32))) h0) := by
  refine OMeets.of pn_rm3_17 #[.val (.ref w_TELEPHONE_NUMBER)] (fun m => by first | rfl | (simp [entryFrame, mkF, argsToLocals, Value.category, maxLocals]; done)) ?_
  intro p e s m below meth c s₁ B X0 e0
  have F := F0
  obtain ⟨S_CASE_IGNORE, E_CASE_IGNORE, S_NUMERIC_STRING, E_NUMERIC_STRING, S_CASE_IGNORE_IA5, E_CASE_IGNORE_IA5, S_OCTET_STRING, E_OCTET_STRING, S_OBJECT_IDENTIFIER_FIRST_COMPONENT, E_OBJECT_IDENTIFIER_FIRST_COMPONENT, S_CASE_IGNORE_LIST, E_CASE_IGNORE_LIST, S_DISTINGUISHED_NAME, E_DISTINGUISHED_NAME, S_CASE_EXACT, E_CASE_EXACT, S_INTEGER_FIRST_COMPONENT, E_INTEGER_FIRST_COMPONENT, S_UNIQUE_MEMBER, E_UNIQUE_MEMBER, S_OBJECT_IDENTIFIER, E_OBJECT_IDENTIFIER, S_TELEPHONE_NUMBER, E_TELEPHONE_NUMBER, F_CASE_IGNORE_substringsName, E_CASE_IGNORE_substringsName, F_NUMERIC_STRING_substringsName, E_NUMERIC_STRING_substringsName, F_CASE_IGNORE_IA5_substringsName, E_CASE_IGNORE_IA5_substringsName, F_OCTET_STRING_substringsName, F_OBJECT_IDENTIFIER_FIRST_COMPONENT_substringsName, F_CASE_IGNORE_LIST_substringsName, E_CASE_IGNORE_LIST_substringsName, F_DISTINGUISHED_NAME_substringsName, F_CASE_EXACT_substringsName, E_CASE_EXACT_substringsName, F_INTEGER_FIRST_COMPONENT_substringsName, F_UNIQUE_MEMBER_substringsName, F_OBJECT_IDENTIFIER_substringsName, F_TELEPHONE_NUMBER_substringsName, E_TELEPHONE_NUMBER_substringsName⟩ := F
  refine s_aloadN B X0 (pc' := 1) d3_0 rfl rfl rfl ?_
  refine s_getF B X0 (pc' := 4) e0 (host := "") (Or.inl (tw16 hw)) Via.refl F_TELEPHONE_NUMBER_substringsName d3_1 rfl (fun T1 X1 e1 => ?_)
  refine s_ifnullN B X1 (pc' := 7) d3_4 rfl ?_
  refine s_iconst B X1 (pc' := 8) (v := (1 : Int32)) d3_7 rfl rfl ?_
  refine s_goto B X1 (pc' := 12) d3_8 (by decide) (by decide) ?_
  exact r_nar B X1 (t := .boolean) (by simp) rfl d3_12 ⟨rfl, rfl, e1⟩ (by decide) (by decide)
theorem d1_53 : decode method_3_code 53 = .ok (.iload_n 0, 1) := by decide +kernel
theorem d1_54 : decode method_3_code 54 = .ok (.bipush 6, 2) := by decide +kernel
theorem d1_56 : decode method_3_code 56 = .ok (.if_icmp .ne 7, 3) := by decide +kernel
theorem d1_59 : decode method_3_code 59 = .ok (.getstatic 43, 3) := by decide +kernel
theorem d1_62 : decode method_3_code 62 = .ok (.areturn, 1) := by decide +kernel
theorem pn_rm1_18 : plainName "com/example/waymark/waymark/model/MatchingRuleHasSubstringsPinLaw" = true := by first | (simp [plainName, overriddenIn]; done) | decide +kernel
set_option maxRecDepth 65536 in
set_option maxHeartbeats 40000000 in
theorem rm1_18 (l : Launch) (Z : State) (a0 : Array Value) (hw : ∀ d ∈ tables_1, d.before a0 Z = true)  (w_CASE_IGNORE w_NUMERIC_STRING w_CASE_IGNORE_IA5 w_OCTET_STRING w_OBJECT_IDENTIFIER_FIRST_COMPONENT w_CASE_IGNORE_LIST w_DISTINGUISHED_NAME w_CASE_EXACT w_INTEGER_FIRST_COMPONENT w_UNIQUE_MEMBER w_OBJECT_IDENTIFIER w_TELEPHONE_NUMBER w_CASE_IGNORE_substringsName w_NUMERIC_STRING_substringsName w_CASE_IGNORE_IA5_substringsName w_CASE_IGNORE_LIST_substringsName w_CASE_EXACT_substringsName w_TELEPHONE_NUMBER_substringsName : Addr) (h0 : Heap) (F0 : OwnF Z h0 w_CASE_IGNORE w_NUMERIC_STRING w_CASE_IGNORE_IA5 w_OCTET_STRING w_OBJECT_IDENTIFIER_FIRST_COMPONENT w_CASE_IGNORE_LIST w_DISTINGUISHED_NAME w_CASE_EXACT w_INTEGER_FIRST_COMPONENT w_UNIQUE_MEMBER w_OBJECT_IDENTIFIER w_TELEPHONE_NUMBER w_CASE_IGNORE_substringsName w_NUMERIC_STRING_substringsName w_CASE_IGNORE_IA5_substringsName w_CASE_IGNORE_LIST_substringsName w_CASE_EXACT_substringsName w_TELEPHONE_NUMBER_substringsName)  :
    OMeets l Z mn0 method_3_code 1 (some (.object "com/example/waymark/waymark/model/MatchingRule")) [] ({ frames := 0, cells := 0, slots := 0, locals := 0 } : Room) #[(.int (6 : Int32))] h0 (PureQ (some (.ref w_OBJECT_IDENTIFIER)) h0) := by
  refine OMeets.of pn_rm1_18 #[.val (.int (6 : Int32))] (fun m => by first | rfl | (simp [entryFrame, mkF, argsToLocals, Value.category, maxLocals]; done)) ?_
  intro p e s m below meth c s₁ B X0 e0
  have F := F0
  obtain ⟨S_CASE_IGNORE, E_CASE_IGNORE, S_NUMERIC_STRING, E_NUMERIC_STRING, S_CASE_IGNORE_IA5, E_CASE_IGNORE_IA5, S_OCTET_STRING, E_OCTET_STRING, S_OBJECT_IDENTIFIER_FIRST_COMPONENT, E_OBJECT_IDENTIFIER_FIRST_COMPONENT, S_CASE_IGNORE_LIST, E_CASE_IGNORE_LIST, S_DISTINGUISHED_NAME, E_DISTINGUISHED_NAME, S_CASE_EXACT, E_CASE_EXACT, S_INTEGER_FIRST_COMPONENT, E_INTEGER_FIRST_COMPONENT, S_UNIQUE_MEMBER, E_UNIQUE_MEMBER, S_OBJECT_IDENTIFIER, E_OBJECT_IDENTIFIER, S_TELEPHONE_NUMBER, E_TELEPHONE_NUMBER, F_CASE_IGNORE_substringsName, E_CASE_IGNORE_substringsName, F_NUMERIC_STRING_substringsName, E_NUMERIC_STRING_substringsName, F_CASE_IGNORE_IA5_substringsName, E_CASE_IGNORE_IA5_substringsName, F_OCTET_STRING_substringsName, F_OBJECT_IDENTIFIER_FIRST_COMPONENT_substringsName, F_CASE_IGNORE_LIST_substringsName, E_CASE_IGNORE_LIST_substringsName, F_DISTINGUISHED_NAME_substringsName, F_CASE_EXACT_substringsName, E_CASE_EXACT_substringsName, F_INTEGER_FIRST_COMPONENT_substringsName, F_UNIQUE_MEMBER_substringsName, F_OBJECT_IDENTIFIER_substringsName, F_TELEPHONE_NUMBER_substringsName, E_TELEPHONE_NUMBER_substringsName⟩ := F
  refine s_iloadN B X0 (pc' := 1) d1_0 rfl rfl ?_
  refine s_ifY B X0 (pc' := 8) d1_1 (by decide) (by decide) (by decide) ?_
  refine s_iloadN B X0 (pc' := 9) d1_8 rfl rfl ?_
  refine s_iconst B X0 (pc' := 10) (v := (1 : Int32)) d1_9 rfl rfl ?_
  refine s_icmpY B X0 (pc' := 17) d1_10 (by decide) (by decide) (by decide) ?_
  refine s_iloadN B X0 (pc' := 18) d1_17 rfl rfl ?_
  refine s_iconst B X0 (pc' := 19) (v := (2 : Int32)) d1_18 rfl rfl ?_
  refine s_icmpY B X0 (pc' := 26) d1_19 (by decide) (by decide) (by decide) ?_
  refine s_iloadN B X0 (pc' := 27) d1_26 rfl rfl ?_
  refine s_iconst B X0 (pc' := 28) (v := (3 : Int32)) d1_27 rfl rfl ?_
  refine s_icmpY B X0 (pc' := 35) d1_28 (by decide) (by decide) (by decide) ?_
  refine s_iloadN B X0 (pc' := 36) d1_35 rfl rfl ?_
  refine s_iconst B X0 (pc' := 37) (v := (4 : Int32)) d1_36 rfl rfl ?_
  refine s_icmpY B X0 (pc' := 44) d1_37 (by decide) (by decide) (by decide) ?_
  refine s_iloadN B X0 (pc' := 45) d1_44 rfl rfl ?_
  refine s_iconst B X0 (pc' := 46) (v := (5 : Int32)) d1_45 rfl rfl ?_
  refine s_icmpY B X0 (pc' := 53) d1_46 (by decide) (by decide) (by decide) ?_
  refine s_iloadN B X0 (pc' := 54) d1_53 rfl rfl ?_
  refine s_bipush B X0 (pc' := 56) (v := (6 : Int32)) d1_54 rfl rfl ?_
  refine s_icmpN B X0 (pc' := 59) d1_56 (by decide) rfl ?_
  refine s_getS B X0 (pc' := 62) e0 (tw36 hw) Via.refl S_OBJECT_IDENTIFIER d1_59 rfl (fun T1 X1 e1 => ?_)
  exact r_ref B X1 (t := (.object "com/example/waymark/waymark/model/MatchingRule")) rfl rfl rfl rfl d1_62 ⟨rfl, rfl, e1⟩ (by decide) (by decide)
theorem d2_31 : decode method_4_code 31 = .ok (.iconst 0, 1) := by decide +kernel
theorem d2_32 : decode method_4_code 32 = .ok (.ireturn, 1) := by decide +kernel
theorem pn_rm2_19 : plainName "com/example/waymark/waymark/model/MatchingRuleHasSubstringsPinLaw" = true := by first | (simp [plainName, overriddenIn]; done) | decide +kernel
set_option maxRecDepth 65536 in
set_option maxHeartbeats 40000000 in
theorem rm2_19 (l : Launch) (Z : State) (a0 : Array Value) (hw : ∀ d ∈ tables_1, d.before a0 Z = true)  (w_CASE_IGNORE w_NUMERIC_STRING w_CASE_IGNORE_IA5 w_OCTET_STRING w_OBJECT_IDENTIFIER_FIRST_COMPONENT w_CASE_IGNORE_LIST w_DISTINGUISHED_NAME w_CASE_EXACT w_INTEGER_FIRST_COMPONENT w_UNIQUE_MEMBER w_OBJECT_IDENTIFIER w_TELEPHONE_NUMBER w_CASE_IGNORE_substringsName w_NUMERIC_STRING_substringsName w_CASE_IGNORE_IA5_substringsName w_CASE_IGNORE_LIST_substringsName w_CASE_EXACT_substringsName w_TELEPHONE_NUMBER_substringsName : Addr) (h0 : Heap) (F0 : OwnF Z h0 w_CASE_IGNORE w_NUMERIC_STRING w_CASE_IGNORE_IA5 w_OCTET_STRING w_OBJECT_IDENTIFIER_FIRST_COMPONENT w_CASE_IGNORE_LIST w_DISTINGUISHED_NAME w_CASE_EXACT w_INTEGER_FIRST_COMPONENT w_UNIQUE_MEMBER w_OBJECT_IDENTIFIER w_TELEPHONE_NUMBER w_CASE_IGNORE_substringsName w_NUMERIC_STRING_substringsName w_CASE_IGNORE_IA5_substringsName w_CASE_IGNORE_LIST_substringsName w_CASE_EXACT_substringsName w_TELEPHONE_NUMBER_substringsName)  :
    OMeets l Z mn1 method_4_code 1 (some .boolean) [] ({ frames := 0, cells := 0, slots := 0, locals := 0 } : Room) #[(.int (6 : Int32))] h0 (PureQ (some (.int (0 : Int32))) h0) := by
  refine OMeets.of pn_rm2_19 #[.val (.int (6 : Int32))] (fun m => by first | rfl | (simp [entryFrame, mkF, argsToLocals, Value.category, maxLocals]; done)) ?_
  intro p e s m below meth c s₁ B X0 e0
  have F := F0
  obtain ⟨S_CASE_IGNORE, E_CASE_IGNORE, S_NUMERIC_STRING, E_NUMERIC_STRING, S_CASE_IGNORE_IA5, E_CASE_IGNORE_IA5, S_OCTET_STRING, E_OCTET_STRING, S_OBJECT_IDENTIFIER_FIRST_COMPONENT, E_OBJECT_IDENTIFIER_FIRST_COMPONENT, S_CASE_IGNORE_LIST, E_CASE_IGNORE_LIST, S_DISTINGUISHED_NAME, E_DISTINGUISHED_NAME, S_CASE_EXACT, E_CASE_EXACT, S_INTEGER_FIRST_COMPONENT, E_INTEGER_FIRST_COMPONENT, S_UNIQUE_MEMBER, E_UNIQUE_MEMBER, S_OBJECT_IDENTIFIER, E_OBJECT_IDENTIFIER, S_TELEPHONE_NUMBER, E_TELEPHONE_NUMBER, F_CASE_IGNORE_substringsName, E_CASE_IGNORE_substringsName, F_NUMERIC_STRING_substringsName, E_NUMERIC_STRING_substringsName, F_CASE_IGNORE_IA5_substringsName, E_CASE_IGNORE_IA5_substringsName, F_OCTET_STRING_substringsName, F_OBJECT_IDENTIFIER_FIRST_COMPONENT_substringsName, F_CASE_IGNORE_LIST_substringsName, E_CASE_IGNORE_LIST_substringsName, F_DISTINGUISHED_NAME_substringsName, F_CASE_EXACT_substringsName, E_CASE_EXACT_substringsName, F_INTEGER_FIRST_COMPONENT_substringsName, F_UNIQUE_MEMBER_substringsName, F_OBJECT_IDENTIFIER_substringsName, F_TELEPHONE_NUMBER_substringsName, E_TELEPHONE_NUMBER_substringsName⟩ := F
  refine s_iloadN B X0 (pc' := 1) d2_0 rfl rfl ?_
  refine s_ifN B X0 (pc' := 4) d2_1 (by decide) rfl ?_
  refine s_iloadN B X0 (pc' := 5) d2_4 rfl rfl ?_
  refine s_iconst B X0 (pc' := 6) (v := (1 : Int32)) d2_5 rfl rfl ?_
  refine s_icmpN B X0 (pc' := 9) d2_6 (by decide) rfl ?_
  refine s_iloadN B X0 (pc' := 10) d2_9 rfl rfl ?_
  refine s_iconst B X0 (pc' := 11) (v := (2 : Int32)) d2_10 rfl rfl ?_
  refine s_icmpN B X0 (pc' := 14) d2_11 (by decide) rfl ?_
  refine s_iloadN B X0 (pc' := 15) d2_14 rfl rfl ?_
  refine s_iconst B X0 (pc' := 16) (v := (3 : Int32)) d2_15 rfl rfl ?_
  refine s_icmpN B X0 (pc' := 19) d2_16 (by decide) rfl ?_
  refine s_iloadN B X0 (pc' := 20) d2_19 rfl rfl ?_
  refine s_iconst B X0 (pc' := 21) (v := (4 : Int32)) d2_20 rfl rfl ?_
  refine s_icmpN B X0 (pc' := 24) d2_21 (by decide) rfl ?_
  refine s_iloadN B X0 (pc' := 25) d2_24 rfl rfl ?_
  refine s_iconst B X0 (pc' := 26) (v := (5 : Int32)) d2_25 rfl rfl ?_
  refine s_icmpY B X0 (pc' := 31) d2_26 (by decide) (by decide) (by decide) ?_
  refine s_iconst B X0 (pc' := 32) (v := (0 : Int32)) d2_31 rfl rfl ?_
  exact r_nar B X0 (t := .boolean) (by simp) rfl d2_32 ⟨rfl, rfl, e0⟩ (by decide) (by decide)
theorem d3_11 : decode prog_62_method_13_code 11 = .ok (.iconst 0, 1) := by decide +kernel
theorem pn_rm3_20 : plainName "com/example/waymark/waymark/model/MatchingRule" = true := by first | (simp [plainName, overriddenIn]; done) | decide +kernel
set_option maxRecDepth 65536 in
set_option maxHeartbeats 40000000 in
theorem rm3_20 (l : Launch) (Z : State) (a0 : Array Value) (hw : ∀ d ∈ tables_1, d.before a0 Z = true)  (w_CASE_IGNORE w_NUMERIC_STRING w_CASE_IGNORE_IA5 w_OCTET_STRING w_OBJECT_IDENTIFIER_FIRST_COMPONENT w_CASE_IGNORE_LIST w_DISTINGUISHED_NAME w_CASE_EXACT w_INTEGER_FIRST_COMPONENT w_UNIQUE_MEMBER w_OBJECT_IDENTIFIER w_TELEPHONE_NUMBER w_CASE_IGNORE_substringsName w_NUMERIC_STRING_substringsName w_CASE_IGNORE_IA5_substringsName w_CASE_IGNORE_LIST_substringsName w_CASE_EXACT_substringsName w_TELEPHONE_NUMBER_substringsName : Addr) (h0 : Heap) (F0 : OwnF Z h0 w_CASE_IGNORE w_NUMERIC_STRING w_CASE_IGNORE_IA5 w_OCTET_STRING w_OBJECT_IDENTIFIER_FIRST_COMPONENT w_CASE_IGNORE_LIST w_DISTINGUISHED_NAME w_CASE_EXACT w_INTEGER_FIRST_COMPONENT w_UNIQUE_MEMBER w_OBJECT_IDENTIFIER w_TELEPHONE_NUMBER w_CASE_IGNORE_substringsName w_NUMERIC_STRING_substringsName w_CASE_IGNORE_IA5_substringsName w_CASE_IGNORE_LIST_substringsName w_CASE_EXACT_substringsName w_TELEPHONE_NUMBER_substringsName)  :
    OMeets l Z mn2 prog_62_method_13_code 1 (some .boolean) [] ({ frames := 0, cells := 0, slots := 0, locals := 0 } : Room) #[(.ref w_OBJECT_IDENTIFIER)] h0 (PureQ (some (.int (0 : Int32))) h0) := by
  refine OMeets.of pn_rm3_20 #[.val (.ref w_OBJECT_IDENTIFIER)] (fun m => by first | rfl | (simp [entryFrame, mkF, argsToLocals, Value.category, maxLocals]; done)) ?_
  intro p e s m below meth c s₁ B X0 e0
  have F := F0
  obtain ⟨S_CASE_IGNORE, E_CASE_IGNORE, S_NUMERIC_STRING, E_NUMERIC_STRING, S_CASE_IGNORE_IA5, E_CASE_IGNORE_IA5, S_OCTET_STRING, E_OCTET_STRING, S_OBJECT_IDENTIFIER_FIRST_COMPONENT, E_OBJECT_IDENTIFIER_FIRST_COMPONENT, S_CASE_IGNORE_LIST, E_CASE_IGNORE_LIST, S_DISTINGUISHED_NAME, E_DISTINGUISHED_NAME, S_CASE_EXACT, E_CASE_EXACT, S_INTEGER_FIRST_COMPONENT, E_INTEGER_FIRST_COMPONENT, S_UNIQUE_MEMBER, E_UNIQUE_MEMBER, S_OBJECT_IDENTIFIER, E_OBJECT_IDENTIFIER, S_TELEPHONE_NUMBER, E_TELEPHONE_NUMBER, F_CASE_IGNORE_substringsName, E_CASE_IGNORE_substringsName, F_NUMERIC_STRING_substringsName, E_NUMERIC_STRING_substringsName, F_CASE_IGNORE_IA5_substringsName, E_CASE_IGNORE_IA5_substringsName, F_OCTET_STRING_substringsName, F_OBJECT_IDENTIFIER_FIRST_COMPONENT_substringsName, F_CASE_IGNORE_LIST_substringsName, E_CASE_IGNORE_LIST_substringsName, F_DISTINGUISHED_NAME_substringsName, F_CASE_EXACT_substringsName, E_CASE_EXACT_substringsName, F_INTEGER_FIRST_COMPONENT_substringsName, F_UNIQUE_MEMBER_substringsName, F_OBJECT_IDENTIFIER_substringsName, F_TELEPHONE_NUMBER_substringsName, E_TELEPHONE_NUMBER_substringsName⟩ := F
  refine s_aloadN B X0 (pc' := 1) d3_0 rfl rfl rfl ?_
  refine s_getF B X0 (pc' := 4) e0 (host := "") (Or.inl (tw16 hw)) Via.refl F_OBJECT_IDENTIFIER_substringsName d3_1 rfl (fun T1 X1 e1 => ?_)
  refine s_ifnullY B X1 (pc' := 11) d3_4 (by decide) (by decide) ?_
  refine s_iconst B X1 (pc' := 12) (v := (0 : Int32)) d3_11 rfl rfl ?_
  exact r_nar B X1 (t := .boolean) (by simp) rfl d3_12 ⟨rfl, rfl, e1⟩ (by decide) (by decide)
theorem d1_63 : decode method_3_code 63 = .ok (.iload_n 0, 1) := by decide +kernel
theorem d1_64 : decode method_3_code 64 = .ok (.bipush 7, 2) := by decide +kernel
theorem d1_66 : decode method_3_code 66 = .ok (.if_icmp .ne 7, 3) := by decide +kernel
theorem d1_69 : decode method_3_code 69 = .ok (.getstatic 46, 3) := by decide +kernel
theorem d1_72 : decode method_3_code 72 = .ok (.areturn, 1) := by decide +kernel
theorem pn_rm1_21 : plainName "com/example/waymark/waymark/model/MatchingRuleHasSubstringsPinLaw" = true := by first | (simp [plainName, overriddenIn]; done) | decide +kernel
set_option maxRecDepth 65536 in
set_option maxHeartbeats 40000000 in
theorem rm1_21 (l : Launch) (Z : State) (a0 : Array Value) (hw : ∀ d ∈ tables_1, d.before a0 Z = true)  (w_CASE_IGNORE w_NUMERIC_STRING w_CASE_IGNORE_IA5 w_OCTET_STRING w_OBJECT_IDENTIFIER_FIRST_COMPONENT w_CASE_IGNORE_LIST w_DISTINGUISHED_NAME w_CASE_EXACT w_INTEGER_FIRST_COMPONENT w_UNIQUE_MEMBER w_OBJECT_IDENTIFIER w_TELEPHONE_NUMBER w_CASE_IGNORE_substringsName w_NUMERIC_STRING_substringsName w_CASE_IGNORE_IA5_substringsName w_CASE_IGNORE_LIST_substringsName w_CASE_EXACT_substringsName w_TELEPHONE_NUMBER_substringsName : Addr) (h0 : Heap) (F0 : OwnF Z h0 w_CASE_IGNORE w_NUMERIC_STRING w_CASE_IGNORE_IA5 w_OCTET_STRING w_OBJECT_IDENTIFIER_FIRST_COMPONENT w_CASE_IGNORE_LIST w_DISTINGUISHED_NAME w_CASE_EXACT w_INTEGER_FIRST_COMPONENT w_UNIQUE_MEMBER w_OBJECT_IDENTIFIER w_TELEPHONE_NUMBER w_CASE_IGNORE_substringsName w_NUMERIC_STRING_substringsName w_CASE_IGNORE_IA5_substringsName w_CASE_IGNORE_LIST_substringsName w_CASE_EXACT_substringsName w_TELEPHONE_NUMBER_substringsName)  :
    OMeets l Z mn0 method_3_code 1 (some (.object "com/example/waymark/waymark/model/MatchingRule")) [] ({ frames := 0, cells := 0, slots := 0, locals := 0 } : Room) #[(.int (7 : Int32))] h0 (PureQ (some (.ref w_OCTET_STRING)) h0) := by
  refine OMeets.of pn_rm1_21 #[.val (.int (7 : Int32))] (fun m => by first | rfl | (simp [entryFrame, mkF, argsToLocals, Value.category, maxLocals]; done)) ?_
  intro p e s m below meth c s₁ B X0 e0
  have F := F0
  obtain ⟨S_CASE_IGNORE, E_CASE_IGNORE, S_NUMERIC_STRING, E_NUMERIC_STRING, S_CASE_IGNORE_IA5, E_CASE_IGNORE_IA5, S_OCTET_STRING, E_OCTET_STRING, S_OBJECT_IDENTIFIER_FIRST_COMPONENT, E_OBJECT_IDENTIFIER_FIRST_COMPONENT, S_CASE_IGNORE_LIST, E_CASE_IGNORE_LIST, S_DISTINGUISHED_NAME, E_DISTINGUISHED_NAME, S_CASE_EXACT, E_CASE_EXACT, S_INTEGER_FIRST_COMPONENT, E_INTEGER_FIRST_COMPONENT, S_UNIQUE_MEMBER, E_UNIQUE_MEMBER, S_OBJECT_IDENTIFIER, E_OBJECT_IDENTIFIER, S_TELEPHONE_NUMBER, E_TELEPHONE_NUMBER, F_CASE_IGNORE_substringsName, E_CASE_IGNORE_substringsName, F_NUMERIC_STRING_substringsName, E_NUMERIC_STRING_substringsName, F_CASE_IGNORE_IA5_substringsName, E_CASE_IGNORE_IA5_substringsName, F_OCTET_STRING_substringsName, F_OBJECT_IDENTIFIER_FIRST_COMPONENT_substringsName, F_CASE_IGNORE_LIST_substringsName, E_CASE_IGNORE_LIST_substringsName, F_DISTINGUISHED_NAME_substringsName, F_CASE_EXACT_substringsName, E_CASE_EXACT_substringsName, F_INTEGER_FIRST_COMPONENT_substringsName, F_UNIQUE_MEMBER_substringsName, F_OBJECT_IDENTIFIER_substringsName, F_TELEPHONE_NUMBER_substringsName, E_TELEPHONE_NUMBER_substringsName⟩ := F
  refine s_iloadN B X0 (pc' := 1) d1_0 rfl rfl ?_
  refine s_ifY B X0 (pc' := 8) d1_1 (by decide) (by decide) (by decide) ?_
  refine s_iloadN B X0 (pc' := 9) d1_8 rfl rfl ?_
  refine s_iconst B X0 (pc' := 10) (v := (1 : Int32)) d1_9 rfl rfl ?_
  refine s_icmpY B X0 (pc' := 17) d1_10 (by decide) (by decide) (by decide) ?_
  refine s_iloadN B X0 (pc' := 18) d1_17 rfl rfl ?_
  refine s_iconst B X0 (pc' := 19) (v := (2 : Int32)) d1_18 rfl rfl ?_
  refine s_icmpY B X0 (pc' := 26) d1_19 (by decide) (by decide) (by decide) ?_
  refine s_iloadN B X0 (pc' := 27) d1_26 rfl rfl ?_
  refine s_iconst B X0 (pc' := 28) (v := (3 : Int32)) d1_27 rfl rfl ?_
  refine s_icmpY B X0 (pc' := 35) d1_28 (by decide) (by decide) (by decide) ?_
  refine s_iloadN B X0 (pc' := 36) d1_35 rfl rfl ?_
  refine s_iconst B X0 (pc' := 37) (v := (4 : Int32)) d1_36 rfl rfl ?_
  refine s_icmpY B X0 (pc' := 44) d1_37 (by decide) (by decide) (by decide) ?_
  refine s_iloadN B X0 (pc' := 45) d1_44 rfl rfl ?_
  refine s_iconst B X0 (pc' := 46) (v := (5 : Int32)) d1_45 rfl rfl ?_
  refine s_icmpY B X0 (pc' := 53) d1_46 (by decide) (by decide) (by decide) ?_
  refine s_iloadN B X0 (pc' := 54) d1_53 rfl rfl ?_
  refine s_bipush B X0 (pc' := 56) (v := (6 : Int32)) d1_54 rfl rfl ?_
  refine s_icmpY B X0 (pc' := 63) d1_56 (by decide) (by decide) (by decide) ?_
  refine s_iloadN B X0 (pc' := 64) d1_63 rfl rfl ?_
  refine s_bipush B X0 (pc' := 66) (v := (7 : Int32)) d1_64 rfl rfl ?_
  refine s_icmpN B X0 (pc' := 69) d1_66 (by decide) rfl ?_
  refine s_getS B X0 (pc' := 72) e0 (tw22 hw) Via.refl S_OCTET_STRING d1_69 rfl (fun T1 X1 e1 => ?_)
  exact r_ref B X1 (t := (.object "com/example/waymark/waymark/model/MatchingRule")) rfl rfl rfl rfl d1_72 ⟨rfl, rfl, e1⟩ (by decide) (by decide)

theorem pn_rm2_22 : plainName "com/example/waymark/waymark/model/MatchingRuleHasSubstringsPinLaw" = true := by first | (simp [plainName, overriddenIn]; done) | decide +kernel
set_option maxRecDepth 65536 in
set_option maxHeartbeats 40000000 in
theorem rm2_22 (l : Launch) (Z : State) (a0 : Array Value) (hw : ∀ d ∈ tables_1, d.before a0 Z = true)  (w_CASE_IGNORE w_NUMERIC_STRING w_CASE_IGNORE_IA5 w_OCTET_STRING w_OBJECT_IDENTIFIER_FIRST_COMPONENT w_CASE_IGNORE_LIST w_DISTINGUISHED_NAME w_CASE_EXACT w_INTEGER_FIRST_COMPONENT w_UNIQUE_MEMBER w_OBJECT_IDENTIFIER w_TELEPHONE_NUMBER w_CASE_IGNORE_substringsName w_NUMERIC_STRING_substringsName w_CASE_IGNORE_IA5_substringsName w_CASE_IGNORE_LIST_substringsName w_CASE_EXACT_substringsName w_TELEPHONE_NUMBER_substringsName : Addr) (h0 : Heap) (F0 : OwnF Z h0 w_CASE_IGNORE w_NUMERIC_STRING w_CASE_IGNORE_IA5 w_OCTET_STRING w_OBJECT_IDENTIFIER_FIRST_COMPONENT w_CASE_IGNORE_LIST w_DISTINGUISHED_NAME w_CASE_EXACT w_INTEGER_FIRST_COMPONENT w_UNIQUE_MEMBER w_OBJECT_IDENTIFIER w_TELEPHONE_NUMBER w_CASE_IGNORE_substringsName w_NUMERIC_STRING_substringsName w_CASE_IGNORE_IA5_substringsName w_CASE_IGNORE_LIST_substringsName w_CASE_EXACT_substringsName w_TELEPHONE_NUMBER_substringsName)  :
    OMeets l Z mn1 method_4_code 1 (some .boolean) [] ({ frames := 0, cells := 0, slots := 0, locals := 0 } : Room) #[(.int (7 : Int32))] h0 (PureQ (some (.int (0 : Int32))) h0) := by
  refine OMeets.of pn_rm2_22 #[.val (.int (7 : Int32))] (fun m => by first | rfl | (simp [entryFrame, mkF, argsToLocals, Value.category, maxLocals]; done)) ?_
  intro p e s m below meth c s₁ B X0 e0
  have F := F0
  obtain ⟨S_CASE_IGNORE, E_CASE_IGNORE, S_NUMERIC_STRING, E_NUMERIC_STRING, S_CASE_IGNORE_IA5, E_CASE_IGNORE_IA5, S_OCTET_STRING, E_OCTET_STRING, S_OBJECT_IDENTIFIER_FIRST_COMPONENT, E_OBJECT_IDENTIFIER_FIRST_COMPONENT, S_CASE_IGNORE_LIST, E_CASE_IGNORE_LIST, S_DISTINGUISHED_NAME, E_DISTINGUISHED_NAME, S_CASE_EXACT, E_CASE_EXACT, S_INTEGER_FIRST_COMPONENT, E_INTEGER_FIRST_COMPONENT, S_UNIQUE_MEMBER, E_UNIQUE_MEMBER, S_OBJECT_IDENTIFIER, E_OBJECT_IDENTIFIER, S_TELEPHONE_NUMBER, E_TELEPHONE_NUMBER, F_CASE_IGNORE_substringsName, E_CASE_IGNORE_substringsName, F_NUMERIC_STRING_substringsName, E_NUMERIC_STRING_substringsName, F_CASE_IGNORE_IA5_substringsName, E_CASE_IGNORE_IA5_substringsName, F_OCTET_STRING_substringsName, F_OBJECT_IDENTIFIER_FIRST_COMPONENT_substringsName, F_CASE_IGNORE_LIST_substringsName, E_CASE_IGNORE_LIST_substringsName, F_DISTINGUISHED_NAME_substringsName, F_CASE_EXACT_substringsName, E_CASE_EXACT_substringsName, F_INTEGER_FIRST_COMPONENT_substringsName, F_UNIQUE_MEMBER_substringsName, F_OBJECT_IDENTIFIER_substringsName, F_TELEPHONE_NUMBER_substringsName, E_TELEPHONE_NUMBER_substringsName⟩ := F
  refine s_iloadN B X0 (pc' := 1) d2_0 rfl rfl ?_
  refine s_ifN B X0 (pc' := 4) d2_1 (by decide) rfl ?_
  refine s_iloadN B X0 (pc' := 5) d2_4 rfl rfl ?_
  refine s_iconst B X0 (pc' := 6) (v := (1 : Int32)) d2_5 rfl rfl ?_
  refine s_icmpN B X0 (pc' := 9) d2_6 (by decide) rfl ?_
  refine s_iloadN B X0 (pc' := 10) d2_9 rfl rfl ?_
  refine s_iconst B X0 (pc' := 11) (v := (2 : Int32)) d2_10 rfl rfl ?_
  refine s_icmpN B X0 (pc' := 14) d2_11 (by decide) rfl ?_
  refine s_iloadN B X0 (pc' := 15) d2_14 rfl rfl ?_
  refine s_iconst B X0 (pc' := 16) (v := (3 : Int32)) d2_15 rfl rfl ?_
  refine s_icmpN B X0 (pc' := 19) d2_16 (by decide) rfl ?_
  refine s_iloadN B X0 (pc' := 20) d2_19 rfl rfl ?_
  refine s_iconst B X0 (pc' := 21) (v := (4 : Int32)) d2_20 rfl rfl ?_
  refine s_icmpN B X0 (pc' := 24) d2_21 (by decide) rfl ?_
  refine s_iloadN B X0 (pc' := 25) d2_24 rfl rfl ?_
  refine s_iconst B X0 (pc' := 26) (v := (5 : Int32)) d2_25 rfl rfl ?_
  refine s_icmpY B X0 (pc' := 31) d2_26 (by decide) (by decide) (by decide) ?_
  refine s_iconst B X0 (pc' := 32) (v := (0 : Int32)) d2_31 rfl rfl ?_
  exact r_nar B X0 (t := .boolean) (by simp) rfl d2_32 ⟨rfl, rfl, e0⟩ (by decide) (by decide)

theorem pn_rm3_23 : plainName "com/example/waymark/waymark/model/MatchingRule" = true := by first | (simp [plainName, overriddenIn]; done) | decide +kernel
set_option maxRecDepth 65536 in
set_option maxHeartbeats 40000000 in
theorem rm3_23 (l : Launch) (Z : State) (a0 : Array Value) (hw : ∀ d ∈ tables_1, d.before a0 Z = true)  (w_CASE_IGNORE w_NUMERIC_STRING w_CASE_IGNORE_IA5 w_OCTET_STRING w_OBJECT_IDENTIFIER_FIRST_COMPONENT w_CASE_IGNORE_LIST w_DISTINGUISHED_NAME w_CASE_EXACT w_INTEGER_FIRST_COMPONENT w_UNIQUE_MEMBER w_OBJECT_IDENTIFIER w_TELEPHONE_NUMBER w_CASE_IGNORE_substringsName w_NUMERIC_STRING_substringsName w_CASE_IGNORE_IA5_substringsName w_CASE_IGNORE_LIST_substringsName w_CASE_EXACT_substringsName w_TELEPHONE_NUMBER_substringsName : Addr) (h0 : Heap) (F0 : OwnF Z h0 w_CASE_IGNORE w_NUMERIC_STRING w_CASE_IGNORE_IA5 w_OCTET_STRING w_OBJECT_IDENTIFIER_FIRST_COMPONENT w_CASE_IGNORE_LIST w_DISTINGUISHED_NAME w_CASE_EXACT w_INTEGER_FIRST_COMPONENT w_UNIQUE_MEMBER w_OBJECT_IDENTIFIER w_TELEPHONE_NUMBER w_CASE_IGNORE_substringsName w_NUMERIC_STRING_substringsName w_CASE_IGNORE_IA5_substringsName w_CASE_IGNORE_LIST_substringsName w_CASE_EXACT_substringsName w_TELEPHONE_NUMBER_substringsName)  :
    OMeets l Z mn2 prog_62_method_13_code 1 (some .boolean) [] ({ frames := 0, cells := 0, slots := 0, locals := 0 } : Room) #[(.ref w_OCTET_STRING)] h0 (PureQ (some (.int (0 : Int32))) h0) := by
  refine OMeets.of pn_rm3_23 #[.val (.ref w_OCTET_STRING)] (fun m => by first | rfl | (simp [entryFrame, mkF, argsToLocals, Value.category, maxLocals]; done)) ?_
  intro p e s m below meth c s₁ B X0 e0
  have F := F0
  obtain ⟨S_CASE_IGNORE, E_CASE_IGNORE, S_NUMERIC_STRING, E_NUMERIC_STRING, S_CASE_IGNORE_IA5, E_CASE_IGNORE_IA5, S_OCTET_STRING, E_OCTET_STRING, S_OBJECT_IDENTIFIER_FIRST_COMPONENT, E_OBJECT_IDENTIFIER_FIRST_COMPONENT, S_CASE_IGNORE_LIST, E_CASE_IGNORE_LIST, S_DISTINGUISHED_NAME, E_DISTINGUISHED_NAME, S_CASE_EXACT, E_CASE_EXACT, S_INTEGER_FIRST_COMPONENT, E_INTEGER_FIRST_COMPONENT, S_UNIQUE_MEMBER, E_UNIQUE_MEMBER, S_OBJECT_IDENTIFIER, E_OBJECT_IDENTIFIER, S_TELEPHONE_NUMBER, E_TELEPHONE_NUMBER, F_CASE_IGNORE_substringsName, E_CASE_IGNORE_substringsName, F_NUMERIC_STRING_substringsName, E_NUMERIC_STRING_substringsName, F_CASE_IGNORE_IA5_substringsName, E_CASE_IGNORE_IA5_substringsName, F_OCTET_STRING_substringsName, F_OBJECT_IDENTIFIER_FIRST_COMPONENT_substringsName, F_CASE_IGNORE_LIST_substringsName, E_CASE_IGNORE_LIST_substringsName, F_DISTINGUISHED_NAME_substringsName, F_CASE_EXACT_substringsName, E_CASE_EXACT_substringsName, F_INTEGER_FIRST_COMPONENT_substringsName, F_UNIQUE_MEMBER_substringsName, F_OBJECT_IDENTIFIER_substringsName, F_TELEPHONE_NUMBER_substringsName, E_TELEPHONE_NUMBER_substringsName⟩ := F
  refine s_aloadN B X0 (pc' := 1) d3_0 rfl rfl rfl ?_
  refine s_getF B X0 (pc' := 4) e0 (host := "") (Or.inl (tw16 hw)) Via.refl F_OCTET_STRING_substringsName d3_1 rfl (fun T1 X1 e1 => ?_)
  refine s_ifnullY B X1 (pc' := 11) d3_4 (by decide) (by decide) ?_
  refine s_iconst B X1 (pc' := 12) (v := (0 : Int32)) d3_11 rfl rfl ?_
  exact r_nar B X1 (t := .boolean) (by simp) rfl d3_12 ⟨rfl, rfl, e1⟩ (by decide) (by decide)
theorem d1_73 : decode method_3_code 73 = .ok (.iload_n 0, 1) := by decide +kernel
theorem d1_74 : decode method_3_code 74 = .ok (.bipush 8, 2) := by decide +kernel
theorem d1_76 : decode method_3_code 76 = .ok (.if_icmp .ne 7, 3) := by decide +kernel
theorem d1_79 : decode method_3_code 79 = .ok (.getstatic 49, 3) := by decide +kernel
theorem d1_82 : decode method_3_code 82 = .ok (.areturn, 1) := by decide +kernel
theorem pn_rm1_24 : plainName "com/example/waymark/waymark/model/MatchingRuleHasSubstringsPinLaw" = true := by first | (simp [plainName, overriddenIn]; done) | decide +kernel
set_option maxRecDepth 65536 in
set_option maxHeartbeats 40000000 in
theorem rm1_24 (l : Launch) (Z : State) (a0 : Array Value) (hw : ∀ d ∈ tables_1, d.before a0 Z = true)  (w_CASE_IGNORE w_NUMERIC_STRING w_CASE_IGNORE_IA5 w_OCTET_STRING w_OBJECT_IDENTIFIER_FIRST_COMPONENT w_CASE_IGNORE_LIST w_DISTINGUISHED_NAME w_CASE_EXACT w_INTEGER_FIRST_COMPONENT w_UNIQUE_MEMBER w_OBJECT_IDENTIFIER w_TELEPHONE_NUMBER w_CASE_IGNORE_substringsName w_NUMERIC_STRING_substringsName w_CASE_IGNORE_IA5_substringsName w_CASE_IGNORE_LIST_substringsName w_CASE_EXACT_substringsName w_TELEPHONE_NUMBER_substringsName : Addr) (h0 : Heap) (F0 : OwnF Z h0 w_CASE_IGNORE w_NUMERIC_STRING w_CASE_IGNORE_IA5 w_OCTET_STRING w_OBJECT_IDENTIFIER_FIRST_COMPONENT w_CASE_IGNORE_LIST w_DISTINGUISHED_NAME w_CASE_EXACT w_INTEGER_FIRST_COMPONENT w_UNIQUE_MEMBER w_OBJECT_IDENTIFIER w_TELEPHONE_NUMBER w_CASE_IGNORE_substringsName w_NUMERIC_STRING_substringsName w_CASE_IGNORE_IA5_substringsName w_CASE_IGNORE_LIST_substringsName w_CASE_EXACT_substringsName w_TELEPHONE_NUMBER_substringsName)  :
    OMeets l Z mn0 method_3_code 1 (some (.object "com/example/waymark/waymark/model/MatchingRule")) [] ({ frames := 0, cells := 0, slots := 0, locals := 0 } : Room) #[(.int (8 : Int32))] h0 (PureQ (some (.ref w_DISTINGUISHED_NAME)) h0) := by
  refine OMeets.of pn_rm1_24 #[.val (.int (8 : Int32))] (fun m => by first | rfl | (simp [entryFrame, mkF, argsToLocals, Value.category, maxLocals]; done)) ?_
  intro p e s m below meth c s₁ B X0 e0
  have F := F0
  obtain ⟨S_CASE_IGNORE, E_CASE_IGNORE, S_NUMERIC_STRING, E_NUMERIC_STRING, S_CASE_IGNORE_IA5, E_CASE_IGNORE_IA5, S_OCTET_STRING, E_OCTET_STRING, S_OBJECT_IDENTIFIER_FIRST_COMPONENT, E_OBJECT_IDENTIFIER_FIRST_COMPONENT, S_CASE_IGNORE_LIST, E_CASE_IGNORE_LIST, S_DISTINGUISHED_NAME, E_DISTINGUISHED_NAME, S_CASE_EXACT, E_CASE_EXACT, S_INTEGER_FIRST_COMPONENT, E_INTEGER_FIRST_COMPONENT, S_UNIQUE_MEMBER, E_UNIQUE_MEMBER, S_OBJECT_IDENTIFIER, E_OBJECT_IDENTIFIER, S_TELEPHONE_NUMBER, E_TELEPHONE_NUMBER, F_CASE_IGNORE_substringsName, E_CASE_IGNORE_substringsName, F_NUMERIC_STRING_substringsName, E_NUMERIC_STRING_substringsName, F_CASE_IGNORE_IA5_substringsName, E_CASE_IGNORE_IA5_substringsName, F_OCTET_STRING_substringsName, F_OBJECT_IDENTIFIER_FIRST_COMPONENT_substringsName, F_CASE_IGNORE_LIST_substringsName, E_CASE_IGNORE_LIST_substringsName, F_DISTINGUISHED_NAME_substringsName, F_CASE_EXACT_substringsName, E_CASE_EXACT_substringsName, F_INTEGER_FIRST_COMPONENT_substringsName, F_UNIQUE_MEMBER_substringsName, F_OBJECT_IDENTIFIER_substringsName, F_TELEPHONE_NUMBER_substringsName, E_TELEPHONE_NUMBER_substringsName⟩ := F
  refine s_iloadN B X0 (pc' := 1) d1_0 rfl rfl ?_
  refine s_ifY B X0 (pc' := 8) d1_1 (by decide) (by decide) (by decide) ?_
  refine s_iloadN B X0 (pc' := 9) d1_8 rfl rfl ?_
  refine s_iconst B X0 (pc' := 10) (v := (1 : Int32)) d1_9 rfl rfl ?_
  refine s_icmpY B X0 (pc' := 17) d1_10 (by decide) (by decide) (by decide) ?_
  refine s_iloadN B X0 (pc' := 18) d1_17 rfl rfl ?_
  refine s_iconst B X0 (pc' := 19) (v := (2 : Int32)) d1_18 rfl rfl ?_
  refine s_icmpY B X0 (pc' := 26) d1_19 (by decide) (by decide) (by decide) ?_
  refine s_iloadN B X0 (pc' := 27) d1_26 rfl rfl ?_
  refine s_iconst B X0 (pc' := 28) (v := (3 : Int32)) d1_27 rfl rfl ?_
  refine s_icmpY B X0 (pc' := 35) d1_28 (by decide) (by decide) (by decide) ?_
  refine s_iloadN B X0 (pc' := 36) d1_35 rfl rfl ?_
  refine s_iconst B X0 (pc' := 37) (v := (4 : Int32)) d1_36 rfl rfl ?_
  refine s_icmpY B X0 (pc' := 44) d1_37 (by decide) (by decide) (by decide) ?_
  refine s_iloadN B X0 (pc' := 45) d1_44 rfl rfl ?_
  refine s_iconst B X0 (pc' := 46) (v := (5 : Int32)) d1_45 rfl rfl ?_
  refine s_icmpY B X0 (pc' := 53) d1_46 (by decide) (by decide) (by decide) ?_
  refine s_iloadN B X0 (pc' := 54) d1_53 rfl rfl ?_
  refine s_bipush B X0 (pc' := 56) (v := (6 : Int32)) d1_54 rfl rfl ?_
  refine s_icmpY B X0 (pc' := 63) d1_56 (by decide) (by decide) (by decide) ?_
  refine s_iloadN B X0 (pc' := 64) d1_63 rfl rfl ?_
  refine s_bipush B X0 (pc' := 66) (v := (7 : Int32)) d1_64 rfl rfl ?_
  refine s_icmpY B X0 (pc' := 73) d1_66 (by decide) (by decide) (by decide) ?_
  refine s_iloadN B X0 (pc' := 74) d1_73 rfl rfl ?_
  refine s_bipush B X0 (pc' := 76) (v := (8 : Int32)) d1_74 rfl rfl ?_
  refine s_icmpN B X0 (pc' := 79) d1_76 (by decide) rfl ?_
  refine s_getS B X0 (pc' := 82) e0 (tw28 hw) Via.refl S_DISTINGUISHED_NAME d1_79 rfl (fun T1 X1 e1 => ?_)
  exact r_ref B X1 (t := (.object "com/example/waymark/waymark/model/MatchingRule")) rfl rfl rfl rfl d1_82 ⟨rfl, rfl, e1⟩ (by decide) (by decide)

theorem pn_rm2_25 : plainName "com/example/waymark/waymark/model/MatchingRuleHasSubstringsPinLaw" = true := by first | (simp [plainName, overriddenIn]; done) | decide +kernel
set_option maxRecDepth 65536 in
set_option maxHeartbeats 40000000 in
theorem rm2_25 (l : Launch) (Z : State) (a0 : Array Value) (hw : ∀ d ∈ tables_1, d.before a0 Z = true)  (w_CASE_IGNORE w_NUMERIC_STRING w_CASE_IGNORE_IA5 w_OCTET_STRING w_OBJECT_IDENTIFIER_FIRST_COMPONENT w_CASE_IGNORE_LIST w_DISTINGUISHED_NAME w_CASE_EXACT w_INTEGER_FIRST_COMPONENT w_UNIQUE_MEMBER w_OBJECT_IDENTIFIER w_TELEPHONE_NUMBER w_CASE_IGNORE_substringsName w_NUMERIC_STRING_substringsName w_CASE_IGNORE_IA5_substringsName w_CASE_IGNORE_LIST_substringsName w_CASE_EXACT_substringsName w_TELEPHONE_NUMBER_substringsName : Addr) (h0 : Heap) (F0 : OwnF Z h0 w_CASE_IGNORE w_NUMERIC_STRING w_CASE_IGNORE_IA5 w_OCTET_STRING w_OBJECT_IDENTIFIER_FIRST_COMPONENT w_CASE_IGNORE_LIST w_DISTINGUISHED_NAME w_CASE_EXACT w_INTEGER_FIRST_COMPONENT w_UNIQUE_MEMBER w_OBJECT_IDENTIFIER w_TELEPHONE_NUMBER w_CASE_IGNORE_substringsName w_NUMERIC_STRING_substringsName w_CASE_IGNORE_IA5_substringsName w_CASE_IGNORE_LIST_substringsName w_CASE_EXACT_substringsName w_TELEPHONE_NUMBER_substringsName)  :
    OMeets l Z mn1 method_4_code 1 (some .boolean) [] ({ frames := 0, cells := 0, slots := 0, locals := 0 } : Room) #[(.int (8 : Int32))] h0 (PureQ (some (.int (0 : Int32))) h0) := by
  refine OMeets.of pn_rm2_25 #[.val (.int (8 : Int32))] (fun m => by first | rfl | (simp [entryFrame, mkF, argsToLocals, Value.category, maxLocals]; done)) ?_
  intro p e s m below meth c s₁ B X0 e0
  have F := F0
  obtain ⟨S_CASE_IGNORE, E_CASE_IGNORE, S_NUMERIC_STRING, E_NUMERIC_STRING, S_CASE_IGNORE_IA5, E_CASE_IGNORE_IA5, S_OCTET_STRING, E_OCTET_STRING, S_OBJECT_IDENTIFIER_FIRST_COMPONENT, E_OBJECT_IDENTIFIER_FIRST_COMPONENT, S_CASE_IGNORE_LIST, E_CASE_IGNORE_LIST, S_DISTINGUISHED_NAME, E_DISTINGUISHED_NAME, S_CASE_EXACT, E_CASE_EXACT, S_INTEGER_FIRST_COMPONENT, E_INTEGER_FIRST_COMPONENT, S_UNIQUE_MEMBER, E_UNIQUE_MEMBER, S_OBJECT_IDENTIFIER, E_OBJECT_IDENTIFIER, S_TELEPHONE_NUMBER, E_TELEPHONE_NUMBER, F_CASE_IGNORE_substringsName, E_CASE_IGNORE_substringsName, F_NUMERIC_STRING_substringsName, E_NUMERIC_STRING_substringsName, F_CASE_IGNORE_IA5_substringsName, E_CASE_IGNORE_IA5_substringsName, F_OCTET_STRING_substringsName, F_OBJECT_IDENTIFIER_FIRST_COMPONENT_substringsName, F_CASE_IGNORE_LIST_substringsName, E_CASE_IGNORE_LIST_substringsName, F_DISTINGUISHED_NAME_substringsName, F_CASE_EXACT_substringsName, E_CASE_EXACT_substringsName, F_INTEGER_FIRST_COMPONENT_substringsName, F_UNIQUE_MEMBER_substringsName, F_OBJECT_IDENTIFIER_substringsName, F_TELEPHONE_NUMBER_substringsName, E_TELEPHONE_NUMBER_substringsName⟩ := F
  refine s_iloadN B X0 (pc' := 1) d2_0 rfl rfl ?_
  refine s_ifN B X0 (pc' := 4) d2_1 (by decide) rfl ?_
  refine s_iloadN B X0 (pc' := 5) d2_4 rfl rfl ?_
  refine s_iconst B X0 (pc' := 6) (v := (1 : Int32)) d2_5 rfl rfl ?_
  refine s_icmpN B X0 (pc' := 9) d2_6 (by decide) rfl ?_
  refine s_iloadN B X0 (pc' := 10) d2_9 rfl rfl ?_
  refine s_iconst B X0 (pc' := 11) (v := (2 : Int32)) d2_10 rfl rfl ?_
  refine s_icmpN B X0 (pc' := 14) d2_11 (by decide) rfl ?_
  refine s_iloadN B X0 (pc' := 15) d2_14 rfl rfl ?_
  refine s_iconst B X0 (pc' := 16) (v := (3 : Int32)) d2_15 rfl rfl ?_
  refine s_icmpN B X0 (pc' := 19) d2_16 (by decide) rfl ?_
  refine s_iloadN B X0 (pc' := 20) d2_19 rfl rfl ?_
  refine s_iconst B X0 (pc' := 21) (v := (4 : Int32)) d2_20 rfl rfl ?_
  refine s_icmpN B X0 (pc' := 24) d2_21 (by decide) rfl ?_
  refine s_iloadN B X0 (pc' := 25) d2_24 rfl rfl ?_
  refine s_iconst B X0 (pc' := 26) (v := (5 : Int32)) d2_25 rfl rfl ?_
  refine s_icmpY B X0 (pc' := 31) d2_26 (by decide) (by decide) (by decide) ?_
  refine s_iconst B X0 (pc' := 32) (v := (0 : Int32)) d2_31 rfl rfl ?_
  exact r_nar B X0 (t := .boolean) (by simp) rfl d2_32 ⟨rfl, rfl, e0⟩ (by decide) (by decide)

theorem pn_rm3_26 : plainName "com/example/waymark/waymark/model/MatchingRule" = true := by first | (simp [plainName, overriddenIn]; done) | decide +kernel
set_option maxRecDepth 65536 in
set_option maxHeartbeats 40000000 in
theorem rm3_26 (l : Launch) (Z : State) (a0 : Array Value) (hw : ∀ d ∈ tables_1, d.before a0 Z = true)  (w_CASE_IGNORE w_NUMERIC_STRING w_CASE_IGNORE_IA5 w_OCTET_STRING w_OBJECT_IDENTIFIER_FIRST_COMPONENT w_CASE_IGNORE_LIST w_DISTINGUISHED_NAME w_CASE_EXACT w_INTEGER_FIRST_COMPONENT w_UNIQUE_MEMBER w_OBJECT_IDENTIFIER w_TELEPHONE_NUMBER w_CASE_IGNORE_substringsName w_NUMERIC_STRING_substringsName w_CASE_IGNORE_IA5_substringsName w_CASE_IGNORE_LIST_substringsName w_CASE_EXACT_substringsName w_TELEPHONE_NUMBER_substringsName : Addr) (h0 : Heap) (F0 : OwnF Z h0 w_CASE_IGNORE w_NUMERIC_STRING w_CASE_IGNORE_IA5 w_OCTET_STRING w_OBJECT_IDENTIFIER_FIRST_COMPONENT w_CASE_IGNORE_LIST w_DISTINGUISHED_NAME w_CASE_EXACT w_INTEGER_FIRST_COMPONENT w_UNIQUE_MEMBER w_OBJECT_IDENTIFIER w_TELEPHONE_NUMBER w_CASE_IGNORE_substringsName w_NUMERIC_STRING_substringsName w_CASE_IGNORE_IA5_substringsName w_CASE_IGNORE_LIST_substringsName w_CASE_EXACT_substringsName w_TELEPHONE_NUMBER_substringsName)  :
    OMeets l Z mn2 prog_62_method_13_code 1 (some .boolean) [] ({ frames := 0, cells := 0, slots := 0, locals := 0 } : Room) #[(.ref w_DISTINGUISHED_NAME)] h0 (PureQ (some (.int (0 : Int32))) h0) := by
  refine OMeets.of pn_rm3_26 #[.val (.ref w_DISTINGUISHED_NAME)] (fun m => by first | rfl | (simp [entryFrame, mkF, argsToLocals, Value.category, maxLocals]; done)) ?_
  intro p e s m below meth c s₁ B X0 e0
  have F := F0
  obtain ⟨S_CASE_IGNORE, E_CASE_IGNORE, S_NUMERIC_STRING, E_NUMERIC_STRING, S_CASE_IGNORE_IA5, E_CASE_IGNORE_IA5, S_OCTET_STRING, E_OCTET_STRING, S_OBJECT_IDENTIFIER_FIRST_COMPONENT, E_OBJECT_IDENTIFIER_FIRST_COMPONENT, S_CASE_IGNORE_LIST, E_CASE_IGNORE_LIST, S_DISTINGUISHED_NAME, E_DISTINGUISHED_NAME, S_CASE_EXACT, E_CASE_EXACT, S_INTEGER_FIRST_COMPONENT, E_INTEGER_FIRST_COMPONENT, S_UNIQUE_MEMBER, E_UNIQUE_MEMBER, S_OBJECT_IDENTIFIER, E_OBJECT_IDENTIFIER, S_TELEPHONE_NUMBER, E_TELEPHONE_NUMBER, F_CASE_IGNORE_substringsName, E_CASE_IGNORE_substringsName, F_NUMERIC_STRING_substringsName, E_NUMERIC_STRING_substringsName, F_CASE_IGNORE_IA5_substringsName, E_CASE_IGNORE_IA5_substringsName, F_OCTET_STRING_substringsName, F_OBJECT_IDENTIFIER_FIRST_COMPONENT_substringsName, F_CASE_IGNORE_LIST_substringsName, E_CASE_IGNORE_LIST_substringsName, F_DISTINGUISHED_NAME_substringsName, F_CASE_EXACT_substringsName, E_CASE_EXACT_substringsName, F_INTEGER_FIRST_COMPONENT_substringsName, F_UNIQUE_MEMBER_substringsName, F_OBJECT_IDENTIFIER_substringsName, F_TELEPHONE_NUMBER_substringsName, E_TELEPHONE_NUMBER_substringsName⟩ := F
  refine s_aloadN B X0 (pc' := 1) d3_0 rfl rfl rfl ?_
  refine s_getF B X0 (pc' := 4) e0 (host := "") (Or.inl (tw16 hw)) Via.refl F_DISTINGUISHED_NAME_substringsName d3_1 rfl (fun T1 X1 e1 => ?_)
  refine s_ifnullY B X1 (pc' := 11) d3_4 (by decide) (by decide) ?_
  refine s_iconst B X1 (pc' := 12) (v := (0 : Int32)) d3_11 rfl rfl ?_
  exact r_nar B X1 (t := .boolean) (by simp) rfl d3_12 ⟨rfl, rfl, e1⟩ (by decide) (by decide)
theorem d1_83 : decode method_3_code 83 = .ok (.iload_n 0, 1) := by decide +kernel
theorem d1_84 : decode method_3_code 84 = .ok (.bipush 9, 2) := by decide +kernel
theorem d1_86 : decode method_3_code 86 = .ok (.if_icmp .ne 7, 3) := by decide +kernel
theorem d1_89 : decode method_3_code 89 = .ok (.getstatic 52, 3) := by decide +kernel
theorem d1_92 : decode method_3_code 92 = .ok (.areturn, 1) := by decide +kernel
theorem pn_rm1_27 : plainName "com/example/waymark/waymark/model/MatchingRuleHasSubstringsPinLaw" = true := by first | (simp [plainName, overriddenIn]; done) | decide +kernel
set_option maxRecDepth 65536 in
set_option maxHeartbeats 40000000 in
theorem rm1_27 (l : Launch) (Z : State) (a0 : Array Value) (hw : ∀ d ∈ tables_1, d.before a0 Z = true)  (w_CASE_IGNORE w_NUMERIC_STRING w_CASE_IGNORE_IA5 w_OCTET_STRING w_OBJECT_IDENTIFIER_FIRST_COMPONENT w_CASE_IGNORE_LIST w_DISTINGUISHED_NAME w_CASE_EXACT w_INTEGER_FIRST_COMPONENT w_UNIQUE_MEMBER w_OBJECT_IDENTIFIER w_TELEPHONE_NUMBER w_CASE_IGNORE_substringsName w_NUMERIC_STRING_substringsName w_CASE_IGNORE_IA5_substringsName w_CASE_IGNORE_LIST_substringsName w_CASE_EXACT_substringsName w_TELEPHONE_NUMBER_substringsName : Addr) (h0 : Heap) (F0 : OwnF Z h0 w_CASE_IGNORE w_NUMERIC_STRING w_CASE_IGNORE_IA5 w_OCTET_STRING w_OBJECT_IDENTIFIER_FIRST_COMPONENT w_CASE_IGNORE_LIST w_DISTINGUISHED_NAME w_CASE_EXACT w_INTEGER_FIRST_COMPONENT w_UNIQUE_MEMBER w_OBJECT_IDENTIFIER w_TELEPHONE_NUMBER w_CASE_IGNORE_substringsName w_NUMERIC_STRING_substringsName w_CASE_IGNORE_IA5_substringsName w_CASE_IGNORE_LIST_substringsName w_CASE_EXACT_substringsName w_TELEPHONE_NUMBER_substringsName)  :
    OMeets l Z mn0 method_3_code 1 (some (.object "com/example/waymark/waymark/model/MatchingRule")) [] ({ frames := 0, cells := 0, slots := 0, locals := 0 } : Room) #[(.int (9 : Int32))] h0 (PureQ (some (.ref w_UNIQUE_MEMBER)) h0) := by
  refine OMeets.of pn_rm1_27 #[.val (.int (9 : Int32))] (fun m => by first | rfl | (simp [entryFrame, mkF, argsToLocals, Value.category, maxLocals]; done)) ?_
  intro p e s m below meth c s₁ B X0 e0
  have F := F0
  obtain ⟨S_CASE_IGNORE, E_CASE_IGNORE, S_NUMERIC_STRING, E_NUMERIC_STRING, S_CASE_IGNORE_IA5, E_CASE_IGNORE_IA5, S_OCTET_STRING, E_OCTET_STRING, S_OBJECT_IDENTIFIER_FIRST_COMPONENT, E_OBJECT_IDENTIFIER_FIRST_COMPONENT, S_CASE_IGNORE_LIST, E_CASE_IGNORE_LIST, S_DISTINGUISHED_NAME, E_DISTINGUISHED_NAME, S_CASE_EXACT, E_CASE_EXACT, S_INTEGER_FIRST_COMPONENT, E_INTEGER_FIRST_COMPONENT, S_UNIQUE_MEMBER, E_UNIQUE_MEMBER, S_OBJECT_IDENTIFIER, E_OBJECT_IDENTIFIER, S_TELEPHONE_NUMBER, E_TELEPHONE_NUMBER, F_CASE_IGNORE_substringsName, E_CASE_IGNORE_substringsName, F_NUMERIC_STRING_substringsName, E_NUMERIC_STRING_substringsName, F_CASE_IGNORE_IA5_substringsName, E_CASE_IGNORE_IA5_substringsName, F_OCTET_STRING_substringsName, F_OBJECT_IDENTIFIER_FIRST_COMPONENT_substringsName, F_CASE_IGNORE_LIST_substringsName, E_CASE_IGNORE_LIST_substringsName, F_DISTINGUISHED_NAME_substringsName, F_CASE_EXACT_substringsName, E_CASE_EXACT_substringsName, F_INTEGER_FIRST_COMPONENT_substringsName, F_UNIQUE_MEMBER_substringsName, F_OBJECT_IDENTIFIER_substringsName, F_TELEPHONE_NUMBER_substringsName, E_TELEPHONE_NUMBER_substringsName⟩ := F
  refine s_iloadN B X0 (pc' := 1) d1_0 rfl rfl ?_
  refine s_ifY B X0 (pc' := 8) d1_1 (by decide) (by decide) (by decide) ?_
  refine s_iloadN B X0 (pc' := 9) d1_8 rfl rfl ?_
  refine s_iconst B X0 (pc' := 10) (v := (1 : Int32)) d1_9 rfl rfl ?_
  refine s_icmpY B X0 (pc' := 17) d1_10 (by decide) (by decide) (by decide) ?_
  refine s_iloadN B X0 (pc' := 18) d1_17 rfl rfl ?_
  refine s_iconst B X0 (pc' := 19) (v := (2 : Int32)) d1_18 rfl rfl ?_
  refine s_icmpY B X0 (pc' := 26) d1_19 (by decide) (by decide) (by decide) ?_
  refine s_iloadN B X0 (pc' := 27) d1_26 rfl rfl ?_
  refine s_iconst B X0 (pc' := 28) (v := (3 : Int32)) d1_27 rfl rfl ?_
  refine s_icmpY B X0 (pc' := 35) d1_28 (by decide) (by decide) (by decide) ?_
  refine s_iloadN B X0 (pc' := 36) d1_35 rfl rfl ?_
  refine s_iconst B X0 (pc' := 37) (v := (4 : Int32)) d1_36 rfl rfl ?_
  refine s_icmpY B X0 (pc' := 44) d1_37 (by decide) (by decide) (by decide) ?_
  refine s_iloadN B X0 (pc' := 45) d1_44 rfl rfl ?_
  refine s_iconst B X0 (pc' := 46) (v := (5 : Int32)) d1_45 rfl rfl ?_
  refine s_icmpY B X0 (pc' := 53) d1_46 (by decide) (by decide) (by decide) ?_
  refine s_iloadN B X0 (pc' := 54) d1_53 rfl rfl ?_
  refine s_bipush B X0 (pc' := 56) (v := (6 : Int32)) d1_54 rfl rfl ?_
  refine s_icmpY B X0 (pc' := 63) d1_56 (by decide) (by decide) (by decide) ?_
  refine s_iloadN B X0 (pc' := 64) d1_63 rfl rfl ?_
  refine s_bipush B X0 (pc' := 66) (v := (7 : Int32)) d1_64 rfl rfl ?_
  refine s_icmpY B X0 (pc' := 73) d1_66 (by decide) (by decide) (by decide) ?_
  refine s_iloadN B X0 (pc' := 74) d1_73 rfl rfl ?_
  refine s_bipush B X0 (pc' := 76) (v := (8 : Int32)) d1_74 rfl rfl ?_
  refine s_icmpY B X0 (pc' := 83) d1_76 (by decide) (by decide) (by decide) ?_
  refine s_iloadN B X0 (pc' := 84) d1_83 rfl rfl ?_
  refine s_bipush B X0 (pc' := 86) (v := (9 : Int32)) d1_84 rfl rfl ?_
  refine s_icmpN B X0 (pc' := 89) d1_86 (by decide) rfl ?_
  refine s_getS B X0 (pc' := 92) e0 (tw34 hw) Via.refl S_UNIQUE_MEMBER d1_89 rfl (fun T1 X1 e1 => ?_)
  exact r_ref B X1 (t := (.object "com/example/waymark/waymark/model/MatchingRule")) rfl rfl rfl rfl d1_92 ⟨rfl, rfl, e1⟩ (by decide) (by decide)

theorem pn_rm2_28 : plainName "com/example/waymark/waymark/model/MatchingRuleHasSubstringsPinLaw" = true := by first | (simp [plainName, overriddenIn]; done) | decide +kernel
set_option maxRecDepth 65536 in
set_option maxHeartbeats 40000000 in
theorem rm2_28 (l : Launch) (Z : State) (a0 : Array Value) (hw : ∀ d ∈ tables_1, d.before a0 Z = true)  (w_CASE_IGNORE w_NUMERIC_STRING w_CASE_IGNORE_IA5 w_OCTET_STRING w_OBJECT_IDENTIFIER_FIRST_COMPONENT w_CASE_IGNORE_LIST w_DISTINGUISHED_NAME w_CASE_EXACT w_INTEGER_FIRST_COMPONENT w_UNIQUE_MEMBER w_OBJECT_IDENTIFIER w_TELEPHONE_NUMBER w_CASE_IGNORE_substringsName w_NUMERIC_STRING_substringsName w_CASE_IGNORE_IA5_substringsName w_CASE_IGNORE_LIST_substringsName w_CASE_EXACT_substringsName w_TELEPHONE_NUMBER_substringsName : Addr) (h0 : Heap) (F0 : OwnF Z h0 w_CASE_IGNORE w_NUMERIC_STRING w_CASE_IGNORE_IA5 w_OCTET_STRING w_OBJECT_IDENTIFIER_FIRST_COMPONENT w_CASE_IGNORE_LIST w_DISTINGUISHED_NAME w_CASE_EXACT w_INTEGER_FIRST_COMPONENT w_UNIQUE_MEMBER w_OBJECT_IDENTIFIER w_TELEPHONE_NUMBER w_CASE_IGNORE_substringsName w_NUMERIC_STRING_substringsName w_CASE_IGNORE_IA5_substringsName w_CASE_IGNORE_LIST_substringsName w_CASE_EXACT_substringsName w_TELEPHONE_NUMBER_substringsName)  :
    OMeets l Z mn1 method_4_code 1 (some .boolean) [] ({ frames := 0, cells := 0, slots := 0, locals := 0 } : Room) #[(.int (9 : Int32))] h0 (PureQ (some (.int (0 : Int32))) h0) := by
  refine OMeets.of pn_rm2_28 #[.val (.int (9 : Int32))] (fun m => by first | rfl | (simp [entryFrame, mkF, argsToLocals, Value.category, maxLocals]; done)) ?_
  intro p e s m below meth c s₁ B X0 e0
  have F := F0
  obtain ⟨S_CASE_IGNORE, E_CASE_IGNORE, S_NUMERIC_STRING, E_NUMERIC_STRING, S_CASE_IGNORE_IA5, E_CASE_IGNORE_IA5, S_OCTET_STRING, E_OCTET_STRING, S_OBJECT_IDENTIFIER_FIRST_COMPONENT, E_OBJECT_IDENTIFIER_FIRST_COMPONENT, S_CASE_IGNORE_LIST, E_CASE_IGNORE_LIST, S_DISTINGUISHED_NAME, E_DISTINGUISHED_NAME, S_CASE_EXACT, E_CASE_EXACT, S_INTEGER_FIRST_COMPONENT, E_INTEGER_FIRST_COMPONENT, S_UNIQUE_MEMBER, E_UNIQUE_MEMBER, S_OBJECT_IDENTIFIER, E_OBJECT_IDENTIFIER, S_TELEPHONE_NUMBER, E_TELEPHONE_NUMBER, F_CASE_IGNORE_substringsName, E_CASE_IGNORE_substringsName, F_NUMERIC_STRING_substringsName, E_NUMERIC_STRING_substringsName, F_CASE_IGNORE_IA5_substringsName, E_CASE_IGNORE_IA5_substringsName, F_OCTET_STRING_substringsName, F_OBJECT_IDENTIFIER_FIRST_COMPONENT_substringsName, F_CASE_IGNORE_LIST_substringsName, E_CASE_IGNORE_LIST_substringsName, F_DISTINGUISHED_NAME_substringsName, F_CASE_EXACT_substringsName, E_CASE_EXACT_substringsName, F_INTEGER_FIRST_COMPONENT_substringsName, F_UNIQUE_MEMBER_substringsName, F_OBJECT_IDENTIFIER_substringsName, F_TELEPHONE_NUMBER_substringsName, E_TELEPHONE_NUMBER_substringsName⟩ := F
  refine s_iloadN B X0 (pc' := 1) d2_0 rfl rfl ?_
  refine s_ifN B X0 (pc' := 4) d2_1 (by decide) rfl ?_
  refine s_iloadN B X0 (pc' := 5) d2_4 rfl rfl ?_
  refine s_iconst B X0 (pc' := 6) (v := (1 : Int32)) d2_5 rfl rfl ?_
  refine s_icmpN B X0 (pc' := 9) d2_6 (by decide) rfl ?_
  refine s_iloadN B X0 (pc' := 10) d2_9 rfl rfl ?_
  refine s_iconst B X0 (pc' := 11) (v := (2 : Int32)) d2_10 rfl rfl ?_
  refine s_icmpN B X0 (pc' := 14) d2_11 (by decide) rfl ?_
  refine s_iloadN B X0 (pc' := 15) d2_14 rfl rfl ?_
  refine s_iconst B X0 (pc' := 16) (v := (3 : Int32)) d2_15 rfl rfl ?_
  refine s_icmpN B X0 (pc' := 19) d2_16 (by decide) rfl ?_
  refine s_iloadN B X0 (pc' := 20) d2_19 rfl rfl ?_
  refine s_iconst B X0 (pc' := 21) (v := (4 : Int32)) d2_20 rfl rfl ?_
  refine s_icmpN B X0 (pc' := 24) d2_21 (by decide) rfl ?_
  refine s_iloadN B X0 (pc' := 25) d2_24 rfl rfl ?_
  refine s_iconst B X0 (pc' := 26) (v := (5 : Int32)) d2_25 rfl rfl ?_
  refine s_icmpY B X0 (pc' := 31) d2_26 (by decide) (by decide) (by decide) ?_
  refine s_iconst B X0 (pc' := 32) (v := (0 : Int32)) d2_31 rfl rfl ?_
  exact r_nar B X0 (t := .boolean) (by simp) rfl d2_32 ⟨rfl, rfl, e0⟩ (by decide) (by decide)

theorem pn_rm3_29 : plainName "com/example/waymark/waymark/model/MatchingRule" = true := by first | (simp [plainName, overriddenIn]; done) | decide +kernel
set_option maxRecDepth 65536 in
set_option maxHeartbeats 40000000 in
theorem rm3_29 (l : Launch) (Z : State) (a0 : Array Value) (hw : ∀ d ∈ tables_1, d.before a0 Z = true)  (w_CASE_IGNORE w_NUMERIC_STRING w_CASE_IGNORE_IA5 w_OCTET_STRING w_OBJECT_IDENTIFIER_FIRST_COMPONENT w_CASE_IGNORE_LIST w_DISTINGUISHED_NAME w_CASE_EXACT w_INTEGER_FIRST_COMPONENT w_UNIQUE_MEMBER w_OBJECT_IDENTIFIER w_TELEPHONE_NUMBER w_CASE_IGNORE_substringsName w_NUMERIC_STRING_substringsName w_CASE_IGNORE_IA5_substringsName w_CASE_IGNORE_LIST_substringsName w_CASE_EXACT_substringsName w_TELEPHONE_NUMBER_substringsName : Addr) (h0 : Heap) (F0 : OwnF Z h0 w_CASE_IGNORE w_NUMERIC_STRING w_CASE_IGNORE_IA5 w_OCTET_STRING w_OBJECT_IDENTIFIER_FIRST_COMPONENT w_CASE_IGNORE_LIST w_DISTINGUISHED_NAME w_CASE_EXACT w_INTEGER_FIRST_COMPONENT w_UNIQUE_MEMBER w_OBJECT_IDENTIFIER w_TELEPHONE_NUMBER w_CASE_IGNORE_substringsName w_NUMERIC_STRING_substringsName w_CASE_IGNORE_IA5_substringsName w_CASE_IGNORE_LIST_substringsName w_CASE_EXACT_substringsName w_TELEPHONE_NUMBER_substringsName)  :
    OMeets l Z mn2 prog_62_method_13_code 1 (some .boolean) [] ({ frames := 0, cells := 0, slots := 0, locals := 0 } : Room) #[(.ref w_UNIQUE_MEMBER)] h0 (PureQ (some (.int (0 : Int32))) h0) := by
  refine OMeets.of pn_rm3_29 #[.val (.ref w_UNIQUE_MEMBER)] (fun m => by first | rfl | (simp [entryFrame, mkF, argsToLocals, Value.category, maxLocals]; done)) ?_
  intro p e s m below meth c s₁ B X0 e0
  have F := F0
  obtain ⟨S_CASE_IGNORE, E_CASE_IGNORE, S_NUMERIC_STRING, E_NUMERIC_STRING, S_CASE_IGNORE_IA5, E_CASE_IGNORE_IA5, S_OCTET_STRING, E_OCTET_STRING, S_OBJECT_IDENTIFIER_FIRST_COMPONENT, E_OBJECT_IDENTIFIER_FIRST_COMPONENT, S_CASE_IGNORE_LIST, E_CASE_IGNORE_LIST, S_DISTINGUISHED_NAME, E_DISTINGUISHED_NAME, S_CASE_EXACT, E_CASE_EXACT, S_INTEGER_FIRST_COMPONENT, E_INTEGER_FIRST_COMPONENT, S_UNIQUE_MEMBER, E_UNIQUE_MEMBER, S_OBJECT_IDENTIFIER, E_OBJECT_IDENTIFIER, S_TELEPHONE_NUMBER, E_TELEPHONE_NUMBER, F_CASE_IGNORE_substringsName, E_CASE_IGNORE_substringsName, F_NUMERIC_STRING_substringsName, E_NUMERIC_STRING_substringsName, F_CASE_IGNORE_IA5_substringsName, E_CASE_IGNORE_IA5_substringsName, F_OCTET_STRING_substringsName, F_OBJECT_IDENTIFIER_FIRST_COMPONENT_substringsName, F_CASE_IGNORE_LIST_substringsName, E_CASE_IGNORE_LIST_substringsName, F_DISTINGUISHED_NAME_substringsName, F_CASE_EXACT_substringsName, E_CASE_EXACT_substringsName, F_INTEGER_FIRST_COMPONENT_substringsName, F_UNIQUE_MEMBER_substringsName, F_OBJECT_IDENTIFIER_substringsName, F_TELEPHONE_NUMBER_substringsName, E_TELEPHONE_NUMBER_substringsName⟩ := F
  refine s_aloadN B X0 (pc' := 1) d3_0 rfl rfl rfl ?_
  refine s_getF B X0 (pc' := 4) e0 (host := "") (Or.inl (tw16 hw)) Via.refl F_UNIQUE_MEMBER_substringsName d3_1 rfl (fun T1 X1 e1 => ?_)
  refine s_ifnullY B X1 (pc' := 11) d3_4 (by decide) (by decide) ?_
  refine s_iconst B X1 (pc' := 12) (v := (0 : Int32)) d3_11 rfl rfl ?_
  exact r_nar B X1 (t := .boolean) (by simp) rfl d3_12 ⟨rfl, rfl, e1⟩ (by decide) (by decide)
theorem d1_93 : decode method_3_code 93 = .ok (.iload_n 0, 1) := by decide +kernel
theorem d1_94 : decode method_3_code 94 = .ok (.bipush 10, 2) := by decide +kernel
theorem d1_96 : decode method_3_code 96 = .ok (.if_icmp .ne 7, 3) := by decide +kernel
theorem d1_99 : decode method_3_code 99 = .ok (.getstatic 55, 3) := by decide +kernel
theorem d1_102 : decode method_3_code 102 = .ok (.areturn, 1) := by decide +kernel
theorem pn_rm1_30 : plainName "com/example/waymark/waymark/model/MatchingRuleHasSubstringsPinLaw" = true := by first | (simp [plainName, overriddenIn]; done) | decide +kernel
set_option maxRecDepth 65536 in
set_option maxHeartbeats 40000000 in
theorem rm1_30 (l : Launch) (Z : State) (a0 : Array Value) (hw : ∀ d ∈ tables_1, d.before a0 Z = true)  (w_CASE_IGNORE w_NUMERIC_STRING w_CASE_IGNORE_IA5 w_OCTET_STRING w_OBJECT_IDENTIFIER_FIRST_COMPONENT w_CASE_IGNORE_LIST w_DISTINGUISHED_NAME w_CASE_EXACT w_INTEGER_FIRST_COMPONENT w_UNIQUE_MEMBER w_OBJECT_IDENTIFIER w_TELEPHONE_NUMBER w_CASE_IGNORE_substringsName w_NUMERIC_STRING_substringsName w_CASE_IGNORE_IA5_substringsName w_CASE_IGNORE_LIST_substringsName w_CASE_EXACT_substringsName w_TELEPHONE_NUMBER_substringsName : Addr) (h0 : Heap) (F0 : OwnF Z h0 w_CASE_IGNORE w_NUMERIC_STRING w_CASE_IGNORE_IA5 w_OCTET_STRING w_OBJECT_IDENTIFIER_FIRST_COMPONENT w_CASE_IGNORE_LIST w_DISTINGUISHED_NAME w_CASE_EXACT w_INTEGER_FIRST_COMPONENT w_UNIQUE_MEMBER w_OBJECT_IDENTIFIER w_TELEPHONE_NUMBER w_CASE_IGNORE_substringsName w_NUMERIC_STRING_substringsName w_CASE_IGNORE_IA5_substringsName w_CASE_IGNORE_LIST_substringsName w_CASE_EXACT_substringsName w_TELEPHONE_NUMBER_substringsName)  :
    OMeets l Z mn0 method_3_code 1 (some (.object "com/example/waymark/waymark/model/MatchingRule")) [] ({ frames := 0, cells := 0, slots := 0, locals := 0 } : Room) #[(.int (10 : Int32))] h0 (PureQ (some (.ref w_INTEGER_FIRST_COMPONENT)) h0) := by
  refine OMeets.of pn_rm1_30 #[.val (.int (10 : Int32))] (fun m => by first | rfl | (simp [entryFrame, mkF, argsToLocals, Value.category, maxLocals]; done)) ?_
  intro p e s m below meth c s₁ B X0 e0
  have F := F0
  obtain ⟨S_CASE_IGNORE, E_CASE_IGNORE, S_NUMERIC_STRING, E_NUMERIC_STRING, S_CASE_IGNORE_IA5, E_CASE_IGNORE_IA5, S_OCTET_STRING, E_OCTET_STRING, S_OBJECT_IDENTIFIER_FIRST_COMPONENT, E_OBJECT_IDENTIFIER_FIRST_COMPONENT, S_CASE_IGNORE_LIST, E_CASE_IGNORE_LIST, S_DISTINGUISHED_NAME, E_DISTINGUISHED_NAME, S_CASE_EXACT, E_CASE_EXACT, S_INTEGER_FIRST_COMPONENT, E_INTEGER_FIRST_COMPONENT, S_UNIQUE_MEMBER, E_UNIQUE_MEMBER, S_OBJECT_IDENTIFIER, E_OBJECT_IDENTIFIER, S_TELEPHONE_NUMBER, E_TELEPHONE_NUMBER, F_CASE_IGNORE_substringsName, E_CASE_IGNORE_substringsName, F_NUMERIC_STRING_substringsName, E_NUMERIC_STRING_substringsName, F_CASE_IGNORE_IA5_substringsName, E_CASE_IGNORE_IA5_substringsName, F_OCTET_STRING_substringsName, F_OBJECT_IDENTIFIER_FIRST_COMPONENT_substringsName, F_CASE_IGNORE_LIST_substringsName, E_CASE_IGNORE_LIST_substringsName, F_DISTINGUISHED_NAME_substringsName, F_CASE_EXACT_substringsName, E_CASE_EXACT_substringsName, F_INTEGER_FIRST_COMPONENT_substringsName, F_UNIQUE_MEMBER_substringsName, F_OBJECT_IDENTIFIER_substringsName, F_TELEPHONE_NUMBER_substringsName, E_TELEPHONE_NUMBER_substringsName⟩ := F
  refine s_iloadN B X0 (pc' := 1) d1_0 rfl rfl ?_
  refine s_ifY B X0 (pc' := 8) d1_1 (by decide) (by decide) (by decide) ?_
  refine s_iloadN B X0 (pc' := 9) d1_8 rfl rfl ?_
  refine s_iconst B X0 (pc' := 10) (v := (1 : Int32)) d1_9 rfl rfl ?_
  refine s_icmpY B X0 (pc' := 17) d1_10 (by decide) (by decide) (by decide) ?_
  refine s_iloadN B X0 (pc' := 18) d1_17 rfl rfl ?_
  refine s_iconst B X0 (pc' := 19) (v := (2 : Int32)) d1_18 rfl rfl ?_
  refine s_icmpY B X0 (pc' := 26) d1_19 (by decide) (by decide) (by decide) ?_
  refine s_iloadN B X0 (pc' := 27) d1_26 rfl rfl ?_
  refine s_iconst B X0 (pc' := 28) (v := (3 : Int32)) d1_27 rfl rfl ?_
  refine s_icmpY B X0 (pc' := 35) d1_28 (by decide) (by decide) (by decide) ?_
  refine s_iloadN B X0 (pc' := 36) d1_35 rfl rfl ?_
  refine s_iconst B X0 (pc' := 37) (v := (4 : Int32)) d1_36 rfl rfl ?_
  refine s_icmpY B X0 (pc' := 44) d1_37 (by decide) (by decide) (by decide) ?_
  refine s_iloadN B X0 (pc' := 45) d1_44 rfl rfl ?_
  refine s_iconst B X0 (pc' := 46) (v := (5 : Int32)) d1_45 rfl rfl ?_
  refine s_icmpY B X0 (pc' := 53) d1_46 (by decide) (by decide) (by decide) ?_
  refine s_iloadN B X0 (pc' := 54) d1_53 rfl rfl ?_
  refine s_bipush B X0 (pc' := 56) (v := (6 : Int32)) d1_54 rfl rfl ?_
  refine s_icmpY B X0 (pc' := 63) d1_56 (by decide) (by decide) (by decide) ?_
  refine s_iloadN B X0 (pc' := 64) d1_63 rfl rfl ?_
  refine s_bipush B X0 (pc' := 66) (v := (7 : Int32)) d1_64 rfl rfl ?_
  refine s_icmpY B X0 (pc' := 73) d1_66 (by decide) (by decide) (by decide) ?_
  refine s_iloadN B X0 (pc' := 74) d1_73 rfl rfl ?_
  refine s_bipush B X0 (pc' := 76) (v := (8 : Int32)) d1_74 rfl rfl ?_
  refine s_icmpY B X0 (pc' := 83) d1_76 (by decide) (by decide) (by decide) ?_
  refine s_iloadN B X0 (pc' := 84) d1_83 rfl rfl ?_
  refine s_bipush B X0 (pc' := 86) (v := (9 : Int32)) d1_84 rfl rfl ?_
  refine s_icmpY B X0 (pc' := 93) d1_86 (by decide) (by decide) (by decide) ?_
  refine s_iloadN B X0 (pc' := 94) d1_93 rfl rfl ?_
  refine s_bipush B X0 (pc' := 96) (v := (10 : Int32)) d1_94 rfl rfl ?_
  refine s_icmpN B X0 (pc' := 99) d1_96 (by decide) rfl ?_
  refine s_getS B X0 (pc' := 102) e0 (tw32 hw) Via.refl S_INTEGER_FIRST_COMPONENT d1_99 rfl (fun T1 X1 e1 => ?_)
  exact r_ref B X1 (t := (.object "com/example/waymark/waymark/model/MatchingRule")) rfl rfl rfl rfl d1_102 ⟨rfl, rfl, e1⟩ (by decide) (by decide)

theorem pn_rm2_31 : plainName "com/example/waymark/waymark/model/MatchingRuleHasSubstringsPinLaw" = true := by first | (simp [plainName, overriddenIn]; done) | decide +kernel
set_option maxRecDepth 65536 in
set_option maxHeartbeats 40000000 in
theorem rm2_31 (l : Launch) (Z : State) (a0 : Array Value) (hw : ∀ d ∈ tables_1, d.before a0 Z = true)  (w_CASE_IGNORE w_NUMERIC_STRING w_CASE_IGNORE_IA5 w_OCTET_STRING w_OBJECT_IDENTIFIER_FIRST_COMPONENT w_CASE_IGNORE_LIST w_DISTINGUISHED_NAME w_CASE_EXACT w_INTEGER_FIRST_COMPONENT w_UNIQUE_MEMBER w_OBJECT_IDENTIFIER w_TELEPHONE_NUMBER w_CASE_IGNORE_substringsName w_NUMERIC_STRING_substringsName w_CASE_IGNORE_IA5_substringsName w_CASE_IGNORE_LIST_substringsName w_CASE_EXACT_substringsName w_TELEPHONE_NUMBER_substringsName : Addr) (h0 : Heap) (F0 : OwnF Z h0 w_CASE_IGNORE w_NUMERIC_STRING w_CASE_IGNORE_IA5 w_OCTET_STRING w_OBJECT_IDENTIFIER_FIRST_COMPONENT w_CASE_IGNORE_LIST w_DISTINGUISHED_NAME w_CASE_EXACT w_INTEGER_FIRST_COMPONENT w_UNIQUE_MEMBER w_OBJECT_IDENTIFIER w_TELEPHONE_NUMBER w_CASE_IGNORE_substringsName w_NUMERIC_STRING_substringsName w_CASE_IGNORE_IA5_substringsName w_CASE_IGNORE_LIST_substringsName w_CASE_EXACT_substringsName w_TELEPHONE_NUMBER_substringsName)  :
    OMeets l Z mn1 method_4_code 1 (some .boolean) [] ({ frames := 0, cells := 0, slots := 0, locals := 0 } : Room) #[(.int (10 : Int32))] h0 (PureQ (some (.int (0 : Int32))) h0) := by
  refine OMeets.of pn_rm2_31 #[.val (.int (10 : Int32))] (fun m => by first | rfl | (simp [entryFrame, mkF, argsToLocals, Value.category, maxLocals]; done)) ?_
  intro p e s m below meth c s₁ B X0 e0
  have F := F0
  obtain ⟨S_CASE_IGNORE, E_CASE_IGNORE, S_NUMERIC_STRING, E_NUMERIC_STRING, S_CASE_IGNORE_IA5, E_CASE_IGNORE_IA5, S_OCTET_STRING, E_OCTET_STRING, S_OBJECT_IDENTIFIER_FIRST_COMPONENT, E_OBJECT_IDENTIFIER_FIRST_COMPONENT, S_CASE_IGNORE_LIST, E_CASE_IGNORE_LIST, S_DISTINGUISHED_NAME, E_DISTINGUISHED_NAME, S_CASE_EXACT, E_CASE_EXACT, S_INTEGER_FIRST_COMPONENT, E_INTEGER_FIRST_COMPONENT, S_UNIQUE_MEMBER, E_UNIQUE_MEMBER, S_OBJECT_IDENTIFIER, E_OBJECT_IDENTIFIER, S_TELEPHONE_NUMBER, E_TELEPHONE_NUMBER, F_CASE_IGNORE_substringsName, E_CASE_IGNORE_substringsName, F_NUMERIC_STRING_substringsName, E_NUMERIC_STRING_substringsName, F_CASE_IGNORE_IA5_substringsName, E_CASE_IGNORE_IA5_substringsName, F_OCTET_STRING_substringsName, F_OBJECT_IDENTIFIER_FIRST_COMPONENT_substringsName, F_CASE_IGNORE_LIST_substringsName, E_CASE_IGNORE_LIST_substringsName, F_DISTINGUISHED_NAME_substringsName, F_CASE_EXACT_substringsName, E_CASE_EXACT_substringsName, F_INTEGER_FIRST_COMPONENT_substringsName, F_UNIQUE_MEMBER_substringsName, F_OBJECT_IDENTIFIER_substringsName, F_TELEPHONE_NUMBER_substringsName, E_TELEPHONE_NUMBER_substringsName⟩ := F
  refine s_iloadN B X0 (pc' := 1) d2_0 rfl rfl ?_
  refine s_ifN B X0 (pc' := 4) d2_1 (by decide) rfl ?_
  refine s_iloadN B X0 (pc' := 5) d2_4 rfl rfl ?_
  refine s_iconst B X0 (pc' := 6) (v := (1 : Int32)) d2_5 rfl rfl ?_
  refine s_icmpN B X0 (pc' := 9) d2_6 (by decide) rfl ?_
  refine s_iloadN B X0 (pc' := 10) d2_9 rfl rfl ?_
  refine s_iconst B X0 (pc' := 11) (v := (2 : Int32)) d2_10 rfl rfl ?_
  refine s_icmpN B X0 (pc' := 14) d2_11 (by decide) rfl ?_
  refine s_iloadN B X0 (pc' := 15) d2_14 rfl rfl ?_
  refine s_iconst B X0 (pc' := 16) (v := (3 : Int32)) d2_15 rfl rfl ?_
  refine s_icmpN B X0 (pc' := 19) d2_16 (by decide) rfl ?_
  refine s_iloadN B X0 (pc' := 20) d2_19 rfl rfl ?_
  refine s_iconst B X0 (pc' := 21) (v := (4 : Int32)) d2_20 rfl rfl ?_
  refine s_icmpN B X0 (pc' := 24) d2_21 (by decide) rfl ?_
  refine s_iloadN B X0 (pc' := 25) d2_24 rfl rfl ?_
  refine s_iconst B X0 (pc' := 26) (v := (5 : Int32)) d2_25 rfl rfl ?_
  refine s_icmpY B X0 (pc' := 31) d2_26 (by decide) (by decide) (by decide) ?_
  refine s_iconst B X0 (pc' := 32) (v := (0 : Int32)) d2_31 rfl rfl ?_
  exact r_nar B X0 (t := .boolean) (by simp) rfl d2_32 ⟨rfl, rfl, e0⟩ (by decide) (by decide)

theorem pn_rm3_32 : plainName "com/example/waymark/waymark/model/MatchingRule" = true := by first | (simp [plainName, overriddenIn]; done) | decide +kernel
set_option maxRecDepth 65536 in
set_option maxHeartbeats 40000000 in
theorem rm3_32 (l : Launch) (Z : State) (a0 : Array Value) (hw : ∀ d ∈ tables_1, d.before a0 Z = true)  (w_CASE_IGNORE w_NUMERIC_STRING w_CASE_IGNORE_IA5 w_OCTET_STRING w_OBJECT_IDENTIFIER_FIRST_COMPONENT w_CASE_IGNORE_LIST w_DISTINGUISHED_NAME w_CASE_EXACT w_INTEGER_FIRST_COMPONENT w_UNIQUE_MEMBER w_OBJECT_IDENTIFIER w_TELEPHONE_NUMBER w_CASE_IGNORE_substringsName w_NUMERIC_STRING_substringsName w_CASE_IGNORE_IA5_substringsName w_CASE_IGNORE_LIST_substringsName w_CASE_EXACT_substringsName w_TELEPHONE_NUMBER_substringsName : Addr) (h0 : Heap) (F0 : OwnF Z h0 w_CASE_IGNORE w_NUMERIC_STRING w_CASE_IGNORE_IA5 w_OCTET_STRING w_OBJECT_IDENTIFIER_FIRST_COMPONENT w_CASE_IGNORE_LIST w_DISTINGUISHED_NAME w_CASE_EXACT w_INTEGER_FIRST_COMPONENT w_UNIQUE_MEMBER w_OBJECT_IDENTIFIER w_TELEPHONE_NUMBER w_CASE_IGNORE_substringsName w_NUMERIC_STRING_substringsName w_CASE_IGNORE_IA5_substringsName w_CASE_IGNORE_LIST_substringsName w_CASE_EXACT_substringsName w_TELEPHONE_NUMBER_substringsName)  :
    OMeets l Z mn2 prog_62_method_13_code 1 (some .boolean) [] ({ frames := 0, cells := 0, slots := 0, locals := 0 } : Room) #[(.ref w_INTEGER_FIRST_COMPONENT)] h0 (PureQ (some (.int (0 : Int32))) h0) := by
  refine OMeets.of pn_rm3_32 #[.val (.ref w_INTEGER_FIRST_COMPONENT)] (fun m => by first | rfl | (simp [entryFrame, mkF, argsToLocals, Value.category, maxLocals]; done)) ?_
  intro p e s m below meth c s₁ B X0 e0
  have F := F0
  obtain ⟨S_CASE_IGNORE, E_CASE_IGNORE, S_NUMERIC_STRING, E_NUMERIC_STRING, S_CASE_IGNORE_IA5, E_CASE_IGNORE_IA5, S_OCTET_STRING, E_OCTET_STRING, S_OBJECT_IDENTIFIER_FIRST_COMPONENT, E_OBJECT_IDENTIFIER_FIRST_COMPONENT, S_CASE_IGNORE_LIST, E_CASE_IGNORE_LIST, S_DISTINGUISHED_NAME, E_DISTINGUISHED_NAME, S_CASE_EXACT, E_CASE_EXACT, S_INTEGER_FIRST_COMPONENT, E_INTEGER_FIRST_COMPONENT, S_UNIQUE_MEMBER, E_UNIQUE_MEMBER, S_OBJECT_IDENTIFIER, E_OBJECT_IDENTIFIER, S_TELEPHONE_NUMBER, E_TELEPHONE_NUMBER, F_CASE_IGNORE_substringsName, E_CASE_IGNORE_substringsName, F_NUMERIC_STRING_substringsName, E_NUMERIC_STRING_substringsName, F_CASE_IGNORE_IA5_substringsName, E_CASE_IGNORE_IA5_substringsName, F_OCTET_STRING_substringsName, F_OBJECT_IDENTIFIER_FIRST_COMPONENT_substringsName, F_CASE_IGNORE_LIST_substringsName, E_CASE_IGNORE_LIST_substringsName, F_DISTINGUISHED_NAME_substringsName, F_CASE_EXACT_substringsName, E_CASE_EXACT_substringsName, F_INTEGER_FIRST_COMPONENT_substringsName, F_UNIQUE_MEMBER_substringsName, F_OBJECT_IDENTIFIER_substringsName, F_TELEPHONE_NUMBER_substringsName, E_TELEPHONE_NUMBER_substringsName⟩ := F
  refine s_aloadN B X0 (pc' := 1) d3_0 rfl rfl rfl ?_
  refine s_getF B X0 (pc' := 4) e0 (host := "") (Or.inl (tw16 hw)) Via.refl F_INTEGER_FIRST_COMPONENT_substringsName d3_1 rfl (fun T1 X1 e1 => ?_)
  refine s_ifnullY B X1 (pc' := 11) d3_4 (by decide) (by decide) ?_
  refine s_iconst B X1 (pc' := 12) (v := (0 : Int32)) d3_11 rfl rfl ?_
  exact r_nar B X1 (t := .boolean) (by simp) rfl d3_12 ⟨rfl, rfl, e1⟩ (by decide) (by decide)
theorem d1_103 : decode method_3_code 103 = .ok (.getstatic 58, 3) := by decide +kernel
theorem d1_106 : decode method_3_code 106 = .ok (.areturn, 1) := by decide +kernel
theorem pn_rm1_33 : plainName "com/example/waymark/waymark/model/MatchingRuleHasSubstringsPinLaw" = true := by first | (simp [plainName, overriddenIn]; done) | decide +kernel
set_option maxRecDepth 65536 in
set_option maxHeartbeats 40000000 in
theorem rm1_33 (l : Launch) (Z : State) (a0 : Array Value) (hw : ∀ d ∈ tables_1, d.before a0 Z = true)  (w_CASE_IGNORE w_NUMERIC_STRING w_CASE_IGNORE_IA5 w_OCTET_STRING w_OBJECT_IDENTIFIER_FIRST_COMPONENT w_CASE_IGNORE_LIST w_DISTINGUISHED_NAME w_CASE_EXACT w_INTEGER_FIRST_COMPONENT w_UNIQUE_MEMBER w_OBJECT_IDENTIFIER w_TELEPHONE_NUMBER w_CASE_IGNORE_substringsName w_NUMERIC_STRING_substringsName w_CASE_IGNORE_IA5_substringsName w_CASE_IGNORE_LIST_substringsName w_CASE_EXACT_substringsName w_TELEPHONE_NUMBER_substringsName : Addr) (h0 : Heap) (F0 : OwnF Z h0 w_CASE_IGNORE w_NUMERIC_STRING w_CASE_IGNORE_IA5 w_OCTET_STRING w_OBJECT_IDENTIFIER_FIRST_COMPONENT w_CASE_IGNORE_LIST w_DISTINGUISHED_NAME w_CASE_EXACT w_INTEGER_FIRST_COMPONENT w_UNIQUE_MEMBER w_OBJECT_IDENTIFIER w_TELEPHONE_NUMBER w_CASE_IGNORE_substringsName w_NUMERIC_STRING_substringsName w_CASE_IGNORE_IA5_substringsName w_CASE_IGNORE_LIST_substringsName w_CASE_EXACT_substringsName w_TELEPHONE_NUMBER_substringsName)  :
    OMeets l Z mn0 method_3_code 1 (some (.object "com/example/waymark/waymark/model/MatchingRule")) [] ({ frames := 0, cells := 0, slots := 0, locals := 0 } : Room) #[(.int (11 : Int32))] h0 (PureQ (some (.ref w_OBJECT_IDENTIFIER_FIRST_COMPONENT)) h0) := by
  refine OMeets.of pn_rm1_33 #[.val (.int (11 : Int32))] (fun m => by first | rfl | (simp [entryFrame, mkF, argsToLocals, Value.category, maxLocals]; done)) ?_
  intro p e s m below meth c s₁ B X0 e0
  have F := F0
  obtain ⟨S_CASE_IGNORE, E_CASE_IGNORE, S_NUMERIC_STRING, E_NUMERIC_STRING, S_CASE_IGNORE_IA5, E_CASE_IGNORE_IA5, S_OCTET_STRING, E_OCTET_STRING, S_OBJECT_IDENTIFIER_FIRST_COMPONENT, E_OBJECT_IDENTIFIER_FIRST_COMPONENT, S_CASE_IGNORE_LIST, E_CASE_IGNORE_LIST, S_DISTINGUISHED_NAME, E_DISTINGUISHED_NAME, S_CASE_EXACT, E_CASE_EXACT, S_INTEGER_FIRST_COMPONENT, E_INTEGER_FIRST_COMPONENT, S_UNIQUE_MEMBER, E_UNIQUE_MEMBER, S_OBJECT_IDENTIFIER, E_OBJECT_IDENTIFIER, S_TELEPHONE_NUMBER, E_TELEPHONE_NUMBER, F_CASE_IGNORE_substringsName, E_CASE_IGNORE_substringsName, F_NUMERIC_STRING_substringsName, E_NUMERIC_STRING_substringsName, F_CASE_IGNORE_IA5_substringsName, E_CASE_IGNORE_IA5_substringsName, F_OCTET_STRING_substringsName, F_OBJECT_IDENTIFIER_FIRST_COMPONENT_substringsName, F_CASE_IGNORE_LIST_substringsName, E_CASE_IGNORE_LIST_substringsName, F_DISTINGUISHED_NAME_substringsName, F_CASE_EXACT_substringsName, E_CASE_EXACT_substringsName, F_INTEGER_FIRST_COMPONENT_substringsName, F_UNIQUE_MEMBER_substringsName, F_OBJECT_IDENTIFIER_substringsName, F_TELEPHONE_NUMBER_substringsName, E_TELEPHONE_NUMBER_substringsName⟩ := F
  refine s_iloadN B X0 (pc' := 1) d1_0 rfl rfl ?_
  refine s_ifY B X0 (pc' := 8) d1_1 (by decide) (by decide) (by decide) ?_
  refine s_iloadN B X0 (pc' := 9) d1_8 rfl rfl ?_
  refine s_iconst B X0 (pc' := 10) (v := (1 : Int32)) d1_9 rfl rfl ?_
  refine s_icmpY B X0 (pc' := 17) d1_10 (by decide) (by decide) (by decide) ?_
  refine s_iloadN B X0 (pc' := 18) d1_17 rfl rfl ?_
  refine s_iconst B X0 (pc' := 19) (v := (2 : Int32)) d1_18 rfl rfl ?_
  refine s_icmpY B X0 (pc' := 26) d1_19 (by decide) (by decide) (by decide) ?_
  refine s_iloadN B X0 (pc' := 27) d1_26 rfl rfl ?_
  refine s_iconst B X0 (pc' := 28) (v := (3 : Int32)) d1_27 rfl rfl ?_
  refine s_icmpY B X0 (pc' := 35) d1_28 (by decide) (by decide) (by decide) ?_
  refine s_iloadN B X0 (pc' := 36) d1_35 rfl rfl ?_
  refine s_iconst B X0 (pc' := 37) (v := (4 : Int32)) d1_36 rfl rfl ?_
  refine s_icmpY B X0 (pc' := 44) d1_37 (by decide) (by decide) (by decide) ?_
  refine s_iloadN B X0 (pc' := 45) d1_44 rfl rfl ?_
  refine s_iconst B X0 (pc' := 46) (v := (5 : Int32)) d1_45 rfl rfl ?_
  refine s_icmpY B X0 (pc' := 53) d1_46 (by decide) (by decide) (by decide) ?_
  refine s_iloadN B X0 (pc' := 54) d1_53 rfl rfl ?_
  refine s_bipush B X0 (pc' := 56) (v := (6 : Int32)) d1_54 rfl rfl ?_
  refine s_icmpY B X0 (pc' := 63) d1_56 (by decide) (by decide) (by decide) ?_
  refine s_iloadN B X0 (pc' := 64) d1_63 rfl rfl ?_
  refine s_bipush B X0 (pc' := 66) (v := (7 : Int32)) d1_64 rfl rfl ?_
  refine s_icmpY B X0 (pc' := 73) d1_66 (by decide) (by decide) (by decide) ?_
  refine s_iloadN B X0 (pc' := 74) d1_73 rfl rfl ?_
  refine s_bipush B X0 (pc' := 76) (v := (8 : Int32)) d1_74 rfl rfl ?_
  refine s_icmpY B X0 (pc' := 83) d1_76 (by decide) (by decide) (by decide) ?_
  refine s_iloadN B X0 (pc' := 84) d1_83 rfl rfl ?_
  refine s_bipush B X0 (pc' := 86) (v := (9 : Int32)) d1_84 rfl rfl ?_
  refine s_icmpY B X0 (pc' := 93) d1_86 (by decide) (by decide) (by decide) ?_
  refine s_iloadN B X0 (pc' := 94) d1_93 rfl rfl ?_
  refine s_bipush B X0 (pc' := 96) (v := (10 : Int32)) d1_94 rfl rfl ?_
  refine s_icmpY B X0 (pc' := 103) d1_96 (by decide) (by decide) (by decide) ?_
  refine s_getS B X0 (pc' := 106) e0 (tw24 hw) Via.refl S_OBJECT_IDENTIFIER_FIRST_COMPONENT d1_103 rfl (fun T1 X1 e1 => ?_)
  exact r_ref B X1 (t := (.object "com/example/waymark/waymark/model/MatchingRule")) rfl rfl rfl rfl d1_106 ⟨rfl, rfl, e1⟩ (by decide) (by decide)

theorem pn_rm2_34 : plainName "com/example/waymark/waymark/model/MatchingRuleHasSubstringsPinLaw" = true := by first | (simp [plainName, overriddenIn]; done) | decide +kernel
set_option maxRecDepth 65536 in
set_option maxHeartbeats 40000000 in
theorem rm2_34 (l : Launch) (Z : State) (a0 : Array Value) (hw : ∀ d ∈ tables_1, d.before a0 Z = true)  (w_CASE_IGNORE w_NUMERIC_STRING w_CASE_IGNORE_IA5 w_OCTET_STRING w_OBJECT_IDENTIFIER_FIRST_COMPONENT w_CASE_IGNORE_LIST w_DISTINGUISHED_NAME w_CASE_EXACT w_INTEGER_FIRST_COMPONENT w_UNIQUE_MEMBER w_OBJECT_IDENTIFIER w_TELEPHONE_NUMBER w_CASE_IGNORE_substringsName w_NUMERIC_STRING_substringsName w_CASE_IGNORE_IA5_substringsName w_CASE_IGNORE_LIST_substringsName w_CASE_EXACT_substringsName w_TELEPHONE_NUMBER_substringsName : Addr) (h0 : Heap) (F0 : OwnF Z h0 w_CASE_IGNORE w_NUMERIC_STRING w_CASE_IGNORE_IA5 w_OCTET_STRING w_OBJECT_IDENTIFIER_FIRST_COMPONENT w_CASE_IGNORE_LIST w_DISTINGUISHED_NAME w_CASE_EXACT w_INTEGER_FIRST_COMPONENT w_UNIQUE_MEMBER w_OBJECT_IDENTIFIER w_TELEPHONE_NUMBER w_CASE_IGNORE_substringsName w_NUMERIC_STRING_substringsName w_CASE_IGNORE_IA5_substringsName w_CASE_IGNORE_LIST_substringsName w_CASE_EXACT_substringsName w_TELEPHONE_NUMBER_substringsName)  :
    OMeets l Z mn1 method_4_code 1 (some .boolean) [] ({ frames := 0, cells := 0, slots := 0, locals := 0 } : Room) #[(.int (11 : Int32))] h0 (PureQ (some (.int (0 : Int32))) h0) := by
  refine OMeets.of pn_rm2_34 #[.val (.int (11 : Int32))] (fun m => by first | rfl | (simp [entryFrame, mkF, argsToLocals, Value.category, maxLocals]; done)) ?_
  intro p e s m below meth c s₁ B X0 e0
  have F := F0
  obtain ⟨S_CASE_IGNORE, E_CASE_IGNORE, S_NUMERIC_STRING, E_NUMERIC_STRING, S_CASE_IGNORE_IA5, E_CASE_IGNORE_IA5, S_OCTET_STRING, E_OCTET_STRING, S_OBJECT_IDENTIFIER_FIRST_COMPONENT, E_OBJECT_IDENTIFIER_FIRST_COMPONENT, S_CASE_IGNORE_LIST, E_CASE_IGNORE_LIST, S_DISTINGUISHED_NAME, E_DISTINGUISHED_NAME, S_CASE_EXACT, E_CASE_EXACT, S_INTEGER_FIRST_COMPONENT, E_INTEGER_FIRST_COMPONENT, S_UNIQUE_MEMBER, E_UNIQUE_MEMBER, S_OBJECT_IDENTIFIER, E_OBJECT_IDENTIFIER, S_TELEPHONE_NUMBER, E_TELEPHONE_NUMBER, F_CASE_IGNORE_substringsName, E_CASE_IGNORE_substringsName, F_NUMERIC_STRING_substringsName, E_NUMERIC_STRING_substringsName, F_CASE_IGNORE_IA5_substringsName, E_CASE_IGNORE_IA5_substringsName, F_OCTET_STRING_substringsName, F_OBJECT_IDENTIFIER_FIRST_COMPONENT_substringsName, F_CASE_IGNORE_LIST_substringsName, E_CASE_IGNORE_LIST_substringsName, F_DISTINGUISHED_NAME_substringsName, F_CASE_EXACT_substringsName, E_CASE_EXACT_substringsName, F_INTEGER_FIRST_COMPONENT_substringsName, F_UNIQUE_MEMBER_substringsName, F_OBJECT_IDENTIFIER_substringsName, F_TELEPHONE_NUMBER_substringsName, E_TELEPHONE_NUMBER_substringsName⟩ := F
  refine s_iloadN B X0 (pc' := 1) d2_0 rfl rfl ?_
  refine s_ifN B X0 (pc' := 4) d2_1 (by decide) rfl ?_
  refine s_iloadN B X0 (pc' := 5) d2_4 rfl rfl ?_
  refine s_iconst B X0 (pc' := 6) (v := (1 : Int32)) d2_5 rfl rfl ?_
  refine s_icmpN B X0 (pc' := 9) d2_6 (by decide) rfl ?_
  refine s_iloadN B X0 (pc' := 10) d2_9 rfl rfl ?_
  refine s_iconst B X0 (pc' := 11) (v := (2 : Int32)) d2_10 rfl rfl ?_
  refine s_icmpN B X0 (pc' := 14) d2_11 (by decide) rfl ?_
  refine s_iloadN B X0 (pc' := 15) d2_14 rfl rfl ?_
  refine s_iconst B X0 (pc' := 16) (v := (3 : Int32)) d2_15 rfl rfl ?_
  refine s_icmpN B X0 (pc' := 19) d2_16 (by decide) rfl ?_
  refine s_iloadN B X0 (pc' := 20) d2_19 rfl rfl ?_
  refine s_iconst B X0 (pc' := 21) (v := (4 : Int32)) d2_20 rfl rfl ?_
  refine s_icmpN B X0 (pc' := 24) d2_21 (by decide) rfl ?_
  refine s_iloadN B X0 (pc' := 25) d2_24 rfl rfl ?_
  refine s_iconst B X0 (pc' := 26) (v := (5 : Int32)) d2_25 rfl rfl ?_
  refine s_icmpY B X0 (pc' := 31) d2_26 (by decide) (by decide) (by decide) ?_
  refine s_iconst B X0 (pc' := 32) (v := (0 : Int32)) d2_31 rfl rfl ?_
  exact r_nar B X0 (t := .boolean) (by simp) rfl d2_32 ⟨rfl, rfl, e0⟩ (by decide) (by decide)

theorem pn_rm3_35 : plainName "com/example/waymark/waymark/model/MatchingRule" = true := by first | (simp [plainName, overriddenIn]; done) | decide +kernel
set_option maxRecDepth 65536 in
set_option maxHeartbeats 40000000 in
theorem rm3_35 (l : Launch) (Z : State) (a0 : Array Value) (hw : ∀ d ∈ tables_1, d.before a0 Z = true)  (w_CASE_IGNORE w_NUMERIC_STRING w_CASE_IGNORE_IA5 w_OCTET_STRING w_OBJECT_IDENTIFIER_FIRST_COMPONENT w_CASE_IGNORE_LIST w_DISTINGUISHED_NAME w_CASE_EXACT w_INTEGER_FIRST_COMPONENT w_UNIQUE_MEMBER w_OBJECT_IDENTIFIER w_TELEPHONE_NUMBER w_CASE_IGNORE_substringsName w_NUMERIC_STRING_substringsName w_CASE_IGNORE_IA5_substringsName w_CASE_IGNORE_LIST_substringsName w_CASE_EXACT_substringsName w_TELEPHONE_NUMBER_substringsName : Addr) (h0 : Heap) (F0 : OwnF Z h0 w_CASE_IGNORE w_NUMERIC_STRING w_CASE_IGNORE_IA5 w_OCTET_STRING w_OBJECT_IDENTIFIER_FIRST_COMPONENT w_CASE_IGNORE_LIST w_DISTINGUISHED_NAME w_CASE_EXACT w_INTEGER_FIRST_COMPONENT w_UNIQUE_MEMBER w_OBJECT_IDENTIFIER w_TELEPHONE_NUMBER w_CASE_IGNORE_substringsName w_NUMERIC_STRING_substringsName w_CASE_IGNORE_IA5_substringsName w_CASE_IGNORE_LIST_substringsName w_CASE_EXACT_substringsName w_TELEPHONE_NUMBER_substringsName)  :
    OMeets l Z mn2 prog_62_method_13_code 1 (some .boolean) [] ({ frames := 0, cells := 0, slots := 0, locals := 0 } : Room) #[(.ref w_OBJECT_IDENTIFIER_FIRST_COMPONENT)] h0 (PureQ (some (.int (0 : Int32))) h0) := by
  refine OMeets.of pn_rm3_35 #[.val (.ref w_OBJECT_IDENTIFIER_FIRST_COMPONENT)] (fun m => by first | rfl | (simp [entryFrame, mkF, argsToLocals, Value.category, maxLocals]; done)) ?_
  intro p e s m below meth c s₁ B X0 e0
  have F := F0
  obtain ⟨S_CASE_IGNORE, E_CASE_IGNORE, S_NUMERIC_STRING, E_NUMERIC_STRING, S_CASE_IGNORE_IA5, E_CASE_IGNORE_IA5, S_OCTET_STRING, E_OCTET_STRING, S_OBJECT_IDENTIFIER_FIRST_COMPONENT, E_OBJECT_IDENTIFIER_FIRST_COMPONENT, S_CASE_IGNORE_LIST, E_CASE_IGNORE_LIST, S_DISTINGUISHED_NAME, E_DISTINGUISHED_NAME, S_CASE_EXACT, E_CASE_EXACT, S_INTEGER_FIRST_COMPONENT, E_INTEGER_FIRST_COMPONENT, S_UNIQUE_MEMBER, E_UNIQUE_MEMBER, S_OBJECT_IDENTIFIER, E_OBJECT_IDENTIFIER, S_TELEPHONE_NUMBER, E_TELEPHONE_NUMBER, F_CASE_IGNORE_substringsName, E_CASE_IGNORE_substringsName, F_NUMERIC_STRING_substringsName, E_NUMERIC_STRING_substringsName, F_CASE_IGNORE_IA5_substringsName, E_CASE_IGNORE_IA5_substringsName, F_OCTET_STRING_substringsName, F_OBJECT_IDENTIFIER_FIRST_COMPONENT_substringsName, F_CASE_IGNORE_LIST_substringsName, E_CASE_IGNORE_LIST_substringsName, F_DISTINGUISHED_NAME_substringsName, F_CASE_EXACT_substringsName, E_CASE_EXACT_substringsName, F_INTEGER_FIRST_COMPONENT_substringsName, F_UNIQUE_MEMBER_substringsName, F_OBJECT_IDENTIFIER_substringsName, F_TELEPHONE_NUMBER_substringsName, E_TELEPHONE_NUMBER_substringsName⟩ := F
  refine s_aloadN B X0 (pc' := 1) d3_0 rfl rfl rfl ?_
  refine s_getF B X0 (pc' := 4) e0 (host := "") (Or.inl (tw16 hw)) Via.refl F_OBJECT_IDENTIFIER_FIRST_COMPONENT_substringsName d3_1 rfl (fun T1 X1 e1 => ?_)
  refine s_ifnullY B X1 (pc' := 11) d3_4 (by decide) (by decide) ?_
  refine s_iconst B X1 (pc' := 12) (v := (0 : Int32)) d3_11 rfl rfl ?_
  exact r_nar B X1 (t := .boolean) (by simp) rfl d3_12 ⟨rfl, rfl, e1⟩ (by decide) (by decide)

theorem pn_rm_law : plainName "com/example/waymark/waymark/model/MatchingRuleHasSubstringsPinLaw" = true := by first | (simp [plainName, overriddenIn]; done) | decide +kernel
set_option maxRecDepth 65536 in
set_option maxHeartbeats 40000000 in
theorem rm_law (l : Launch) (Z : State) (a0 : Array Value) (hw : ∀ d ∈ tables_1, d.before a0 Z = true) (i0 : Int32) (w_CASE_IGNORE w_NUMERIC_STRING w_CASE_IGNORE_IA5 w_OCTET_STRING w_OBJECT_IDENTIFIER_FIRST_COMPONENT w_CASE_IGNORE_LIST w_DISTINGUISHED_NAME w_CASE_EXACT w_INTEGER_FIRST_COMPONENT w_UNIQUE_MEMBER w_OBJECT_IDENTIFIER w_TELEPHONE_NUMBER w_CASE_IGNORE_substringsName w_NUMERIC_STRING_substringsName w_CASE_IGNORE_IA5_substringsName w_CASE_IGNORE_LIST_substringsName w_CASE_EXACT_substringsName w_TELEPHONE_NUMBER_substringsName : Addr) (F0 : OwnF Z Z.heap w_CASE_IGNORE w_NUMERIC_STRING w_CASE_IGNORE_IA5 w_OCTET_STRING w_OBJECT_IDENTIFIER_FIRST_COMPONENT w_CASE_IGNORE_LIST w_DISTINGUISHED_NAME w_CASE_EXACT w_INTEGER_FIRST_COMPONENT w_UNIQUE_MEMBER w_OBJECT_IDENTIFIER w_TELEPHONE_NUMBER w_CASE_IGNORE_substringsName w_NUMERIC_STRING_substringsName w_CASE_IGNORE_IA5_substringsName w_CASE_IGNORE_LIST_substringsName w_CASE_EXACT_substringsName w_TELEPHONE_NUMBER_substringsName) :
    OMeets l Z x code maxLocals ret tables_1 room_1 #[(.int i0)] Z.heap (fun v h L => v = some (.int 1) ∧ Fr Z.heap.size L) := by
  refine OMeets.of pn_rm_law #[.val (.int i0), .unset, .unset, .unset] (fun m => by first | rfl | (simp [entryFrame, mkF, argsToLocals, Value.category, maxLocals]; done)) ?_
  intro p e s m below meth c s₁ B X0 e0
  have F := F0
  obtain ⟨S_CASE_IGNORE, E_CASE_IGNORE, S_NUMERIC_STRING, E_NUMERIC_STRING, S_CASE_IGNORE_IA5, E_CASE_IGNORE_IA5, S_OCTET_STRING, E_OCTET_STRING, S_OBJECT_IDENTIFIER_FIRST_COMPONENT, E_OBJECT_IDENTIFIER_FIRST_COMPONENT, S_CASE_IGNORE_LIST, E_CASE_IGNORE_LIST, S_DISTINGUISHED_NAME, E_DISTINGUISHED_NAME, S_CASE_EXACT, E_CASE_EXACT, S_INTEGER_FIRST_COMPONENT, E_INTEGER_FIRST_COMPONENT, S_UNIQUE_MEMBER, E_UNIQUE_MEMBER, S_OBJECT_IDENTIFIER, E_OBJECT_IDENTIFIER, S_TELEPHONE_NUMBER, E_TELEPHONE_NUMBER, F_CASE_IGNORE_substringsName, E_CASE_IGNORE_substringsName, F_NUMERIC_STRING_substringsName, E_NUMERIC_STRING_substringsName, F_CASE_IGNORE_IA5_substringsName, E_CASE_IGNORE_IA5_substringsName, F_OCTET_STRING_substringsName, F_OBJECT_IDENTIFIER_FIRST_COMPONENT_substringsName, F_CASE_IGNORE_LIST_substringsName, E_CASE_IGNORE_LIST_substringsName, F_DISTINGUISHED_NAME_substringsName, F_CASE_EXACT_substringsName, E_CASE_EXACT_substringsName, F_INTEGER_FIRST_COMPONENT_substringsName, F_UNIQUE_MEMBER_substringsName, F_OBJECT_IDENTIFIER_substringsName, F_TELEPHONE_NUMBER_substringsName, E_TELEPHONE_NUMBER_substringsName⟩ := F
  rcases own_rem12 i0 with hv1 | hv1 | hv1 | hv1 | hv1 | hv1 | hv1 | hv1 | hv1 | hv1 | hv1 | hv1
  · refine s_iloadN B X0 (pc' := 1) at_0 rfl rfl ?_
    refine s_ldc B X0 (pc' := 3) (v := (2147483647 : Int32)) (tw0 hw) at_1 rfl ?_
    refine s_iand B X0 (pc' := 4) (v := (i0 &&& (2147483647 : Int32))) at_3 rfl rfl ?_
    refine s_bipush B X0 (pc' := 6) (v := (12 : Int32)) at_4 rfl rfl ?_
    refine s_irem B X0 (pc' := 7) (v := (0 : Int32)) at_6 (hv1) (by decide) rfl ?_
    refine s_istoreN B X0 (pc' := 8) (Ls' := #[.val (.int i0), .val (.int (0 : Int32)), .unset, .unset]) at_7 rfl rfl ?_
    refine s_iloadN B X0 (pc' := 9) at_8 rfl rfl ?_
    refine p_static B X0 (y := mn0) (pc' := 12) (argsL := [(.int (0 : Int32))]) (under := []) (W := 0) e0 (tw1 hw) (tw2 hw) (tw4 hw) (tw3 hw) (by decide) (rm1_0 l Z a0 hw  w_CASE_IGNORE w_NUMERIC_STRING w_CASE_IGNORE_IA5 w_OCTET_STRING w_OBJECT_IDENTIFIER_FIRST_COMPONENT w_CASE_IGNORE_LIST w_DISTINGUISHED_NAME w_CASE_EXACT w_INTEGER_FIRST_COMPONENT w_UNIQUE_MEMBER w_OBJECT_IDENTIFIER w_TELEPHONE_NUMBER w_CASE_IGNORE_substringsName w_NUMERIC_STRING_substringsName w_CASE_IGNORE_IA5_substringsName w_CASE_IGNORE_LIST_substringsName w_CASE_EXACT_substringsName w_TELEPHONE_NUMBER_substringsName Z.heap F0 ) (lenOf pd_0 rfl) rfl rfl (by decide) (by decide) rfl rfl (by decide) (by decide) rfl at_9 rfl (fun T2 X2 e2 => ?_)
    show Go p e below _ (T2.setTop (mkF m 12 #[.val (.int i0), .val (.int (0 : Int32)), .unset, .unset] [(.ref w_CASE_IGNORE)]))
    refine s_astoreN B X2 (pc' := 13) (Ls' := #[.val (.int i0), .val (.int (0 : Int32)), .val (.ref w_CASE_IGNORE), .unset]) at_12 rfl rfl rfl ?_
    refine s_iloadN B X2 (pc' := 14) at_13 rfl rfl ?_
    refine p_static B X2 (y := mn1) (pc' := 17) (argsL := [(.int (0 : Int32))]) (under := []) (W := 0) e2 (tw8 hw) (tw9 hw) (tw10 hw) (tw3 hw) (by decide) (rm2_1 l Z a0 hw  w_CASE_IGNORE w_NUMERIC_STRING w_CASE_IGNORE_IA5 w_OCTET_STRING w_OBJECT_IDENTIFIER_FIRST_COMPONENT w_CASE_IGNORE_LIST w_DISTINGUISHED_NAME w_CASE_EXACT w_INTEGER_FIRST_COMPONENT w_UNIQUE_MEMBER w_OBJECT_IDENTIFIER w_TELEPHONE_NUMBER w_CASE_IGNORE_substringsName w_NUMERIC_STRING_substringsName w_CASE_IGNORE_IA5_substringsName w_CASE_IGNORE_LIST_substringsName w_CASE_EXACT_substringsName w_TELEPHONE_NUMBER_substringsName Z.heap F0 ) (lenOf pd_1 rfl) rfl rfl (by decide) (by decide) rfl rfl (by decide) (by decide) rfl at_14 rfl (fun T3 X3 e3 => ?_)
    show Go p e below _ (T3.setTop (mkF m 17 #[.val (.int i0), .val (.int (0 : Int32)), .val (.ref w_CASE_IGNORE), .unset] [(.int (1 : Int32))]))
    refine s_istoreN B X3 (pc' := 18) (Ls' := #[.val (.int i0), .val (.int (0 : Int32)), .val (.ref w_CASE_IGNORE), .val (.int (1 : Int32))]) at_17 rfl rfl ?_
    refine s_aloadN B X3 (pc' := 19) at_18 rfl rfl rfl ?_
    refine p_virtual B X3 (y := mn2) (pc' := 22) (argsL := []) (under := []) (W := 0) e3 (tw11 hw) (tw12 hw) (tw14 hw) (tw13 hw) (tw15 hw) (tw6 hw) (by decide) (rm3_2 l Z a0 hw  w_CASE_IGNORE w_NUMERIC_STRING w_CASE_IGNORE_IA5 w_OCTET_STRING w_OBJECT_IDENTIFIER_FIRST_COMPONENT w_CASE_IGNORE_LIST w_DISTINGUISHED_NAME w_CASE_EXACT w_INTEGER_FIRST_COMPONENT w_UNIQUE_MEMBER w_OBJECT_IDENTIFIER w_TELEPHONE_NUMBER w_CASE_IGNORE_substringsName w_NUMERIC_STRING_substringsName w_CASE_IGNORE_IA5_substringsName w_CASE_IGNORE_LIST_substringsName w_CASE_EXACT_substringsName w_TELEPHONE_NUMBER_substringsName Z.heap F0 ) E_CASE_IGNORE (lenOf pd_2 rfl) rfl rfl (by decide) (by decide) rfl rfl (by decide) (by decide) rfl at_19 rfl (fun T4 X4 e4 => ?_)
    show Go p e below _ (T4.setTop (mkF m 22 #[.val (.int i0), .val (.int (0 : Int32)), .val (.ref w_CASE_IGNORE), .val (.int (1 : Int32))] [(.int (1 : Int32))]))
    refine s_iloadN B X4 (pc' := 23) at_22 rfl rfl ?_
    refine s_icmpN B X4 (pc' := 26) at_23 (by decide) rfl ?_
    refine s_iconst B X4 (pc' := 27) (v := (1 : Int32)) at_26 rfl rfl ?_
    refine s_goto B X4 (pc' := 31) at_27 (by decide) (by decide) ?_
    exact r_nar B X4 (t := .boolean) (by simp) rfl at_31 ⟨rfl, (Fr.nil _)⟩ (by decide) (by decide)
  · refine s_iloadN B X0 (pc' := 1) at_0 rfl rfl ?_
    refine s_ldc B X0 (pc' := 3) (v := (2147483647 : Int32)) (tw0 hw) at_1 rfl ?_
    refine s_iand B X0 (pc' := 4) (v := (i0 &&& (2147483647 : Int32))) at_3 rfl rfl ?_
    refine s_bipush B X0 (pc' := 6) (v := (12 : Int32)) at_4 rfl rfl ?_
    refine s_irem B X0 (pc' := 7) (v := (1 : Int32)) at_6 (hv1) (by decide) rfl ?_
    refine s_istoreN B X0 (pc' := 8) (Ls' := #[.val (.int i0), .val (.int (1 : Int32)), .unset, .unset]) at_7 rfl rfl ?_
    refine s_iloadN B X0 (pc' := 9) at_8 rfl rfl ?_
    refine p_static B X0 (y := mn0) (pc' := 12) (argsL := [(.int (1 : Int32))]) (under := []) (W := 0) e0 (tw1 hw) (tw2 hw) (tw4 hw) (tw3 hw) (by decide) (rm1_3 l Z a0 hw  w_CASE_IGNORE w_NUMERIC_STRING w_CASE_IGNORE_IA5 w_OCTET_STRING w_OBJECT_IDENTIFIER_FIRST_COMPONENT w_CASE_IGNORE_LIST w_DISTINGUISHED_NAME w_CASE_EXACT w_INTEGER_FIRST_COMPONENT w_UNIQUE_MEMBER w_OBJECT_IDENTIFIER w_TELEPHONE_NUMBER w_CASE_IGNORE_substringsName w_NUMERIC_STRING_substringsName w_CASE_IGNORE_IA5_substringsName w_CASE_IGNORE_LIST_substringsName w_CASE_EXACT_substringsName w_TELEPHONE_NUMBER_substringsName Z.heap F0 ) (lenOf pd_0 rfl) rfl rfl (by decide) (by decide) rfl rfl (by decide) (by decide) rfl at_9 rfl (fun T5 X5 e5 => ?_)
    show Go p e below _ (T5.setTop (mkF m 12 #[.val (.int i0), .val (.int (1 : Int32)), .unset, .unset] [(.ref w_CASE_EXACT)]))
    refine s_astoreN B X5 (pc' := 13) (Ls' := #[.val (.int i0), .val (.int (1 : Int32)), .val (.ref w_CASE_EXACT), .unset]) at_12 rfl rfl rfl ?_
    refine s_iloadN B X5 (pc' := 14) at_13 rfl rfl ?_
    refine p_static B X5 (y := mn1) (pc' := 17) (argsL := [(.int (1 : Int32))]) (under := []) (W := 0) e5 (tw8 hw) (tw9 hw) (tw10 hw) (tw3 hw) (by decide) (rm2_4 l Z a0 hw  w_CASE_IGNORE w_NUMERIC_STRING w_CASE_IGNORE_IA5 w_OCTET_STRING w_OBJECT_IDENTIFIER_FIRST_COMPONENT w_CASE_IGNORE_LIST w_DISTINGUISHED_NAME w_CASE_EXACT w_INTEGER_FIRST_COMPONENT w_UNIQUE_MEMBER w_OBJECT_IDENTIFIER w_TELEPHONE_NUMBER w_CASE_IGNORE_substringsName w_NUMERIC_STRING_substringsName w_CASE_IGNORE_IA5_substringsName w_CASE_IGNORE_LIST_substringsName w_CASE_EXACT_substringsName w_TELEPHONE_NUMBER_substringsName Z.heap F0 ) (lenOf pd_1 rfl) rfl rfl (by decide) (by decide) rfl rfl (by decide) (by decide) rfl at_14 rfl (fun T6 X6 e6 => ?_)
    show Go p e below _ (T6.setTop (mkF m 17 #[.val (.int i0), .val (.int (1 : Int32)), .val (.ref w_CASE_EXACT), .unset] [(.int (1 : Int32))]))
    refine s_istoreN B X6 (pc' := 18) (Ls' := #[.val (.int i0), .val (.int (1 : Int32)), .val (.ref w_CASE_EXACT), .val (.int (1 : Int32))]) at_17 rfl rfl ?_
    refine s_aloadN B X6 (pc' := 19) at_18 rfl rfl rfl ?_
    refine p_virtual B X6 (y := mn2) (pc' := 22) (argsL := []) (under := []) (W := 0) e6 (tw11 hw) (tw12 hw) (tw14 hw) (tw13 hw) (tw15 hw) (tw6 hw) (by decide) (rm3_5 l Z a0 hw  w_CASE_IGNORE w_NUMERIC_STRING w_CASE_IGNORE_IA5 w_OCTET_STRING w_OBJECT_IDENTIFIER_FIRST_COMPONENT w_CASE_IGNORE_LIST w_DISTINGUISHED_NAME w_CASE_EXACT w_INTEGER_FIRST_COMPONENT w_UNIQUE_MEMBER w_OBJECT_IDENTIFIER w_TELEPHONE_NUMBER w_CASE_IGNORE_substringsName w_NUMERIC_STRING_substringsName w_CASE_IGNORE_IA5_substringsName w_CASE_IGNORE_LIST_substringsName w_CASE_EXACT_substringsName w_TELEPHONE_NUMBER_substringsName Z.heap F0 ) E_CASE_EXACT (lenOf pd_2 rfl) rfl rfl (by decide) (by decide) rfl rfl (by decide) (by decide) rfl at_19 rfl (fun T7 X7 e7 => ?_)
    show Go p e below _ (T7.setTop (mkF m 22 #[.val (.int i0), .val (.int (1 : Int32)), .val (.ref w_CASE_EXACT), .val (.int (1 : Int32))] [(.int (1 : Int32))]))
    refine s_iloadN B X7 (pc' := 23) at_22 rfl rfl ?_
    refine s_icmpN B X7 (pc' := 26) at_23 (by decide) rfl ?_
    refine s_iconst B X7 (pc' := 27) (v := (1 : Int32)) at_26 rfl rfl ?_
    refine s_goto B X7 (pc' := 31) at_27 (by decide) (by decide) ?_
    exact r_nar B X7 (t := .boolean) (by simp) rfl at_31 ⟨rfl, (Fr.nil _)⟩ (by decide) (by decide)
  · refine s_iloadN B X0 (pc' := 1) at_0 rfl rfl ?_
    refine s_ldc B X0 (pc' := 3) (v := (2147483647 : Int32)) (tw0 hw) at_1 rfl ?_
    refine s_iand B X0 (pc' := 4) (v := (i0 &&& (2147483647 : Int32))) at_3 rfl rfl ?_
    refine s_bipush B X0 (pc' := 6) (v := (12 : Int32)) at_4 rfl rfl ?_
    refine s_irem B X0 (pc' := 7) (v := (2 : Int32)) at_6 (hv1) (by decide) rfl ?_
    refine s_istoreN B X0 (pc' := 8) (Ls' := #[.val (.int i0), .val (.int (2 : Int32)), .unset, .unset]) at_7 rfl rfl ?_
    refine s_iloadN B X0 (pc' := 9) at_8 rfl rfl ?_
    refine p_static B X0 (y := mn0) (pc' := 12) (argsL := [(.int (2 : Int32))]) (under := []) (W := 0) e0 (tw1 hw) (tw2 hw) (tw4 hw) (tw3 hw) (by decide) (rm1_6 l Z a0 hw  w_CASE_IGNORE w_NUMERIC_STRING w_CASE_IGNORE_IA5 w_OCTET_STRING w_OBJECT_IDENTIFIER_FIRST_COMPONENT w_CASE_IGNORE_LIST w_DISTINGUISHED_NAME w_CASE_EXACT w_INTEGER_FIRST_COMPONENT w_UNIQUE_MEMBER w_OBJECT_IDENTIFIER w_TELEPHONE_NUMBER w_CASE_IGNORE_substringsName w_NUMERIC_STRING_substringsName w_CASE_IGNORE_IA5_substringsName w_CASE_IGNORE_LIST_substringsName w_CASE_EXACT_substringsName w_TELEPHONE_NUMBER_substringsName Z.heap F0 ) (lenOf pd_0 rfl) rfl rfl (by decide) (by decide) rfl rfl (by decide) (by decide) rfl at_9 rfl (fun T8 X8 e8 => ?_)
    show Go p e below _ (T8.setTop (mkF m 12 #[.val (.int i0), .val (.int (2 : Int32)), .unset, .unset] [(.ref w_CASE_IGNORE_IA5)]))
    refine s_astoreN B X8 (pc' := 13) (Ls' := #[.val (.int i0), .val (.int (2 : Int32)), .val (.ref w_CASE_IGNORE_IA5), .unset]) at_12 rfl rfl rfl ?_
    refine s_iloadN B X8 (pc' := 14) at_13 rfl rfl ?_
    refine p_static B X8 (y := mn1) (pc' := 17) (argsL := [(.int (2 : Int32))]) (under := []) (W := 0) e8 (tw8 hw) (tw9 hw) (tw10 hw) (tw3 hw) (by decide) (rm2_7 l Z a0 hw  w_CASE_IGNORE w_NUMERIC_STRING w_CASE_IGNORE_IA5 w_OCTET_STRING w_OBJECT_IDENTIFIER_FIRST_COMPONENT w_CASE_IGNORE_LIST w_DISTINGUISHED_NAME w_CASE_EXACT w_INTEGER_FIRST_COMPONENT w_UNIQUE_MEMBER w_OBJECT_IDENTIFIER w_TELEPHONE_NUMBER w_CASE_IGNORE_substringsName w_NUMERIC_STRING_substringsName w_CASE_IGNORE_IA5_substringsName w_CASE_IGNORE_LIST_substringsName w_CASE_EXACT_substringsName w_TELEPHONE_NUMBER_substringsName Z.heap F0 ) (lenOf pd_1 rfl) rfl rfl (by decide) (by decide) rfl rfl (by decide) (by decide) rfl at_14 rfl (fun T9 X9 e9 => ?_)
    show Go p e below _ (T9.setTop (mkF m 17 #[.val (.int i0), .val (.int (2 : Int32)), .val (.ref w_CASE_IGNORE_IA5), .unset] [(.int (1 : Int32))]))
    refine s_istoreN B X9 (pc' := 18) (Ls' := #[.val (.int i0), .val (.int (2 : Int32)), .val (.ref w_CASE_IGNORE_IA5), .val (.int (1 : Int32))]) at_17 rfl rfl ?_
    refine s_aloadN B X9 (pc' := 19) at_18 rfl rfl rfl ?_
    refine p_virtual B X9 (y := mn2) (pc' := 22) (argsL := []) (under := []) (W := 0) e9 (tw11 hw) (tw12 hw) (tw14 hw) (tw13 hw) (tw15 hw) (tw6 hw) (by decide) (rm3_8 l Z a0 hw  w_CASE_IGNORE w_NUMERIC_STRING w_CASE_IGNORE_IA5 w_OCTET_STRING w_OBJECT_IDENTIFIER_FIRST_COMPONENT w_CASE_IGNORE_LIST w_DISTINGUISHED_NAME w_CASE_EXACT w_INTEGER_FIRST_COMPONENT w_UNIQUE_MEMBER w_OBJECT_IDENTIFIER w_TELEPHONE_NUMBER w_CASE_IGNORE_substringsName w_NUMERIC_STRING_substringsName w_CASE_IGNORE_IA5_substringsName w_CASE_IGNORE_LIST_substringsName w_CASE_EXACT_substringsName w_TELEPHONE_NUMBER_substringsName Z.heap F0 ) E_CASE_IGNORE_IA5 (lenOf pd_2 rfl) rfl rfl (by decide) (by decide) rfl rfl (by decide) (by decide) rfl at_19 rfl (fun T10 X10 e10 => ?_)
    show Go p e below _ (T10.setTop (mkF m 22 #[.val (.int i0), .val (.int (2 : Int32)), .val (.ref w_CASE_IGNORE_IA5), .val (.int (1 : Int32))] [(.int (1 : Int32))]))
    refine s_iloadN B X10 (pc' := 23) at_22 rfl rfl ?_
    refine s_icmpN B X10 (pc' := 26) at_23 (by decide) rfl ?_
    refine s_iconst B X10 (pc' := 27) (v := (1 : Int32)) at_26 rfl rfl ?_
    refine s_goto B X10 (pc' := 31) at_27 (by decide) (by decide) ?_
    exact r_nar B X10 (t := .boolean) (by simp) rfl at_31 ⟨rfl, (Fr.nil _)⟩ (by decide) (by decide)
  · refine s_iloadN B X0 (pc' := 1) at_0 rfl rfl ?_
    refine s_ldc B X0 (pc' := 3) (v := (2147483647 : Int32)) (tw0 hw) at_1 rfl ?_
    refine s_iand B X0 (pc' := 4) (v := (i0 &&& (2147483647 : Int32))) at_3 rfl rfl ?_
    refine s_bipush B X0 (pc' := 6) (v := (12 : Int32)) at_4 rfl rfl ?_
    refine s_irem B X0 (pc' := 7) (v := (3 : Int32)) at_6 (hv1) (by decide) rfl ?_
    refine s_istoreN B X0 (pc' := 8) (Ls' := #[.val (.int i0), .val (.int (3 : Int32)), .unset, .unset]) at_7 rfl rfl ?_
    refine s_iloadN B X0 (pc' := 9) at_8 rfl rfl ?_
    refine p_static B X0 (y := mn0) (pc' := 12) (argsL := [(.int (3 : Int32))]) (under := []) (W := 0) e0 (tw1 hw) (tw2 hw) (tw4 hw) (tw3 hw) (by decide) (rm1_9 l Z a0 hw  w_CASE_IGNORE w_NUMERIC_STRING w_CASE_IGNORE_IA5 w_OCTET_STRING w_OBJECT_IDENTIFIER_FIRST_COMPONENT w_CASE_IGNORE_LIST w_DISTINGUISHED_NAME w_CASE_EXACT w_INTEGER_FIRST_COMPONENT w_UNIQUE_MEMBER w_OBJECT_IDENTIFIER w_TELEPHONE_NUMBER w_CASE_IGNORE_substringsName w_NUMERIC_STRING_substringsName w_CASE_IGNORE_IA5_substringsName w_CASE_IGNORE_LIST_substringsName w_CASE_EXACT_substringsName w_TELEPHONE_NUMBER_substringsName Z.heap F0 ) (lenOf pd_0 rfl) rfl rfl (by decide) (by decide) rfl rfl (by decide) (by decide) rfl at_9 rfl (fun T11 X11 e11 => ?_)
    show Go p e below _ (T11.setTop (mkF m 12 #[.val (.int i0), .val (.int (3 : Int32)), .unset, .unset] [(.ref w_NUMERIC_STRING)]))
    refine s_astoreN B X11 (pc' := 13) (Ls' := #[.val (.int i0), .val (.int (3 : Int32)), .val (.ref w_NUMERIC_STRING), .unset]) at_12 rfl rfl rfl ?_
    refine s_iloadN B X11 (pc' := 14) at_13 rfl rfl ?_
    refine p_static B X11 (y := mn1) (pc' := 17) (argsL := [(.int (3 : Int32))]) (under := []) (W := 0) e11 (tw8 hw) (tw9 hw) (tw10 hw) (tw3 hw) (by decide) (rm2_10 l Z a0 hw  w_CASE_IGNORE w_NUMERIC_STRING w_CASE_IGNORE_IA5 w_OCTET_STRING w_OBJECT_IDENTIFIER_FIRST_COMPONENT w_CASE_IGNORE_LIST w_DISTINGUISHED_NAME w_CASE_EXACT w_INTEGER_FIRST_COMPONENT w_UNIQUE_MEMBER w_OBJECT_IDENTIFIER w_TELEPHONE_NUMBER w_CASE_IGNORE_substringsName w_NUMERIC_STRING_substringsName w_CASE_IGNORE_IA5_substringsName w_CASE_IGNORE_LIST_substringsName w_CASE_EXACT_substringsName w_TELEPHONE_NUMBER_substringsName Z.heap F0 ) (lenOf pd_1 rfl) rfl rfl (by decide) (by decide) rfl rfl (by decide) (by decide) rfl at_14 rfl (fun T12 X12 e12 => ?_)
    show Go p e below _ (T12.setTop (mkF m 17 #[.val (.int i0), .val (.int (3 : Int32)), .val (.ref w_NUMERIC_STRING), .unset] [(.int (1 : Int32))]))
    refine s_istoreN B X12 (pc' := 18) (Ls' := #[.val (.int i0), .val (.int (3 : Int32)), .val (.ref w_NUMERIC_STRING), .val (.int (1 : Int32))]) at_17 rfl rfl ?_
    refine s_aloadN B X12 (pc' := 19) at_18 rfl rfl rfl ?_
    refine p_virtual B X12 (y := mn2) (pc' := 22) (argsL := []) (under := []) (W := 0) e12 (tw11 hw) (tw12 hw) (tw14 hw) (tw13 hw) (tw15 hw) (tw6 hw) (by decide) (rm3_11 l Z a0 hw  w_CASE_IGNORE w_NUMERIC_STRING w_CASE_IGNORE_IA5 w_OCTET_STRING w_OBJECT_IDENTIFIER_FIRST_COMPONENT w_CASE_IGNORE_LIST w_DISTINGUISHED_NAME w_CASE_EXACT w_INTEGER_FIRST_COMPONENT w_UNIQUE_MEMBER w_OBJECT_IDENTIFIER w_TELEPHONE_NUMBER w_CASE_IGNORE_substringsName w_NUMERIC_STRING_substringsName w_CASE_IGNORE_IA5_substringsName w_CASE_IGNORE_LIST_substringsName w_CASE_EXACT_substringsName w_TELEPHONE_NUMBER_substringsName Z.heap F0 ) E_NUMERIC_STRING (lenOf pd_2 rfl) rfl rfl (by decide) (by decide) rfl rfl (by decide) (by decide) rfl at_19 rfl (fun T13 X13 e13 => ?_)
    show Go p e below _ (T13.setTop (mkF m 22 #[.val (.int i0), .val (.int (3 : Int32)), .val (.ref w_NUMERIC_STRING), .val (.int (1 : Int32))] [(.int (1 : Int32))]))
    refine s_iloadN B X13 (pc' := 23) at_22 rfl rfl ?_
    refine s_icmpN B X13 (pc' := 26) at_23 (by decide) rfl ?_
    refine s_iconst B X13 (pc' := 27) (v := (1 : Int32)) at_26 rfl rfl ?_
    refine s_goto B X13 (pc' := 31) at_27 (by decide) (by decide) ?_
    exact r_nar B X13 (t := .boolean) (by simp) rfl at_31 ⟨rfl, (Fr.nil _)⟩ (by decide) (by decide)
  · refine s_iloadN B X0 (pc' := 1) at_0 rfl rfl ?_
    refine s_ldc B X0 (pc' := 3) (v := (2147483647 : Int32)) (tw0 hw) at_1 rfl ?_
    refine s_iand B X0 (pc' := 4) (v := (i0 &&& (2147483647 : Int32))) at_3 rfl rfl ?_
    refine s_bipush B X0 (pc' := 6) (v := (12 : Int32)) at_4 rfl rfl ?_
    refine s_irem B X0 (pc' := 7) (v := (4 : Int32)) at_6 (hv1) (by decide) rfl ?_
    refine s_istoreN B X0 (pc' := 8) (Ls' := #[.val (.int i0), .val (.int (4 : Int32)), .unset, .unset]) at_7 rfl rfl ?_
    refine s_iloadN B X0 (pc' := 9) at_8 rfl rfl ?_
    refine p_static B X0 (y := mn0) (pc' := 12) (argsL := [(.int (4 : Int32))]) (under := []) (W := 0) e0 (tw1 hw) (tw2 hw) (tw4 hw) (tw3 hw) (by decide) (rm1_12 l Z a0 hw  w_CASE_IGNORE w_NUMERIC_STRING w_CASE_IGNORE_IA5 w_OCTET_STRING w_OBJECT_IDENTIFIER_FIRST_COMPONENT w_CASE_IGNORE_LIST w_DISTINGUISHED_NAME w_CASE_EXACT w_INTEGER_FIRST_COMPONENT w_UNIQUE_MEMBER w_OBJECT_IDENTIFIER w_TELEPHONE_NUMBER w_CASE_IGNORE_substringsName w_NUMERIC_STRING_substringsName w_CASE_IGNORE_IA5_substringsName w_CASE_IGNORE_LIST_substringsName w_CASE_EXACT_substringsName w_TELEPHONE_NUMBER_substringsName Z.heap F0 ) (lenOf pd_0 rfl) rfl rfl (by decide) (by decide) rfl rfl (by decide) (by decide) rfl at_9 rfl (fun T14 X14 e14 => ?_)
    show Go p e below _ (T14.setTop (mkF m 12 #[.val (.int i0), .val (.int (4 : Int32)), .unset, .unset] [(.ref w_CASE_IGNORE_LIST)]))
    refine s_astoreN B X14 (pc' := 13) (Ls' := #[.val (.int i0), .val (.int (4 : Int32)), .val (.ref w_CASE_IGNORE_LIST), .unset]) at_12 rfl rfl rfl ?_
    refine s_iloadN B X14 (pc' := 14) at_13 rfl rfl ?_
    refine p_static B X14 (y := mn1) (pc' := 17) (argsL := [(.int (4 : Int32))]) (under := []) (W := 0) e14 (tw8 hw) (tw9 hw) (tw10 hw) (tw3 hw) (by decide) (rm2_13 l Z a0 hw  w_CASE_IGNORE w_NUMERIC_STRING w_CASE_IGNORE_IA5 w_OCTET_STRING w_OBJECT_IDENTIFIER_FIRST_COMPONENT w_CASE_IGNORE_LIST w_DISTINGUISHED_NAME w_CASE_EXACT w_INTEGER_FIRST_COMPONENT w_UNIQUE_MEMBER w_OBJECT_IDENTIFIER w_TELEPHONE_NUMBER w_CASE_IGNORE_substringsName w_NUMERIC_STRING_substringsName w_CASE_IGNORE_IA5_substringsName w_CASE_IGNORE_LIST_substringsName w_CASE_EXACT_substringsName w_TELEPHONE_NUMBER_substringsName Z.heap F0 ) (lenOf pd_1 rfl) rfl rfl (by decide) (by decide) rfl rfl (by decide) (by decide) rfl at_14 rfl (fun T15 X15 e15 => ?_)
    show Go p e below _ (T15.setTop (mkF m 17 #[.val (.int i0), .val (.int (4 : Int32)), .val (.ref w_CASE_IGNORE_LIST), .unset] [(.int (1 : Int32))]))
    refine s_istoreN B X15 (pc' := 18) (Ls' := #[.val (.int i0), .val (.int (4 : Int32)), .val (.ref w_CASE_IGNORE_LIST), .val (.int (1 : Int32))]) at_17 rfl rfl ?_
    refine s_aloadN B X15 (pc' := 19) at_18 rfl rfl rfl ?_
    refine p_virtual B X15 (y := mn2) (pc' := 22) (argsL := []) (under := []) (W := 0) e15 (tw11 hw) (tw12 hw) (tw14 hw) (tw13 hw) (tw15 hw) (tw6 hw) (by decide) (rm3_14 l Z a0 hw  w_CASE_IGNORE w_NUMERIC_STRING w_CASE_IGNORE_IA5 w_OCTET_STRING w_OBJECT_IDENTIFIER_FIRST_COMPONENT w_CASE_IGNORE_LIST w_DISTINGUISHED_NAME w_CASE_EXACT w_INTEGER_FIRST_COMPONENT w_UNIQUE_MEMBER w_OBJECT_IDENTIFIER w_TELEPHONE_NUMBER w_CASE_IGNORE_substringsName w_NUMERIC_STRING_substringsName w_CASE_IGNORE_IA5_substringsName w_CASE_IGNORE_LIST_substringsName w_CASE_EXACT_substringsName w_TELEPHONE_NUMBER_substringsName Z.heap F0 ) E_CASE_IGNORE_LIST (lenOf pd_2 rfl) rfl rfl (by decide) (by decide) rfl rfl (by decide) (by decide) rfl at_19 rfl (fun T16 X16 e16 => ?_)
    show Go p e below _ (T16.setTop (mkF m 22 #[.val (.int i0), .val (.int (4 : Int32)), .val (.ref w_CASE_IGNORE_LIST), .val (.int (1 : Int32))] [(.int (1 : Int32))]))
    refine s_iloadN B X16 (pc' := 23) at_22 rfl rfl ?_
    refine s_icmpN B X16 (pc' := 26) at_23 (by decide) rfl ?_
    refine s_iconst B X16 (pc' := 27) (v := (1 : Int32)) at_26 rfl rfl ?_
    refine s_goto B X16 (pc' := 31) at_27 (by decide) (by decide) ?_
    exact r_nar B X16 (t := .boolean) (by simp) rfl at_31 ⟨rfl, (Fr.nil _)⟩ (by decide) (by decide)
  · refine s_iloadN B X0 (pc' := 1) at_0 rfl rfl ?_
    refine s_ldc B X0 (pc' := 3) (v := (2147483647 : Int32)) (tw0 hw) at_1 rfl ?_
    refine s_iand B X0 (pc' := 4) (v := (i0 &&& (2147483647 : Int32))) at_3 rfl rfl ?_
    refine s_bipush B X0 (pc' := 6) (v := (12 : Int32)) at_4 rfl rfl ?_
    refine s_irem B X0 (pc' := 7) (v := (5 : Int32)) at_6 (hv1) (by decide) rfl ?_
    refine s_istoreN B X0 (pc' := 8) (Ls' := #[.val (.int i0), .val (.int (5 : Int32)), .unset, .unset]) at_7 rfl rfl ?_
    refine s_iloadN B X0 (pc' := 9) at_8 rfl rfl ?_
    refine p_static B X0 (y := mn0) (pc' := 12) (argsL := [(.int (5 : Int32))]) (under := []) (W := 0) e0 (tw1 hw) (tw2 hw) (tw4 hw) (tw3 hw) (by decide) (rm1_15 l Z a0 hw  w_CASE_IGNORE w_NUMERIC_STRING w_CASE_IGNORE_IA5 w_OCTET_STRING w_OBJECT_IDENTIFIER_FIRST_COMPONENT w_CASE_IGNORE_LIST w_DISTINGUISHED_NAME w_CASE_EXACT w_INTEGER_FIRST_COMPONENT w_UNIQUE_MEMBER w_OBJECT_IDENTIFIER w_TELEPHONE_NUMBER w_CASE_IGNORE_substringsName w_NUMERIC_STRING_substringsName w_CASE_IGNORE_IA5_substringsName w_CASE_IGNORE_LIST_substringsName w_CASE_EXACT_substringsName w_TELEPHONE_NUMBER_substringsName Z.heap F0 ) (lenOf pd_0 rfl) rfl rfl (by decide) (by decide) rfl rfl (by decide) (by decide) rfl at_9 rfl (fun T17 X17 e17 => ?_)
    show Go p e below _ (T17.setTop (mkF m 12 #[.val (.int i0), .val (.int (5 : Int32)), .unset, .unset] [(.ref w_TELEPHONE_NUMBER)]))
    refine s_astoreN B X17 (pc' := 13) (Ls' := #[.val (.int i0), .val (.int (5 : Int32)), .val (.ref w_TELEPHONE_NUMBER), .unset]) at_12 rfl rfl rfl ?_
    refine s_iloadN B X17 (pc' := 14) at_13 rfl rfl ?_
    refine p_static B X17 (y := mn1) (pc' := 17) (argsL := [(.int (5 : Int32))]) (under := []) (W := 0) e17 (tw8 hw) (tw9 hw) (tw10 hw) (tw3 hw) (by decide) (rm2_16 l Z a0 hw  w_CASE_IGNORE w_NUMERIC_STRING w_CASE_IGNORE_IA5 w_OCTET_STRING w_OBJECT_IDENTIFIER_FIRST_COMPONENT w_CASE_IGNORE_LIST w_DISTINGUISHED_NAME w_CASE_EXACT w_INTEGER_FIRST_COMPONENT w_UNIQUE_MEMBER w_OBJECT_IDENTIFIER w_TELEPHONE_NUMBER w_CASE_IGNORE_substringsName w_NUMERIC_STRING_substringsName w_CASE_IGNORE_IA5_substringsName w_CASE_IGNORE_LIST_substringsName w_CASE_EXACT_substringsName w_TELEPHONE_NUMBER_substringsName Z.heap F0 ) (lenOf pd_1 rfl) rfl rfl (by decide) (by decide) rfl rfl (by decide) (by decide) rfl at_14 rfl (fun T18 X18 e18 => ?_)
    show Go p e below _ (T18.setTop (mkF m 17 #[.val (.int i0), .val (.int (5 : Int32)), .val (.ref w_TELEPHONE_NUMBER), .unset] [(.int (1 : Int32))]))
    refine s_istoreN B X18 (pc' := 18) (Ls' := #[.val (.int i0), .val (.int (5 : Int32)), .val (.ref w_TELEPHONE_NUMBER), .val (.int (1 : Int32))]) at_17 rfl rfl ?_
    refine s_aloadN B X18 (pc' := 19) at_18 rfl rfl rfl ?_
    refine p_virtual B X18 (y := mn2) (pc' := 22) (argsL := []) (under := []) (W := 0) e18 (tw11 hw) (tw12 hw) (tw14 hw) (tw13 hw) (tw15 hw) (tw6 hw) (by decide) (rm3_17 l Z a0 hw  w_CASE_IGNORE w_NUMERIC_STRING w_CASE_IGNORE_IA5 w_OCTET_STRING w_OBJECT_IDENTIFIER_FIRST_COMPONENT w_CASE_IGNORE_LIST w_DISTINGUISHED_NAME w_CASE_EXACT w_INTEGER_FIRST_COMPONENT w_UNIQUE_MEMBER w_OBJECT_IDENTIFIER w_TELEPHONE_NUMBER w_CASE_IGNORE_substringsName w_NUMERIC_STRING_substringsName w_CASE_IGNORE_IA5_substringsName w_CASE_IGNORE_LIST_substringsName w_CASE_EXACT_substringsName w_TELEPHONE_NUMBER_substringsName Z.heap F0 ) E_TELEPHONE_NUMBER (lenOf pd_2 rfl) rfl rfl (by decide) (by decide) rfl rfl (by decide) (by decide) rfl at_19 rfl (fun T19 X19 e19 => ?_)
    show Go p e below _ (T19.setTop (mkF m 22 #[.val (.int i0), .val (.int (5 : Int32)), .val (.ref w_TELEPHONE_NUMBER), .val (.int (1 : Int32))] [(.int (1 : Int32))]))
    refine s_iloadN B X19 (pc' := 23) at_22 rfl rfl ?_
    refine s_icmpN B X19 (pc' := 26) at_23 (by decide) rfl ?_
    refine s_iconst B X19 (pc' := 27) (v := (1 : Int32)) at_26 rfl rfl ?_
    refine s_goto B X19 (pc' := 31) at_27 (by decide) (by decide) ?_
    exact r_nar B X19 (t := .boolean) (by simp) rfl at_31 ⟨rfl, (Fr.nil _)⟩ (by decide) (by decide)
  · refine s_iloadN B X0 (pc' := 1) at_0 rfl rfl ?_
    refine s_ldc B X0 (pc' := 3) (v := (2147483647 : Int32)) (tw0 hw) at_1 rfl ?_
    refine s_iand B X0 (pc' := 4) (v := (i0 &&& (2147483647 : Int32))) at_3 rfl rfl ?_
    refine s_bipush B X0 (pc' := 6) (v := (12 : Int32)) at_4 rfl rfl ?_
    refine s_irem B X0 (pc' := 7) (v := (6 : Int32)) at_6 (hv1) (by decide) rfl ?_
    refine s_istoreN B X0 (pc' := 8) (Ls' := #[.val (.int i0), .val (.int (6 : Int32)), .unset, .unset]) at_7 rfl rfl ?_
    refine s_iloadN B X0 (pc' := 9) at_8 rfl rfl ?_
    refine p_static B X0 (y := mn0) (pc' := 12) (argsL := [(.int (6 : Int32))]) (under := []) (W := 0) e0 (tw1 hw) (tw2 hw) (tw4 hw) (tw3 hw) (by decide) (rm1_18 l Z a0 hw  w_CASE_IGNORE w_NUMERIC_STRING w_CASE_IGNORE_IA5 w_OCTET_STRING w_OBJECT_IDENTIFIER_FIRST_COMPONENT w_CASE_IGNORE_LIST w_DISTINGUISHED_NAME w_CASE_EXACT w_INTEGER_FIRST_COMPONENT w_UNIQUE_MEMBER w_OBJECT_IDENTIFIER w_TELEPHONE_NUMBER w_CASE_IGNORE_substringsName w_NUMERIC_STRING_substringsName w_CASE_IGNORE_IA5_substringsName w_CASE_IGNORE_LIST_substringsName w_CASE_EXACT_substringsName w_TELEPHONE_NUMBER_substringsName Z.heap F0 ) (lenOf pd_0 rfl) rfl rfl (by decide) (by decide) rfl rfl (by decide) (by decide) rfl at_9 rfl (fun T20 X20 e20 => ?_)
    show Go p e below _ (T20.setTop (mkF m 12 #[.val (.int i0), .val (.int (6 : Int32)), .unset, .unset] [(.ref w_OBJECT_IDENTIFIER)]))
    refine s_astoreN B X20 (pc' := 13) (Ls' := #[.val (.int i0), .val (.int (6 : Int32)), .val (.ref w_OBJECT_IDENTIFIER), .unset]) at_12 rfl rfl rfl ?_
    refine s_iloadN B X20 (pc' := 14) at_13 rfl rfl ?_
    refine p_static B X20 (y := mn1) (pc' := 17) (argsL := [(.int (6 : Int32))]) (under := []) (W := 0) e20 (tw8 hw) (tw9 hw) (tw10 hw) (tw3 hw) (by decide) (rm2_19 l Z a0 hw  w_CASE_IGNORE w_NUMERIC_STRING w_CASE_IGNORE_IA5 w_OCTET_STRING w_OBJECT_IDENTIFIER_FIRST_COMPONENT w_CASE_IGNORE_LIST w_DISTINGUISHED_NAME w_CASE_EXACT w_INTEGER_FIRST_COMPONENT w_UNIQUE_MEMBER w_OBJECT_IDENTIFIER w_TELEPHONE_NUMBER w_CASE_IGNORE_substringsName w_NUMERIC_STRING_substringsName w_CASE_IGNORE_IA5_substringsName w_CASE_IGNORE_LIST_substringsName w_CASE_EXACT_substringsName w_TELEPHONE_NUMBER_substringsName Z.heap F0 ) (lenOf pd_1 rfl) rfl rfl (by decide) (by decide) rfl rfl (by decide) (by decide) rfl at_14 rfl (fun T21 X21 e21 => ?_)
    show Go p e below _ (T21.setTop (mkF m 17 #[.val (.int i0), .val (.int (6 : Int32)), .val (.ref w_OBJECT_IDENTIFIER), .unset] [(.int (0 : Int32))]))
    refine s_istoreN B X21 (pc' := 18) (Ls' := #[.val (.int i0), .val (.int (6 : Int32)), .val (.ref w_OBJECT_IDENTIFIER), .val (.int (0 : Int32))]) at_17 rfl rfl ?_
    refine s_aloadN B X21 (pc' := 19) at_18 rfl rfl rfl ?_
    refine p_virtual B X21 (y := mn2) (pc' := 22) (argsL := []) (under := []) (W := 0) e21 (tw11 hw) (tw12 hw) (tw14 hw) (tw13 hw) (tw15 hw) (tw6 hw) (by decide) (rm3_20 l Z a0 hw  w_CASE_IGNORE w_NUMERIC_STRING w_CASE_IGNORE_IA5 w_OCTET_STRING w_OBJECT_IDENTIFIER_FIRST_COMPONENT w_CASE_IGNORE_LIST w_DISTINGUISHED_NAME w_CASE_EXACT w_INTEGER_FIRST_COMPONENT w_UNIQUE_MEMBER w_OBJECT_IDENTIFIER w_TELEPHONE_NUMBER w_CASE_IGNORE_substringsName w_NUMERIC_STRING_substringsName w_CASE_IGNORE_IA5_substringsName w_CASE_IGNORE_LIST_substringsName w_CASE_EXACT_substringsName w_TELEPHONE_NUMBER_substringsName Z.heap F0 ) E_OBJECT_IDENTIFIER (lenOf pd_2 rfl) rfl rfl (by decide) (by decide) rfl rfl (by decide) (by decide) rfl at_19 rfl (fun T22 X22 e22 => ?_)
    show Go p e below _ (T22.setTop (mkF m 22 #[.val (.int i0), .val (.int (6 : Int32)), .val (.ref w_OBJECT_IDENTIFIER), .val (.int (0 : Int32))] [(.int (0 : Int32))]))
    refine s_iloadN B X22 (pc' := 23) at_22 rfl rfl ?_
    refine s_icmpN B X22 (pc' := 26) at_23 (by decide) rfl ?_
    refine s_iconst B X22 (pc' := 27) (v := (1 : Int32)) at_26 rfl rfl ?_
    refine s_goto B X22 (pc' := 31) at_27 (by decide) (by decide) ?_
    exact r_nar B X22 (t := .boolean) (by simp) rfl at_31 ⟨rfl, (Fr.nil _)⟩ (by decide) (by decide)
  · refine s_iloadN B X0 (pc' := 1) at_0 rfl rfl ?_
    refine s_ldc B X0 (pc' := 3) (v := (2147483647 : Int32)) (tw0 hw) at_1 rfl ?_
    refine s_iand B X0 (pc' := 4) (v := (i0 &&& (2147483647 : Int32))) at_3 rfl rfl ?_
    refine s_bipush B X0 (pc' := 6) (v := (12 : Int32)) at_4 rfl rfl ?_
    refine s_irem B X0 (pc' := 7) (v := (7 : Int32)) at_6 (hv1) (by decide) rfl ?_
    refine s_istoreN B X0 (pc' := 8) (Ls' := #[.val (.int i0), .val (.int (7 : Int32)), .unset, .unset]) at_7 rfl rfl ?_
    refine s_iloadN B X0 (pc' := 9) at_8 rfl rfl ?_
    refine p_static B X0 (y := mn0) (pc' := 12) (argsL := [(.int (7 : Int32))]) (under := []) (W := 0) e0 (tw1 hw) (tw2 hw) (tw4 hw) (tw3 hw) (by decide) (rm1_21 l Z a0 hw  w_CASE_IGNORE w_NUMERIC_STRING w_CASE_IGNORE_IA5 w_OCTET_STRING w_OBJECT_IDENTIFIER_FIRST_COMPONENT w_CASE_IGNORE_LIST w_DISTINGUISHED_NAME w_CASE_EXACT w_INTEGER_FIRST_COMPONENT w_UNIQUE_MEMBER w_OBJECT_IDENTIFIER w_TELEPHONE_NUMBER w_CASE_IGNORE_substringsName w_NUMERIC_STRING_substringsName w_CASE_IGNORE_IA5_substringsName w_CASE_IGNORE_LIST_substringsName w_CASE_EXACT_substringsName w_TELEPHONE_NUMBER_substringsName Z.heap F0 ) (lenOf pd_0 rfl) rfl rfl (by decide) (by decide) rfl rfl (by decide) (by decide) rfl at_9 rfl (fun T23 X23 e23 => ?_)
    show Go p e below _ (T23.setTop (mkF m 12 #[.val (.int i0), .val (.int (7 : Int32)), .unset, .unset] [(.ref w_OCTET_STRING)]))
    refine s_astoreN B X23 (pc' := 13) (Ls' := #[.val (.int i0), .val (.int (7 : Int32)), .val (.ref w_OCTET_STRING), .unset]) at_12 rfl rfl rfl ?_
    refine s_iloadN B X23 (pc' := 14) at_13 rfl rfl ?_
    refine p_static B X23 (y := mn1) (pc' := 17) (argsL := [(.int (7 : Int32))]) (under := []) (W := 0) e23 (tw8 hw) (tw9 hw) (tw10 hw) (tw3 hw) (by decide) (rm2_22 l Z a0 hw  w_CASE_IGNORE w_NUMERIC_STRING w_CASE_IGNORE_IA5 w_OCTET_STRING w_OBJECT_IDENTIFIER_FIRST_COMPONENT w_CASE_IGNORE_LIST w_DISTINGUISHED_NAME w_CASE_EXACT w_INTEGER_FIRST_COMPONENT w_UNIQUE_MEMBER w_OBJECT_IDENTIFIER w_TELEPHONE_NUMBER w_CASE_IGNORE_substringsName w_NUMERIC_STRING_substringsName w_CASE_IGNORE_IA5_substringsName w_CASE_IGNORE_LIST_substringsName w_CASE_EXACT_substringsName w_TELEPHONE_NUMBER_substringsName Z.heap F0 ) (lenOf pd_1 rfl) rfl rfl (by decide) (by decide) rfl rfl (by decide) (by decide) rfl at_14 rfl (fun T24 X24 e24 => ?_)
    show Go p e below _ (T24.setTop (mkF m 17 #[.val (.int i0), .val (.int (7 : Int32)), .val (.ref w_OCTET_STRING), .unset] [(.int (0 : Int32))]))
    refine s_istoreN B X24 (pc' := 18) (Ls' := #[.val (.int i0), .val (.int (7 : Int32)), .val (.ref w_OCTET_STRING), .val (.int (0 : Int32))]) at_17 rfl rfl ?_
    refine s_aloadN B X24 (pc' := 19) at_18 rfl rfl rfl ?_
    refine p_virtual B X24 (y := mn2) (pc' := 22) (argsL := []) (under := []) (W := 0) e24 (tw11 hw) (tw12 hw) (tw14 hw) (tw13 hw) (tw15 hw) (tw6 hw) (by decide) (rm3_23 l Z a0 hw  w_CASE_IGNORE w_NUMERIC_STRING w_CASE_IGNORE_IA5 w_OCTET_STRING w_OBJECT_IDENTIFIER_FIRST_COMPONENT w_CASE_IGNORE_LIST w_DISTINGUISHED_NAME w_CASE_EXACT w_INTEGER_FIRST_COMPONENT w_UNIQUE_MEMBER w_OBJECT_IDENTIFIER w_TELEPHONE_NUMBER w_CASE_IGNORE_substringsName w_NUMERIC_STRING_substringsName w_CASE_IGNORE_IA5_substringsName w_CASE_IGNORE_LIST_substringsName w_CASE_EXACT_substringsName w_TELEPHONE_NUMBER_substringsName Z.heap F0 ) E_OCTET_STRING (lenOf pd_2 rfl) rfl rfl (by decide) (by decide) rfl rfl (by decide) (by decide) rfl at_19 rfl (fun T25 X25 e25 => ?_)
    show Go p e below _ (T25.setTop (mkF m 22 #[.val (.int i0), .val (.int (7 : Int32)), .val (.ref w_OCTET_STRING), .val (.int (0 : Int32))] [(.int (0 : Int32))]))
    refine s_iloadN B X25 (pc' := 23) at_22 rfl rfl ?_
    refine s_icmpN B X25 (pc' := 26) at_23 (by decide) rfl ?_
    refine s_iconst B X25 (pc' := 27) (v := (1 : Int32)) at_26 rfl rfl ?_
    refine s_goto B X25 (pc' := 31) at_27 (by decide) (by decide) ?_
    exact r_nar B X25 (t := .boolean) (by simp) rfl at_31 ⟨rfl, (Fr.nil _)⟩ (by decide) (by decide)
  · refine s_iloadN B X0 (pc' := 1) at_0 rfl rfl ?_
    refine s_ldc B X0 (pc' := 3) (v := (2147483647 : Int32)) (tw0 hw) at_1 rfl ?_
    refine s_iand B X0 (pc' := 4) (v := (i0 &&& (2147483647 : Int32))) at_3 rfl rfl ?_
    refine s_bipush B X0 (pc' := 6) (v := (12 : Int32)) at_4 rfl rfl ?_
    refine s_irem B X0 (pc' := 7) (v := (8 : Int32)) at_6 (hv1) (by decide) rfl ?_
    refine s_istoreN B X0 (pc' := 8) (Ls' := #[.val (.int i0), .val (.int (8 : Int32)), .unset, .unset]) at_7 rfl rfl ?_
    refine s_iloadN B X0 (pc' := 9) at_8 rfl rfl ?_
    refine p_static B X0 (y := mn0) (pc' := 12) (argsL := [(.int (8 : Int32))]) (under := []) (W := 0) e0 (tw1 hw) (tw2 hw) (tw4 hw) (tw3 hw) (by decide) (rm1_24 l Z a0 hw  w_CASE_IGNORE w_NUMERIC_STRING w_CASE_IGNORE_IA5 w_OCTET_STRING w_OBJECT_IDENTIFIER_FIRST_COMPONENT w_CASE_IGNORE_LIST w_DISTINGUISHED_NAME w_CASE_EXACT w_INTEGER_FIRST_COMPONENT w_UNIQUE_MEMBER w_OBJECT_IDENTIFIER w_TELEPHONE_NUMBER w_CASE_IGNORE_substringsName w_NUMERIC_STRING_substringsName w_CASE_IGNORE_IA5_substringsName w_CASE_IGNORE_LIST_substringsName w_CASE_EXACT_substringsName w_TELEPHONE_NUMBER_substringsName Z.heap F0 ) (lenOf pd_0 rfl) rfl rfl (by decide) (by decide) rfl rfl (by decide) (by decide) rfl at_9 rfl (fun T26 X26 e26 => ?_)
    show Go p e below _ (T26.setTop (mkF m 12 #[.val (.int i0), .val (.int (8 : Int32)), .unset, .unset] [(.ref w_DISTINGUISHED_NAME)]))
    refine s_astoreN B X26 (pc' := 13) (Ls' := #[.val (.int i0), .val (.int (8 : Int32)), .val (.ref w_DISTINGUISHED_NAME), .unset]) at_12 rfl rfl rfl ?_
    refine s_iloadN B X26 (pc' := 14) at_13 rfl rfl ?_
    refine p_static B X26 (y := mn1) (pc' := 17) (argsL := [(.int (8 : Int32))]) (under := []) (W := 0) e26 (tw8 hw) (tw9 hw) (tw10 hw) (tw3 hw) (by decide) (rm2_25 l Z a0 hw  w_CASE_IGNORE w_NUMERIC_STRING w_CASE_IGNORE_IA5 w_OCTET_STRING w_OBJECT_IDENTIFIER_FIRST_COMPONENT w_CASE_IGNORE_LIST w_DISTINGUISHED_NAME w_CASE_EXACT w_INTEGER_FIRST_COMPONENT w_UNIQUE_MEMBER w_OBJECT_IDENTIFIER w_TELEPHONE_NUMBER w_CASE_IGNORE_substringsName w_NUMERIC_STRING_substringsName w_CASE_IGNORE_IA5_substringsName w_CASE_IGNORE_LIST_substringsName w_CASE_EXACT_substringsName w_TELEPHONE_NUMBER_substringsName Z.heap F0 ) (lenOf pd_1 rfl) rfl rfl (by decide) (by decide) rfl rfl (by decide) (by decide) rfl at_14 rfl (fun T27 X27 e27 => ?_)
    show Go p e below _ (T27.setTop (mkF m 17 #[.val (.int i0), .val (.int (8 : Int32)), .val (.ref w_DISTINGUISHED_NAME), .unset] [(.int (0 : Int32))]))
    refine s_istoreN B X27 (pc' := 18) (Ls' := #[.val (.int i0), .val (.int (8 : Int32)), .val (.ref w_DISTINGUISHED_NAME), .val (.int (0 : Int32))]) at_17 rfl rfl ?_
    refine s_aloadN B X27 (pc' := 19) at_18 rfl rfl rfl ?_
    refine p_virtual B X27 (y := mn2) (pc' := 22) (argsL := []) (under := []) (W := 0) e27 (tw11 hw) (tw12 hw) (tw14 hw) (tw13 hw) (tw15 hw) (tw6 hw) (by decide) (rm3_26 l Z a0 hw  w_CASE_IGNORE w_NUMERIC_STRING w_CASE_IGNORE_IA5 w_OCTET_STRING w_OBJECT_IDENTIFIER_FIRST_COMPONENT w_CASE_IGNORE_LIST w_DISTINGUISHED_NAME w_CASE_EXACT w_INTEGER_FIRST_COMPONENT w_UNIQUE_MEMBER w_OBJECT_IDENTIFIER w_TELEPHONE_NUMBER w_CASE_IGNORE_substringsName w_NUMERIC_STRING_substringsName w_CASE_IGNORE_IA5_substringsName w_CASE_IGNORE_LIST_substringsName w_CASE_EXACT_substringsName w_TELEPHONE_NUMBER_substringsName Z.heap F0 ) E_DISTINGUISHED_NAME (lenOf pd_2 rfl) rfl rfl (by decide) (by decide) rfl rfl (by decide) (by decide) rfl at_19 rfl (fun T28 X28 e28 => ?_)
    show Go p e below _ (T28.setTop (mkF m 22 #[.val (.int i0), .val (.int (8 : Int32)), .val (.ref w_DISTINGUISHED_NAME), .val (.int (0 : Int32))] [(.int (0 : Int32))]))
    refine s_iloadN B X28 (pc' := 23) at_22 rfl rfl ?_
    refine s_icmpN B X28 (pc' := 26) at_23 (by decide) rfl ?_
    refine s_iconst B X28 (pc' := 27) (v := (1 : Int32)) at_26 rfl rfl ?_
    refine s_goto B X28 (pc' := 31) at_27 (by decide) (by decide) ?_
    exact r_nar B X28 (t := .boolean) (by simp) rfl at_31 ⟨rfl, (Fr.nil _)⟩ (by decide) (by decide)
  · refine s_iloadN B X0 (pc' := 1) at_0 rfl rfl ?_
    refine s_ldc B X0 (pc' := 3) (v := (2147483647 : Int32)) (tw0 hw) at_1 rfl ?_
    refine s_iand B X0 (pc' := 4) (v := (i0 &&& (2147483647 : Int32))) at_3 rfl rfl ?_
    refine s_bipush B X0 (pc' := 6) (v := (12 : Int32)) at_4 rfl rfl ?_
    refine s_irem B X0 (pc' := 7) (v := (9 : Int32)) at_6 (hv1) (by decide) rfl ?_
    refine s_istoreN B X0 (pc' := 8) (Ls' := #[.val (.int i0), .val (.int (9 : Int32)), .unset, .unset]) at_7 rfl rfl ?_
    refine s_iloadN B X0 (pc' := 9) at_8 rfl rfl ?_
    refine p_static B X0 (y := mn0) (pc' := 12) (argsL := [(.int (9 : Int32))]) (under := []) (W := 0) e0 (tw1 hw) (tw2 hw) (tw4 hw) (tw3 hw) (by decide) (rm1_27 l Z a0 hw  w_CASE_IGNORE w_NUMERIC_STRING w_CASE_IGNORE_IA5 w_OCTET_STRING w_OBJECT_IDENTIFIER_FIRST_COMPONENT w_CASE_IGNORE_LIST w_DISTINGUISHED_NAME w_CASE_EXACT w_INTEGER_FIRST_COMPONENT w_UNIQUE_MEMBER w_OBJECT_IDENTIFIER w_TELEPHONE_NUMBER w_CASE_IGNORE_substringsName w_NUMERIC_STRING_substringsName w_CASE_IGNORE_IA5_substringsName w_CASE_IGNORE_LIST_substringsName w_CASE_EXACT_substringsName w_TELEPHONE_NUMBER_substringsName Z.heap F0 ) (lenOf pd_0 rfl) rfl rfl (by decide) (by decide) rfl rfl (by decide) (by decide) rfl at_9 rfl (fun T29 X29 e29 => ?_)
    show Go p e below _ (T29.setTop (mkF m 12 #[.val (.int i0), .val (.int (9 : Int32)), .unset, .unset] [(.ref w_UNIQUE_MEMBER)]))
    refine s_astoreN B X29 (pc' := 13) (Ls' := #[.val (.int i0), .val (.int (9 : Int32)), .val (.ref w_UNIQUE_MEMBER), .unset]) at_12 rfl rfl rfl ?_
    refine s_iloadN B X29 (pc' := 14) at_13 rfl rfl ?_
    refine p_static B X29 (y := mn1) (pc' := 17) (argsL := [(.int (9 : Int32))]) (under := []) (W := 0) e29 (tw8 hw) (tw9 hw) (tw10 hw) (tw3 hw) (by decide) (rm2_28 l Z a0 hw  w_CASE_IGNORE w_NUMERIC_STRING w_CASE_IGNORE_IA5 w_OCTET_STRING w_OBJECT_IDENTIFIER_FIRST_COMPONENT w_CASE_IGNORE_LIST w_DISTINGUISHED_NAME w_CASE_EXACT w_INTEGER_FIRST_COMPONENT w_UNIQUE_MEMBER w_OBJECT_IDENTIFIER w_TELEPHONE_NUMBER w_CASE_IGNORE_substringsName w_NUMERIC_STRING_substringsName w_CASE_IGNORE_IA5_substringsName w_CASE_IGNORE_LIST_substringsName w_CASE_EXACT_substringsName w_TELEPHONE_NUMBER_substringsName Z.heap F0 ) (lenOf pd_1 rfl) rfl rfl (by decide) (by decide) rfl rfl (by decide) (by decide) rfl at_14 rfl (fun T30 X30 e30 => ?_)
    show Go p e below _ (T30.setTop (mkF m 17 #[.val (.int i0), .val (.int (9 : Int32)), .val (.ref w_UNIQUE_MEMBER), .unset] [(.int (0 : Int32))]))
    refine s_istoreN B X30 (pc' := 18) (Ls' := #[.val (.int i0), .val (.int (9 : Int32)), .val (.ref w_UNIQUE_MEMBER), .val (.int (0 : Int32))]) at_17 rfl rfl ?_
    refine s_aloadN B X30 (pc' := 19) at_18 rfl rfl rfl ?_
    refine p_virtual B X30 (y := mn2) (pc' := 22) (argsL := []) (under := []) (W := 0) e30 (tw11 hw) (tw12 hw) (tw14 hw) (tw13 hw) (tw15 hw) (tw6 hw) (by decide) (rm3_29 l Z a0 hw  w_CASE_IGNORE w_NUMERIC_STRING w_CASE_IGNORE_IA5 w_OCTET_STRING w_OBJECT_IDENTIFIER_FIRST_COMPONENT w_CASE_IGNORE_LIST w_DISTINGUISHED_NAME w_CASE_EXACT w_INTEGER_FIRST_COMPONENT w_UNIQUE_MEMBER w_OBJECT_IDENTIFIER w_TELEPHONE_NUMBER w_CASE_IGNORE_substringsName w_NUMERIC_STRING_substringsName w_CASE_IGNORE_IA5_substringsName w_CASE_IGNORE_LIST_substringsName w_CASE_EXACT_substringsName w_TELEPHONE_NUMBER_substringsName Z.heap F0 ) E_UNIQUE_MEMBER (lenOf pd_2 rfl) rfl rfl (by decide) (by decide) rfl rfl (by decide) (by decide) rfl at_19 rfl (fun T31 X31 e31 => ?_)
    show Go p e below _ (T31.setTop (mkF m 22 #[.val (.int i0), .val (.int (9 : Int32)), .val (.ref w_UNIQUE_MEMBER), .val (.int (0 : Int32))] [(.int (0 : Int32))]))
    refine s_iloadN B X31 (pc' := 23) at_22 rfl rfl ?_
    refine s_icmpN B X31 (pc' := 26) at_23 (by decide) rfl ?_
    refine s_iconst B X31 (pc' := 27) (v := (1 : Int32)) at_26 rfl rfl ?_
    refine s_goto B X31 (pc' := 31) at_27 (by decide) (by decide) ?_
    exact r_nar B X31 (t := .boolean) (by simp) rfl at_31 ⟨rfl, (Fr.nil _)⟩ (by decide) (by decide)
  · refine s_iloadN B X0 (pc' := 1) at_0 rfl rfl ?_
    refine s_ldc B X0 (pc' := 3) (v := (2147483647 : Int32)) (tw0 hw) at_1 rfl ?_
    refine s_iand B X0 (pc' := 4) (v := (i0 &&& (2147483647 : Int32))) at_3 rfl rfl ?_
    refine s_bipush B X0 (pc' := 6) (v := (12 : Int32)) at_4 rfl rfl ?_
    refine s_irem B X0 (pc' := 7) (v := (10 : Int32)) at_6 (hv1) (by decide) rfl ?_
    refine s_istoreN B X0 (pc' := 8) (Ls' := #[.val (.int i0), .val (.int (10 : Int32)), .unset, .unset]) at_7 rfl rfl ?_
    refine s_iloadN B X0 (pc' := 9) at_8 rfl rfl ?_
    refine p_static B X0 (y := mn0) (pc' := 12) (argsL := [(.int (10 : Int32))]) (under := []) (W := 0) e0 (tw1 hw) (tw2 hw) (tw4 hw) (tw3 hw) (by decide) (rm1_30 l Z a0 hw  w_CASE_IGNORE w_NUMERIC_STRING w_CASE_IGNORE_IA5 w_OCTET_STRING w_OBJECT_IDENTIFIER_FIRST_COMPONENT w_CASE_IGNORE_LIST w_DISTINGUISHED_NAME w_CASE_EXACT w_INTEGER_FIRST_COMPONENT w_UNIQUE_MEMBER w_OBJECT_IDENTIFIER w_TELEPHONE_NUMBER w_CASE_IGNORE_substringsName w_NUMERIC_STRING_substringsName w_CASE_IGNORE_IA5_substringsName w_CASE_IGNORE_LIST_substringsName w_CASE_EXACT_substringsName w_TELEPHONE_NUMBER_substringsName Z.heap F0 ) (lenOf pd_0 rfl) rfl rfl (by decide) (by decide) rfl rfl (by decide) (by decide) rfl at_9 rfl (fun T32 X32 e32 => ?_)
    show Go p e below _ (T32.setTop (mkF m 12 #[.val (.int i0), .val (.int (10 : Int32)), .unset, .unset] [(.ref w_INTEGER_FIRST_COMPONENT)]))
    refine s_astoreN B X32 (pc' := 13) (Ls' := #[.val (.int i0), .val (.int (10 : Int32)), .val (.ref w_INTEGER_FIRST_COMPONENT), .unset]) at_12 rfl rfl rfl ?_
    refine s_iloadN B X32 (pc' := 14) at_13 rfl rfl ?_
    refine p_static B X32 (y := mn1) (pc' := 17) (argsL := [(.int (10 : Int32))]) (under := []) (W := 0) e32 (tw8 hw) (tw9 hw) (tw10 hw) (tw3 hw) (by decide) (rm2_31 l Z a0 hw  w_CASE_IGNORE w_NUMERIC_STRING w_CASE_IGNORE_IA5 w_OCTET_STRING w_OBJECT_IDENTIFIER_FIRST_COMPONENT w_CASE_IGNORE_LIST w_DISTINGUISHED_NAME w_CASE_EXACT w_INTEGER_FIRST_COMPONENT w_UNIQUE_MEMBER w_OBJECT_IDENTIFIER w_TELEPHONE_NUMBER w_CASE_IGNORE_substringsName w_NUMERIC_STRING_substringsName w_CASE_IGNORE_IA5_substringsName w_CASE_IGNORE_LIST_substringsName w_CASE_EXACT_substringsName w_TELEPHONE_NUMBER_substringsName Z.heap F0 ) (lenOf pd_1 rfl) rfl rfl (by decide) (by decide) rfl rfl (by decide) (by decide) rfl at_14 rfl (fun T33 X33 e33 => ?_)
    show Go p e below _ (T33.setTop (mkF m 17 #[.val (.int i0), .val (.int (10 : Int32)), .val (.ref w_INTEGER_FIRST_COMPONENT), .unset] [(.int (0 : Int32))]))
    refine s_istoreN B X33 (pc' := 18) (Ls' := #[.val (.int i0), .val (.int (10 : Int32)), .val (.ref w_INTEGER_FIRST_COMPONENT), .val (.int (0 : Int32))]) at_17 rfl rfl ?_
    refine s_aloadN B X33 (pc' := 19) at_18 rfl rfl rfl ?_
    refine p_virtual B X33 (y := mn2) (pc' := 22) (argsL := []) (under := []) (W := 0) e33 (tw11 hw) (tw12 hw) (tw14 hw) (tw13 hw) (tw15 hw) (tw6 hw) (by decide) (rm3_32 l Z a0 hw  w_CASE_IGNORE w_NUMERIC_STRING w_CASE_IGNORE_IA5 w_OCTET_STRING w_OBJECT_IDENTIFIER_FIRST_COMPONENT w_CASE_IGNORE_LIST w_DISTINGUISHED_NAME w_CASE_EXACT w_INTEGER_FIRST_COMPONENT w_UNIQUE_MEMBER w_OBJECT_IDENTIFIER w_TELEPHONE_NUMBER w_CASE_IGNORE_substringsName w_NUMERIC_STRING_substringsName w_CASE_IGNORE_IA5_substringsName w_CASE_IGNORE_LIST_substringsName w_CASE_EXACT_substringsName w_TELEPHONE_NUMBER_substringsName Z.heap F0 ) E_INTEGER_FIRST_COMPONENT (lenOf pd_2 rfl) rfl rfl (by decide) (by decide) rfl rfl (by decide) (by decide) rfl at_19 rfl (fun T34 X34 e34 => ?_)
    show Go p e below _ (T34.setTop (mkF m 22 #[.val (.int i0), .val (.int (10 : Int32)), .val (.ref w_INTEGER_FIRST_COMPONENT), .val (.int (0 : Int32))] [(.int (0 : Int32))]))
    refine s_iloadN B X34 (pc' := 23) at_22 rfl rfl ?_
    refine s_icmpN B X34 (pc' := 26) at_23 (by decide) rfl ?_
    refine s_iconst B X34 (pc' := 27) (v := (1 : Int32)) at_26 rfl rfl ?_
    refine s_goto B X34 (pc' := 31) at_27 (by decide) (by decide) ?_
    exact r_nar B X34 (t := .boolean) (by simp) rfl at_31 ⟨rfl, (Fr.nil _)⟩ (by decide) (by decide)
  · refine s_iloadN B X0 (pc' := 1) at_0 rfl rfl ?_
    refine s_ldc B X0 (pc' := 3) (v := (2147483647 : Int32)) (tw0 hw) at_1 rfl ?_
    refine s_iand B X0 (pc' := 4) (v := (i0 &&& (2147483647 : Int32))) at_3 rfl rfl ?_
    refine s_bipush B X0 (pc' := 6) (v := (12 : Int32)) at_4 rfl rfl ?_
    refine s_irem B X0 (pc' := 7) (v := (11 : Int32)) at_6 (hv1) (by decide) rfl ?_
    refine s_istoreN B X0 (pc' := 8) (Ls' := #[.val (.int i0), .val (.int (11 : Int32)), .unset, .unset]) at_7 rfl rfl ?_
    refine s_iloadN B X0 (pc' := 9) at_8 rfl rfl ?_
    refine p_static B X0 (y := mn0) (pc' := 12) (argsL := [(.int (11 : Int32))]) (under := []) (W := 0) e0 (tw1 hw) (tw2 hw) (tw4 hw) (tw3 hw) (by decide) (rm1_33 l Z a0 hw  w_CASE_IGNORE w_NUMERIC_STRING w_CASE_IGNORE_IA5 w_OCTET_STRING w_OBJECT_IDENTIFIER_FIRST_COMPONENT w_CASE_IGNORE_LIST w_DISTINGUISHED_NAME w_CASE_EXACT w_INTEGER_FIRST_COMPONENT w_UNIQUE_MEMBER w_OBJECT_IDENTIFIER w_TELEPHONE_NUMBER w_CASE_IGNORE_substringsName w_NUMERIC_STRING_substringsName w_CASE_IGNORE_IA5_substringsName w_CASE_IGNORE_LIST_substringsName w_CASE_EXACT_substringsName w_TELEPHONE_NUMBER_substringsName Z.heap F0 ) (lenOf pd_0 rfl) rfl rfl (by decide) (by decide) rfl rfl (by decide) (by decide) rfl at_9 rfl (fun T35 X35 e35 => ?_)
    show Go p e below _ (T35.setTop (mkF m 12 #[.val (.int i0), .val (.int (11 : Int32)), .unset, .unset] [(.ref w_OBJECT_IDENTIFIER_FIRST_COMPONENT)]))
    refine s_astoreN B X35 (pc' := 13) (Ls' := #[.val (.int i0), .val (.int (11 : Int32)), .val (.ref w_OBJECT_IDENTIFIER_FIRST_COMPONENT), .unset]) at_12 rfl rfl rfl ?_
    refine s_iloadN B X35 (pc' := 14) at_13 rfl rfl ?_
    refine p_static B X35 (y := mn1) (pc' := 17) (argsL := [(.int (11 : Int32))]) (under := []) (W := 0) e35 (tw8 hw) (tw9 hw) (tw10 hw) (tw3 hw) (by decide) (rm2_34 l Z a0 hw  w_CASE_IGNORE w_NUMERIC_STRING w_CASE_IGNORE_IA5 w_OCTET_STRING w_OBJECT_IDENTIFIER_FIRST_COMPONENT w_CASE_IGNORE_LIST w_DISTINGUISHED_NAME w_CASE_EXACT w_INTEGER_FIRST_COMPONENT w_UNIQUE_MEMBER w_OBJECT_IDENTIFIER w_TELEPHONE_NUMBER w_CASE_IGNORE_substringsName w_NUMERIC_STRING_substringsName w_CASE_IGNORE_IA5_substringsName w_CASE_IGNORE_LIST_substringsName w_CASE_EXACT_substringsName w_TELEPHONE_NUMBER_substringsName Z.heap F0 ) (lenOf pd_1 rfl) rfl rfl (by decide) (by decide) rfl rfl (by decide) (by decide) rfl at_14 rfl (fun T36 X36 e36 => ?_)
    show Go p e below _ (T36.setTop (mkF m 17 #[.val (.int i0), .val (.int (11 : Int32)), .val (.ref w_OBJECT_IDENTIFIER_FIRST_COMPONENT), .unset] [(.int (0 : Int32))]))
    refine s_istoreN B X36 (pc' := 18) (Ls' := #[.val (.int i0), .val (.int (11 : Int32)), .val (.ref w_OBJECT_IDENTIFIER_FIRST_COMPONENT), .val (.int (0 : Int32))]) at_17 rfl rfl ?_
    refine s_aloadN B X36 (pc' := 19) at_18 rfl rfl rfl ?_
    refine p_virtual B X36 (y := mn2) (pc' := 22) (argsL := []) (under := []) (W := 0) e36 (tw11 hw) (tw12 hw) (tw14 hw) (tw13 hw) (tw15 hw) (tw6 hw) (by decide) (rm3_35 l Z a0 hw  w_CASE_IGNORE w_NUMERIC_STRING w_CASE_IGNORE_IA5 w_OCTET_STRING w_OBJECT_IDENTIFIER_FIRST_COMPONENT w_CASE_IGNORE_LIST w_DISTINGUISHED_NAME w_CASE_EXACT w_INTEGER_FIRST_COMPONENT w_UNIQUE_MEMBER w_OBJECT_IDENTIFIER w_TELEPHONE_NUMBER w_CASE_IGNORE_substringsName w_NUMERIC_STRING_substringsName w_CASE_IGNORE_IA5_substringsName w_CASE_IGNORE_LIST_substringsName w_CASE_EXACT_substringsName w_TELEPHONE_NUMBER_substringsName Z.heap F0 ) E_OBJECT_IDENTIFIER_FIRST_COMPONENT (lenOf pd_2 rfl) rfl rfl (by decide) (by decide) rfl rfl (by decide) (by decide) rfl at_19 rfl (fun T37 X37 e37 => ?_)
    show Go p e below _ (T37.setTop (mkF m 22 #[.val (.int i0), .val (.int (11 : Int32)), .val (.ref w_OBJECT_IDENTIFIER_FIRST_COMPONENT), .val (.int (0 : Int32))] [(.int (0 : Int32))]))
    refine s_iloadN B X37 (pc' := 23) at_22 rfl rfl ?_
    refine s_icmpN B X37 (pc' := 26) at_23 (by decide) rfl ?_
    refine s_iconst B X37 (pc' := 27) (v := (1 : Int32)) at_26 rfl rfl ?_
    refine s_goto B X37 (pc' := 31) at_27 (by decide) (by decide) ?_
    exact r_nar B X37 (t := .boolean) (by simp) rfl at_31 ⟨rfl, (Fr.nil _)⟩ (by decide) (by decide)
set_option maxRecDepth 65536 in
set_option maxHeartbeats 40000000 in
theorem comes_1 {Post : Tables → Env → Array Value → State → Outcome → State → Prop} (hpost : ∀ tb e args s v u, (limb_1_1.after args s (.returned v) u = true ∧ limb_1_2.after args s (.returned v) u = true ∧ True) → FrameEnd s (.returned v) u (Jvm.fieldLocs frame_1_writes args s ++ Jvm.arrayLocs frame_1_arrays args s ++ Jvm.staticLocs frame_1_statics s) 0 0 → Post tb e args s (.returned v) u) :
    ArmFor flags0 classFile x code maxLocals ret World_1 tables_1 room_1 Calls_1 rest_1 Pre_1 Post := by
  intro l hfl _ _ p e ha hc hk s m args below hf hA hF happ hP
  obtain ⟨hcalls, hrest, hpre⟩ := hP
  obtain ⟨-, -, -, hnamed, -, -, -, hat⟩ := (Spec.applies_iff hf).mp happ
  obtain ⟨hg, hn⟩ := and_e (Cond.before_iff.mp (show (Jvm.Cond.and given_1 narrow_1).before args s = true from hpre))
  obtain ⟨h1, hg⟩ := and_e hg
  obtain ⟨w0, rfl⟩ : ∃ w0 : Value, args = #[w0] := by
    have hs : args.size = 1 := by simpa [Cond.value, given_1] using h1
    obtain ⟨L⟩ := args
    match L, hs with
    | [w0], _ => exact ⟨w0, rfl⟩
  have hw := fun d (hd : d ∈ tables_1) => atoms_spec (ws := Jvm.Cond.code x code maxLocals ret :: tables_1) hat d (List.mem_cons_of_mem _ hd)
  have hfit : Fit s := fun {y c} hc i hi => by
    obtain ⟨ha, rfl⟩ := Array.getElem?_eq_some_iff.mp hc
    have q := List.all_eq_true.mp ((Array.all_eq_true_iff_forall_mem.mp hF) _ (Array.getElem_mem ha)) i (List.mem_range.mpr hi)
    simpa [Array.getElem?_eq_getElem hi] using q
  have hg0 := hg
  obtain ⟨i0, ei0⟩ := is_v hg0
  obtain rfl : w0 = (.int i0) := Option.some.inj ei0
  obtain ⟨hn0, hn⟩ := and_e hn
  obtain ⟨hn1, hn⟩ := and_e hn
  obtain ⟨hn2, hn⟩ := and_e hn
  obtain ⟨hn3, hn⟩ := and_e hn
  obtain ⟨hn4, hn⟩ := and_e hn
  obtain ⟨hn5, hn⟩ := and_e hn
  obtain ⟨hn6, hn⟩ := and_e hn
  obtain ⟨hn7, hn⟩ := and_e hn
  obtain ⟨hn8, hn⟩ := and_e hn
  obtain ⟨hn9, hn⟩ := and_e hn
  obtain ⟨hn10, hn⟩ := and_e hn
  obtain ⟨hn11, hn⟩ := and_e hn
  obtain ⟨hn12, hn⟩ := and_e hn
  obtain ⟨hn13, hn⟩ := and_e hn
  obtain ⟨hn14, hn⟩ := and_e hn
  obtain ⟨hn15, hn⟩ := and_e hn
  obtain ⟨hn16, hn⟩ := and_e hn
  obtain ⟨hn17, hn⟩ := and_e hn
  obtain ⟨hn18, hn⟩ := and_e hn
  obtain ⟨hn19, hn⟩ := and_e hn
  obtain ⟨hn20, hn⟩ := and_e hn
  obtain ⟨hn21, hn⟩ := and_e hn
  obtain ⟨hn22, hn⟩ := and_e hn
  have hn23 := hn
  obtain ⟨w_CASE_IGNORE, v_CASE_IGNORE⟩ := exa_v hn0
  have S_CASE_IGNORE := Sta.start v_CASE_IGNORE (Or.inr ⟨(tw6 hw), (tw7 hw)⟩)
  have E_CASE_IGNORE := Exa.start v_CASE_IGNORE hn0
  obtain ⟨w_NUMERIC_STRING, v_NUMERIC_STRING⟩ := exa_v hn2
  have S_NUMERIC_STRING := Sta.start v_NUMERIC_STRING (Or.inr ⟨(tw6 hw), (tw19 hw)⟩)
  have E_NUMERIC_STRING := Exa.start v_NUMERIC_STRING hn2
  obtain ⟨w_CASE_IGNORE_IA5, v_CASE_IGNORE_IA5⟩ := exa_v hn4
  have S_CASE_IGNORE_IA5 := Sta.start v_CASE_IGNORE_IA5 (Or.inr ⟨(tw6 hw), (tw21 hw)⟩)
  have E_CASE_IGNORE_IA5 := Exa.start v_CASE_IGNORE_IA5 hn4
  obtain ⟨w_OCTET_STRING, v_OCTET_STRING⟩ := exa_v hn6
  have S_OCTET_STRING := Sta.start v_OCTET_STRING (Or.inr ⟨(tw6 hw), (tw23 hw)⟩)
  have E_OCTET_STRING := Exa.start v_OCTET_STRING hn6
  obtain ⟨w_OBJECT_IDENTIFIER_FIRST_COMPONENT, v_OBJECT_IDENTIFIER_FIRST_COMPONENT⟩ := exa_v hn8
  have S_OBJECT_IDENTIFIER_FIRST_COMPONENT := Sta.start v_OBJECT_IDENTIFIER_FIRST_COMPONENT (Or.inr ⟨(tw6 hw), (tw25 hw)⟩)
  have E_OBJECT_IDENTIFIER_FIRST_COMPONENT := Exa.start v_OBJECT_IDENTIFIER_FIRST_COMPONENT hn8
  obtain ⟨w_CASE_IGNORE_LIST, v_CASE_IGNORE_LIST⟩ := exa_v hn10
  have S_CASE_IGNORE_LIST := Sta.start v_CASE_IGNORE_LIST (Or.inr ⟨(tw6 hw), (tw27 hw)⟩)
  have E_CASE_IGNORE_LIST := Exa.start v_CASE_IGNORE_LIST hn10
  obtain ⟨w_DISTINGUISHED_NAME, v_DISTINGUISHED_NAME⟩ := exa_v hn12
  have S_DISTINGUISHED_NAME := Sta.start v_DISTINGUISHED_NAME (Or.inr ⟨(tw6 hw), (tw29 hw)⟩)
  have E_DISTINGUISHED_NAME := Exa.start v_DISTINGUISHED_NAME hn12
  obtain ⟨w_CASE_EXACT, v_CASE_EXACT⟩ := exa_v hn14
  have S_CASE_EXACT := Sta.start v_CASE_EXACT (Or.inr ⟨(tw6 hw), (tw31 hw)⟩)
  have E_CASE_EXACT := Exa.start v_CASE_EXACT hn14
  obtain ⟨w_INTEGER_FIRST_COMPONENT, v_INTEGER_FIRST_COMPONENT⟩ := exa_v hn16
  have S_INTEGER_FIRST_COMPONENT := Sta.start v_INTEGER_FIRST_COMPONENT (Or.inr ⟨(tw6 hw), (tw33 hw)⟩)
  have E_INTEGER_FIRST_COMPONENT := Exa.start v_INTEGER_FIRST_COMPONENT hn16
  obtain ⟨w_UNIQUE_MEMBER, v_UNIQUE_MEMBER⟩ := exa_v hn18
  have S_UNIQUE_MEMBER := Sta.start v_UNIQUE_MEMBER (Or.inr ⟨(tw6 hw), (tw35 hw)⟩)
  have E_UNIQUE_MEMBER := Exa.start v_UNIQUE_MEMBER hn18
  obtain ⟨w_OBJECT_IDENTIFIER, v_OBJECT_IDENTIFIER⟩ := exa_v hn20
  have S_OBJECT_IDENTIFIER := Sta.start v_OBJECT_IDENTIFIER (Or.inr ⟨(tw6 hw), (tw37 hw)⟩)
  have E_OBJECT_IDENTIFIER := Exa.start v_OBJECT_IDENTIFIER hn20
  obtain ⟨w_TELEPHONE_NUMBER, v_TELEPHONE_NUMBER⟩ := exa_v hn22
  have S_TELEPHONE_NUMBER := Sta.start v_TELEPHONE_NUMBER (Or.inr ⟨(tw6 hw), (tw39 hw)⟩)
  have E_TELEPHONE_NUMBER := Exa.start v_TELEPHONE_NUMBER hn22
  obtain ⟨w_CASE_IGNORE_substringsName, v_CASE_IGNORE_substringsName⟩ := exa_v hn1
  have F_CASE_IGNORE_substringsName := Fld.start ((fld_at v_CASE_IGNORE).symm.trans v_CASE_IGNORE_substringsName)
  have E_CASE_IGNORE_substringsName := Exa.start v_CASE_IGNORE_substringsName hn1
  obtain ⟨w_NUMERIC_STRING_substringsName, v_NUMERIC_STRING_substringsName⟩ := exa_v hn3
  have F_NUMERIC_STRING_substringsName := Fld.start ((fld_at v_NUMERIC_STRING).symm.trans v_NUMERIC_STRING_substringsName)
  have E_NUMERIC_STRING_substringsName := Exa.start v_NUMERIC_STRING_substringsName hn3
  obtain ⟨w_CASE_IGNORE_IA5_substringsName, v_CASE_IGNORE_IA5_substringsName⟩ := exa_v hn5
  have F_CASE_IGNORE_IA5_substringsName := Fld.start ((fld_at v_CASE_IGNORE_IA5).symm.trans v_CASE_IGNORE_IA5_substringsName)
  have E_CASE_IGNORE_IA5_substringsName := Exa.start v_CASE_IGNORE_IA5_substringsName hn5
  have F_OCTET_STRING_substringsName := Fld.start ((fld_at v_OCTET_STRING).symm.trans (null_v hn7))
  have F_OBJECT_IDENTIFIER_FIRST_COMPONENT_substringsName := Fld.start ((fld_at v_OBJECT_IDENTIFIER_FIRST_COMPONENT).symm.trans (null_v hn9))
  obtain ⟨w_CASE_IGNORE_LIST_substringsName, v_CASE_IGNORE_LIST_substringsName⟩ := exa_v hn11
  have F_CASE_IGNORE_LIST_substringsName := Fld.start ((fld_at v_CASE_IGNORE_LIST).symm.trans v_CASE_IGNORE_LIST_substringsName)
  have E_CASE_IGNORE_LIST_substringsName := Exa.start v_CASE_IGNORE_LIST_substringsName hn11
  have F_DISTINGUISHED_NAME_substringsName := Fld.start ((fld_at v_DISTINGUISHED_NAME).symm.trans (null_v hn13))
  obtain ⟨w_CASE_EXACT_substringsName, v_CASE_EXACT_substringsName⟩ := exa_v hn15
  have F_CASE_EXACT_substringsName := Fld.start ((fld_at v_CASE_EXACT).symm.trans v_CASE_EXACT_substringsName)
  have E_CASE_EXACT_substringsName := Exa.start v_CASE_EXACT_substringsName hn15
  have F_INTEGER_FIRST_COMPONENT_substringsName := Fld.start ((fld_at v_INTEGER_FIRST_COMPONENT).symm.trans (null_v hn17))
  have F_UNIQUE_MEMBER_substringsName := Fld.start ((fld_at v_UNIQUE_MEMBER).symm.trans (null_v hn19))
  have F_OBJECT_IDENTIFIER_substringsName := Fld.start ((fld_at v_OBJECT_IDENTIFIER).symm.trans (null_v hn21))
  obtain ⟨w_TELEPHONE_NUMBER_substringsName, v_TELEPHONE_NUMBER_substringsName⟩ := exa_v hn23
  have F_TELEPHONE_NUMBER_substringsName := Fld.start ((fld_at v_TELEPHONE_NUMBER).symm.trans v_TELEPHONE_NUMBER_substringsName)
  have E_TELEPHONE_NUMBER_substringsName := Exa.start v_TELEPHONE_NUMBER_substringsName hn23
  obtain ⟨n, o, h1, h2, h3, _, L, rfl, ⟨rfl, N⟩, hq⟩ := rm_law l s _ hw i0 w_CASE_IGNORE w_NUMERIC_STRING w_CASE_IGNORE_IA5 w_OCTET_STRING w_OBJECT_IDENTIFIER_FIRST_COMPONENT w_CASE_IGNORE_LIST w_DISTINGUISHED_NAME w_CASE_EXACT w_INTEGER_FIRST_COMPONENT w_UNIQUE_MEMBER w_OBJECT_IDENTIFIER w_TELEPHONE_NUMBER w_CASE_IGNORE_substringsName w_NUMERIC_STRING_substringsName w_CASE_IGNORE_IA5_substringsName w_CASE_IGNORE_LIST_substringsName w_CASE_EXACT_substringsName w_TELEPHONE_NUMBER_substringsName ⟨S_CASE_IGNORE, E_CASE_IGNORE, S_NUMERIC_STRING, E_NUMERIC_STRING, S_CASE_IGNORE_IA5, E_CASE_IGNORE_IA5, S_OCTET_STRING, E_OCTET_STRING, S_OBJECT_IDENTIFIER_FIRST_COMPONENT, E_OBJECT_IDENTIFIER_FIRST_COMPONENT, S_CASE_IGNORE_LIST, E_CASE_IGNORE_LIST, S_DISTINGUISHED_NAME, E_DISTINGUISHED_NAME, S_CASE_EXACT, E_CASE_EXACT, S_INTEGER_FIRST_COMPONENT, E_INTEGER_FIRST_COMPONENT, S_UNIQUE_MEMBER, E_UNIQUE_MEMBER, S_OBJECT_IDENTIFIER, E_OBJECT_IDENTIFIER, S_TELEPHONE_NUMBER, E_TELEPHONE_NUMBER, F_CASE_IGNORE_substringsName, E_CASE_IGNORE_substringsName, F_NUMERIC_STRING_substringsName, E_NUMERIC_STRING_substringsName, F_CASE_IGNORE_IA5_substringsName, E_CASE_IGNORE_IA5_substringsName, F_OCTET_STRING_substringsName, F_OBJECT_IDENTIFIER_FIRST_COMPONENT_substringsName, F_CASE_IGNORE_LIST_substringsName, E_CASE_IGNORE_LIST_substringsName, F_DISTINGUISHED_NAME_substringsName, F_CASE_EXACT_substringsName, E_CASE_EXACT_substringsName, F_INTEGER_FIRST_COMPONENT_substringsName, F_UNIQUE_MEMBER_substringsName, F_OBJECT_IDENTIFIER_substringsName, F_TELEPHONE_NUMBER_substringsName, E_TELEPHONE_NUMBER_substringsName⟩ p e ha hc hk s m _ below hf ((Spec.applies_iff_loose hf).mp happ).1 ⟨rfl, State.Warmed39.refl s, rfl⟩ trivial
  refine ⟨n, _, h1, h2, h3, hpost _ _ _ _ _ _ ⟨Cond.after_iff.mpr rfl, Cond.after_iff.mpr (eq_i res_at (Term.int_eval (1)) rfl), trivial⟩ ⟨hq.1, hq.2.1, (hq.2.2.sift fun y hy => Or.inr (N y hy)).mono (by decide) (by decide)⟩⟩
theorem main_1_1 : Claimed_1_1 := comes_1 fun _ _ _ _ _ _ h hF => ⟨h.1, hF⟩
theorem main_1_2 : Claimed_1_2 := comes_1 fun _ _ _ _ _ _ h hF => ⟨h.2.1, hF⟩
end Jvm.Pilot.@@N@@
namespace Jvm.Pilot.@@N@@
open Jvm Jvm.ClassFile Sem Op Lib Jvm.Free Jvm.Stand Jvm.Pilot.@@N@@.Jvm.D
/-! MADE BY PROGRAM (witnessworld.py) out of the Statement's table words and the real class files: 15 classes; the members and pool entries that the words name. The judged class is class 1, her method 1. -/
namespace start1
open Jvm.ClassFile
def u (s : String) : CpInfo := .utf8 (stringToUtf16 s)
/-- a pool by its gaps: so many unusable entries, then the entry; so many at the end -/
def gap : Nat → List CpInfo → List CpInfo
  | 0, r => r
  | n + 1, r => .unusable :: gap n r
def poolList (es : List (Nat × CpInfo)) (last : Nat) : List CpInfo := es.foldr (fun e r => gap e.1 (e.2 :: r)) (gap last [])
def pool (es : List (Nat × CpInfo)) (last : Nat) : Array CpInfo := ⟨poolList es last⟩
def fileOf (pool : Array CpInfo) (this : Nat) (attrs : Array Attribute := #[]) (ms : Array MethodInfo := #[]) (fl : Nat := 33) (sup : Nat := 0) (ifs : Array Nat := #[]) (fds : Array FieldInfo := #[]) : ClassFile where
  minorVersion := 0
  majorVersion := 65
  constantPool := pool
  accessFlags := fl
  thisClass := this
  superClass := sup
  interfaces := ifs
  fields := fds
  methods := ms
  attributes := attrs
def plain (name : String) (sup : Option ClassId) : Class where
  name := name
  kind := .ordinary
  loader := none
  accessFlags := 33
  super := sup
  interfaces := #[]
  cf := none
  fields := #[]
  methods := #[]
  instanceTypes := #[]
  staticTypes := #[]
  resolved := #[]
  callSites := []
  init := .initialized
  statics := none
  mirror := none

def pool0 : Array CpInfo := pool [(5, u "<init>"), (0, u "()V"), (1, .class_ 10), (1, u "java/lang/Object")] 113

def k0m0 : Method := { name := "<init>", desc := "()V", sig := { parameters := [], returnType := none }, accessFlags := 1, code := none }
/-- java/lang/Object -/
def k0 : Class := { plain "java/lang/Object" none with
  accessFlags := 33
  interfaces := #[]
  cf := some (fileOf pool0 8 #[] #[{ accessFlags := 1, nameIndex := 5, descriptorIndex := 6, attributes := #[] }] 33 0 #[] #[])
  fields := #[]
  methods := #[k0m0]
  instanceTypes := #[]
  staticTypes := #[]
  resolved := Array.replicate 124 none
  statics := none }

def pool1 : Array CpInfo := pool [(2, .class_ 4), (1, u "java/lang/Object"), (0, u "<init>"), (0, u "()V"), (0, .integer 2147483647), (0, .methodref 9 10), (0, .class_ 11), (0, .nameAndType 12 13), (0, u "com/example/waymark/waymark/model/MatchingRuleHasSubstringsPinLaw"), (0, u "rule"), (0, u "(I)Lcom/example/waymark/waymark/model/MatchingRule;"), (0, .methodref 9 15), (0, .nameAndType 16 17), (0, u "documentedSubstrings"), (0, u "(I)Z"), (0, .methodref 19 20), (0, .class_ 21), (0, .nameAndType 22 23), (0, u "com/example/waymark/waymark/model/MatchingRule"), (0, u "hasSubstrings"), (0, u "()Z"), (0, .fieldref 19 25), (0, .nameAndType 26 27), (0, u "CASE_IGNORE"), (0, u "Lcom/example/waymark/waymark/model/MatchingRule;"), (0, .fieldref 19 29), (0, .nameAndType 30 27), (0, u "CASE_EXACT"), (0, .fieldref 19 32), (0, .nameAndType 33 27), (0, u "CASE_IGNORE_IA5"), (0, .fieldref 19 35), (0, .nameAndType 36 27), (0, u "NUMERIC_STRING"), (0, .fieldref 19 38), (0, .nameAndType 39 27), (0, u "CASE_IGNORE_LIST"), (0, .fieldref 19 41), (0, .nameAndType 42 27), (0, u "TELEPHONE_NUMBER"), (0, .fieldref 19 44), (0, .nameAndType 45 27), (0, u "OBJECT_IDENTIFIER"), (0, .fieldref 19 47), (0, .nameAndType 48 27), (0, u "OCTET_STRING"), (0, .fieldref 19 50), (0, .nameAndType 51 27), (0, u "DISTINGUISHED_NAME"), (0, .fieldref 19 53), (0, .nameAndType 54 27), (0, u "UNIQUE_MEMBER"), (0, .fieldref 19 56), (0, .nameAndType 57 27), (0, u "INTEGER_FIRST_COMPONENT"), (0, .fieldref 19 59), (0, .nameAndType 60 27), (0, u "OBJECT_IDENTIFIER_FIRST_COMPONENT"), (2, u "law")] 3

def k1m0 : Method := { name := "<init>", desc := "()V", sig := { parameters := [], returnType := none }, accessFlags := 2, code := none }
def k1c1 : Code := { maxStack := 2, maxLocals := 4, code := code, exceptionTable := #[], attributes := #[] }
def k1m1 : Method := { name := "law", desc := "(I)Z", sig := { parameters := [.int], returnType := some .boolean }, accessFlags := 9, code := some k1c1 }
def k1c2 : Code := { maxStack := 2, maxLocals := 1, code := method_3_code, exceptionTable := #[], attributes := #[] }
def k1m2 : Method := { name := "rule", desc := "(I)Lcom/example/waymark/waymark/model/MatchingRule;", sig := { parameters := [.int], returnType := some (.object "com/example/waymark/waymark/model/MatchingRule") }, accessFlags := 10, code := some k1c2 }
def k1c3 : Code := { maxStack := 2, maxLocals := 1, code := method_4_code, exceptionTable := #[], attributes := #[] }
def k1m3 : Method := { name := "documentedSubstrings", desc := "(I)Z", sig := { parameters := [.int], returnType := some .boolean }, accessFlags := 10, code := some k1c3 }
/-- com/example/waymark/waymark/model/MatchingRuleHasSubstringsPinLaw -/
def k1 : Class := { plain "com/example/waymark/waymark/model/MatchingRuleHasSubstringsPinLaw" (some 0) with
  accessFlags := 49
  interfaces := #[]
  cf := some (fileOf pool1 9 #[] #[{ accessFlags := 2, nameIndex := 5, descriptorIndex := 6, attributes := #[] }, { accessFlags := 9, nameIndex := 63, descriptorIndex := 17, attributes := #[] }, { accessFlags := 10, nameIndex := 12, descriptorIndex := 13, attributes := #[] }, { accessFlags := 10, nameIndex := 16, descriptorIndex := 17, attributes := #[] }] 49 2 #[] #[])
  fields := #[]
  methods := #[k1m0, k1m1, k1m2, k1m3]
  instanceTypes := #[]
  staticTypes := #[]
  resolved := Array.replicate 67 none
  statics := none }

def pool2 : Array CpInfo := pool [(1, .class_ 2), (0, u "java/lang/constant/Constable"), (0, .class_ 4), (0, u "java/lang/Object")] 6

/-- java/lang/constant/Constable -/
def k2 : Class := { plain "java/lang/constant/Constable" (some 0) with
  accessFlags := 1537
  interfaces := #[]
  cf := some (fileOf pool2 1 #[] #[] 1537 3 #[] #[])
  fields := #[]
  methods := #[]
  instanceTypes := #[]
  staticTypes := #[]
  resolved := Array.replicate 11 none
  statics := none }

def pool3 : Array CpInfo := pool [(1, .class_ 2), (0, u "java/lang/Comparable"), (0, .class_ 4), (0, u "java/lang/Object")] 7

/-- java/lang/Comparable -/
def k3 : Class := { plain "java/lang/Comparable" (some 0) with
  accessFlags := 1537
  interfaces := #[]
  cf := some (fileOf pool3 1 #[] #[] 1537 3 #[] #[])
  fields := #[]
  methods := #[]
  instanceTypes := #[]
  staticTypes := #[]
  resolved := Array.replicate 12 none
  statics := none }

def pool4 : Array CpInfo := pool [(1, .class_ 2), (0, u "java/io/Serializable"), (0, .class_ 4), (0, u "java/lang/Object")] 2

/-- java/io/Serializable -/
def k4 : Class := { plain "java/io/Serializable" (some 0) with
  accessFlags := 1537
  interfaces := #[]
  cf := some (fileOf pool4 1 #[] #[] 1537 3 #[] #[])
  fields := #[]
  methods := #[]
  instanceTypes := #[]
  staticTypes := #[]
  resolved := Array.replicate 7 none
  statics := none }

def pool5 : Array CpInfo := pool [(2, .class_ 4), (1, u "java/lang/Enum"), (0, u "name"), (0, u "Ljava/lang/String;"), (2, u "ordinal"), (0, u "I"), (1, .class_ 14), (1, u "java/lang/Object"), (4, u "hash"), (86, .class_ 108), (1, u "java/lang/Enum$EnumDesc"), (2, .class_ 112), (0, u "java/lang/constant/Constable"), (0, .class_ 114), (0, u "java/lang/Comparable"), (0, .class_ 116), (0, u "java/io/Serializable")] 87

/-- java/lang/Enum -/
def k5 : Class := { plain "java/lang/Enum" (some 0) with
  accessFlags := 1057
  interfaces := #[2, 3, 4]
  cf := some (fileOf pool5 2 #[.nestMembers #[106]] #[] 1057 12 #[111, 113, 115] #[{ accessFlags := 18, nameIndex := 5, descriptorIndex := 6, attributes := #[] }, { accessFlags := 18, nameIndex := 9, descriptorIndex := 10, attributes := #[] }, { accessFlags := 2, nameIndex := 19, descriptorIndex := 10, attributes := #[] }])
  fields := #[{ name := "name", type := (.object "java/lang/String"), accessFlags := 18, slot := 0, constantValue := 0 }, { name := "ordinal", type := .int, accessFlags := 18, slot := 1, constantValue := 0 }, { name := "hash", type := .int, accessFlags := 2, slot := 2, constantValue := 0 }]
  methods := #[]
  instanceTypes := #[(.object "java/lang/String"), .int, .int]
  staticTypes := #[]
  resolved := Array.replicate 204 none
  statics := none }

def pool6 : Array CpInfo := pool [(1, .class_ 2), (0, u "com/example/waymark/waymark/model/MatchingRule"), (2, u "CASE_IGNORE"), (0, u "Lcom/example/waymark/waymark/model/MatchingRule;"), (2, u "CASE_EXACT"), (2, u "CASE_IGNORE_IA5"), (2, u "NUMERIC_STRING"), (2, u "CASE_IGNORE_LIST"), (2, u "TELEPHONE_NUMBER"), (2, u "OBJECT_IDENTIFIER"), (2, u "OCTET_STRING"), (2, u "DISTINGUISHED_NAME"), (2, u "UNIQUE_MEMBER"), (2, u "INTEGER_FIRST_COMPONENT"), (2, u "OBJECT_IDENTIFIER_FIRST_COMPONENT"), (2, u "$VALUES"), (0, u "[Lcom/example/waymark/waymark/model/MatchingRule;"), (6, .class_ 52), (1, u "java/lang/Enum"), (11, u "oid"), (0, u "Ljava/lang/String;"), (2, u "ruleName"), (2, u "syntaks"), (2, u "orderingOid"), (2, u "orderingName"), (2, u "substringsOid"), (0, .fieldref 1 82), (0, .nameAndType 83 65), (0, u "substringsName"), (20, .class_ 106), (1, u "com/example/waymark/waymark/model/MatchingRule$Kind"), (88, u "INTEGER"), (0, u "Ljava/util/regex/Pattern;"), (11, u "()Z"), (2, u "hasSubstrings"), (64, .class_ 277), (0, u "com/example/waymark/waymark/model/MatchingRule$Syntax"), (112, u "UID"), (152, u "LINE_BREAK"), (0, u "C")] 66

def k6c0 : Code := { maxStack := 1, maxLocals := 1, code := prog_62_method_13_code, exceptionTable := #[], attributes := #[] }
def k6m0 : Method := { name := "hasSubstrings", desc := "()Z", sig := { parameters := [], returnType := some .boolean }, accessFlags := 1, code := some k6c0 }
/-- com/example/waymark/waymark/model/MatchingRule -/
def k6 : Class := { plain "com/example/waymark/waymark/model/MatchingRule" (some 5) with
  accessFlags := 16433
  interfaces := #[]
  cf := some (fileOf pool6 1 #[.nestMembers #[276, 104]] #[{ accessFlags := 1, nameIndex := 211, descriptorIndex := 208, attributes := #[] }] 16433 50 #[] #[{ accessFlags := 16409, nameIndex := 5, descriptorIndex := 6, attributes := #[] }, { accessFlags := 16409, nameIndex := 9, descriptorIndex := 6, attributes := #[] }, { accessFlags := 16409, nameIndex := 12, descriptorIndex := 6, attributes := #[] }, { accessFlags := 16409, nameIndex := 15, descriptorIndex := 6, attributes := #[] }, { accessFlags := 16409, nameIndex := 18, descriptorIndex := 6, attributes := #[] }, { accessFlags := 16409, nameIndex := 21, descriptorIndex := 6, attributes := #[] }, { accessFlags := 16409, nameIndex := 24, descriptorIndex := 6, attributes := #[] }, { accessFlags := 16409, nameIndex := 27, descriptorIndex := 6, attributes := #[] }, { accessFlags := 16409, nameIndex := 30, descriptorIndex := 6, attributes := #[] }, { accessFlags := 16409, nameIndex := 33, descriptorIndex := 6, attributes := #[] }, { accessFlags := 16409, nameIndex := 36, descriptorIndex := 6, attributes := #[] }, { accessFlags := 16409, nameIndex := 39, descriptorIndex := 6, attributes := #[] }, { accessFlags := 26, nameIndex := 390, descriptorIndex := 196, attributes := #[] }, { accessFlags := 26, nameIndex := 195, descriptorIndex := 196, attributes := #[] }, { accessFlags := 26, nameIndex := 543, descriptorIndex := 544, attributes := #[] }, { accessFlags := 18, nameIndex := 64, descriptorIndex := 65, attributes := #[] }, { accessFlags := 18, nameIndex := 68, descriptorIndex := 65, attributes := #[] }, { accessFlags := 18, nameIndex := 71, descriptorIndex := 65, attributes := #[] }, { accessFlags := 18, nameIndex := 74, descriptorIndex := 65, attributes := #[] }, { accessFlags := 18, nameIndex := 77, descriptorIndex := 65, attributes := #[] }, { accessFlags := 18, nameIndex := 80, descriptorIndex := 65, attributes := #[] }, { accessFlags := 18, nameIndex := 83, descriptorIndex := 65, attributes := #[] }, { accessFlags := 4122, nameIndex := 42, descriptorIndex := 43, attributes := #[] }])
  fields := #[{ name := "CASE_IGNORE", type := (.object "com/example/waymark/waymark/model/MatchingRule"), accessFlags := 16409, slot := 0, constantValue := 0 }, { name := "CASE_EXACT", type := (.object "com/example/waymark/waymark/model/MatchingRule"), accessFlags := 16409, slot := 1, constantValue := 0 }, { name := "CASE_IGNORE_IA5", type := (.object "com/example/waymark/waymark/model/MatchingRule"), accessFlags := 16409, slot := 2, constantValue := 0 }, { name := "NUMERIC_STRING", type := (.object "com/example/waymark/waymark/model/MatchingRule"), accessFlags := 16409, slot := 3, constantValue := 0 }, { name := "CASE_IGNORE_LIST", type := (.object "com/example/waymark/waymark/model/MatchingRule"), accessFlags := 16409, slot := 4, constantValue := 0 }, { name := "TELEPHONE_NUMBER", type := (.object "com/example/waymark/waymark/model/MatchingRule"), accessFlags := 16409, slot := 5, constantValue := 0 }, { name := "OBJECT_IDENTIFIER", type := (.object "com/example/waymark/waymark/model/MatchingRule"), accessFlags := 16409, slot := 6, constantValue := 0 }, { name := "OCTET_STRING", type := (.object "com/example/waymark/waymark/model/MatchingRule"), accessFlags := 16409, slot := 7, constantValue := 0 }, { name := "DISTINGUISHED_NAME", type := (.object "com/example/waymark/waymark/model/MatchingRule"), accessFlags := 16409, slot := 8, constantValue := 0 }, { name := "UNIQUE_MEMBER", type := (.object "com/example/waymark/waymark/model/MatchingRule"), accessFlags := 16409, slot := 9, constantValue := 0 }, { name := "INTEGER_FIRST_COMPONENT", type := (.object "com/example/waymark/waymark/model/MatchingRule"), accessFlags := 16409, slot := 10, constantValue := 0 }, { name := "OBJECT_IDENTIFIER_FIRST_COMPONENT", type := (.object "com/example/waymark/waymark/model/MatchingRule"), accessFlags := 16409, slot := 11, constantValue := 0 }, { name := "UID", type := (.object "java/util/regex/Pattern"), accessFlags := 26, slot := 12, constantValue := 0 }, { name := "INTEGER", type := (.object "java/util/regex/Pattern"), accessFlags := 26, slot := 13, constantValue := 0 }, { name := "LINE_BREAK", type := .char, accessFlags := 26, slot := 14, constantValue := 0 }, { name := "oid", type := (.object "java/lang/String"), accessFlags := 18, slot := 3, constantValue := 0 }, { name := "ruleName", type := (.object "java/lang/String"), accessFlags := 18, slot := 4, constantValue := 0 }, { name := "syntaks", type := (.object "java/lang/String"), accessFlags := 18, slot := 5, constantValue := 0 }, { name := "orderingOid", type := (.object "java/lang/String"), accessFlags := 18, slot := 6, constantValue := 0 }, { name := "orderingName", type := (.object "java/lang/String"), accessFlags := 18, slot := 7, constantValue := 0 }, { name := "substringsOid", type := (.object "java/lang/String"), accessFlags := 18, slot := 8, constantValue := 0 }, { name := "substringsName", type := (.object "java/lang/String"), accessFlags := 18, slot := 9, constantValue := 0 }, { name := "$VALUES", type := (.array (.object "com/example/waymark/waymark/model/MatchingRule")), accessFlags := 4122, slot := 15, constantValue := 0 }]
  methods := #[k6m0]
  instanceTypes := #[(.object "java/lang/String"), .int, .int, (.object "java/lang/String"), (.object "java/lang/String"), (.object "java/lang/String"), (.object "java/lang/String"), (.object "java/lang/String"), (.object "java/lang/String"), (.object "java/lang/String")]
  staticTypes := #[(.object "com/example/waymark/waymark/model/MatchingRule"), (.object "com/example/waymark/waymark/model/MatchingRule"), (.object "com/example/waymark/waymark/model/MatchingRule"), (.object "com/example/waymark/waymark/model/MatchingRule"), (.object "com/example/waymark/waymark/model/MatchingRule"), (.object "com/example/waymark/waymark/model/MatchingRule"), (.object "com/example/waymark/waymark/model/MatchingRule"), (.object "com/example/waymark/waymark/model/MatchingRule"), (.object "com/example/waymark/waymark/model/MatchingRule"), (.object "com/example/waymark/waymark/model/MatchingRule"), (.object "com/example/waymark/waymark/model/MatchingRule"), (.object "com/example/waymark/waymark/model/MatchingRule"), (.object "java/util/regex/Pattern"), (.object "java/util/regex/Pattern"), .char, (.array (.object "com/example/waymark/waymark/model/MatchingRule"))]
  resolved := Array.replicate 611 none
  statics := some 0 }

def pool7 : Array CpInfo := pool [(2, .class_ 4), (1, u "java/lang/CharSequence"), (42, .class_ 48), (0, u "java/lang/CharSequence$1CodePointIterator"), (10, .class_ 60), (0, u "java/lang/CharSequence$1CharIterator"), (5, .class_ 67), (0, u "java/lang/Object")] 63

/-- java/lang/CharSequence -/
def k7 : Class := { plain "java/lang/CharSequence" (some 0) with
  accessFlags := 1537
  interfaces := #[]
  cf := some (fileOf pool7 2 #[.nestMembers #[47, 59]] #[] 1537 66 #[] #[])
  fields := #[]
  methods := #[]
  instanceTypes := #[]
  staticTypes := #[]
  resolved := Array.replicate 131 none
  statics := none }

def pool8 : Array CpInfo := pool [(1, .class_ 2), (0, u "java/lang/constant/ConstantDesc"), (0, .class_ 4), (0, u "java/lang/Object")] 32

/-- java/lang/constant/ConstantDesc -/
def k8 : Class := { plain "java/lang/constant/ConstantDesc" (some 0) with
  accessFlags := 1537
  interfaces := #[]
  cf := some (fileOf pool8 1 #[] #[] 1537 3 #[] #[])
  fields := #[]
  methods := #[]
  instanceTypes := #[]
  staticTypes := #[]
  resolved := Array.replicate 37 none
  statics := none }

def pool9 : Array CpInfo := pool [(2, .class_ 4), (1, u "java/lang/Object"), (0, u "<init>"), (0, u "()V"), (3, .class_ 12), (1, u "java/lang/String"), (0, u "value"), (0, u "[B"), (2, u "coder"), (0, u "B"), (2, u "hash"), (0, u "I"), (2, u "hashIsZero"), (0, u "Z"), (13, u "COMPACT_STRINGS"), (534, .class_ 576), (0, u "java/lang/CharSequence"), (22, u "CASE_INSENSITIVE_ORDER"), (0, u "Ljava/util/Comparator;"), (500, u "serialPersistentFields"), (0, u "[Ljava/io/ObjectStreamField;"), (0, .class_ 1104), (0, u "java/lang/String$CaseInsensitiveComparator"), (1, .class_ 1107), (0, u "java/io/Serializable"), (0, .class_ 1109), (0, u "java/lang/Comparable"), (0, .class_ 1111), (0, u "java/lang/constant/Constable"), (0, .class_ 1113), (0, u "java/lang/constant/ConstantDesc"), (2, u "serialVersionUID"), (0, u "J"), (3, u "REPL"), (0, u "C"), (2, u "LATIN1"), (1, u "UTF16")] 323

def k9m0 : Method := { name := "<init>", desc := "()V", sig := { parameters := [], returnType := none }, accessFlags := 1, code := none }
/-- java/lang/String -/
def k9 : Class := { plain "java/lang/String" (some 0) with
  accessFlags := 49
  interfaces := #[4, 3, 7, 2, 8]
  cf := some (fileOf pool9 10 #[.nestMembers #[1103]] #[{ accessFlags := 1, nameIndex := 5, descriptorIndex := 6, attributes := #[] }] 49 2 #[1106, 1108, 575, 1110, 1112] #[{ accessFlags := 18, nameIndex := 13, descriptorIndex := 14, attributes := #[] }, { accessFlags := 18, nameIndex := 17, descriptorIndex := 18, attributes := #[] }, { accessFlags := 2, nameIndex := 21, descriptorIndex := 22, attributes := #[] }, { accessFlags := 2, nameIndex := 25, descriptorIndex := 26, attributes := #[] }, { accessFlags := 26, nameIndex := 1116, descriptorIndex := 1117, attributes := #[] }, { accessFlags := 24, nameIndex := 40, descriptorIndex := 26, attributes := #[] }, { accessFlags := 26, nameIndex := 1101, descriptorIndex := 1102, attributes := #[] }, { accessFlags := 26, nameIndex := 1121, descriptorIndex := 1122, attributes := #[] }, { accessFlags := 25, nameIndex := 599, descriptorIndex := 600, attributes := #[] }, { accessFlags := 24, nameIndex := 1125, descriptorIndex := 18, attributes := #[] }, { accessFlags := 24, nameIndex := 1127, descriptorIndex := 18, attributes := #[] }])
  fields := #[{ name := "value", type := (.array .byte), accessFlags := 18, slot := 0, constantValue := 0 }, { name := "coder", type := .byte, accessFlags := 18, slot := 1, constantValue := 0 }, { name := "hash", type := .int, accessFlags := 2, slot := 2, constantValue := 0 }, { name := "hashIsZero", type := .boolean, accessFlags := 2, slot := 3, constantValue := 0 }, { name := "serialVersionUID", type := .long, accessFlags := 26, slot := 0, constantValue := 0 }, { name := "COMPACT_STRINGS", type := .boolean, accessFlags := 24, slot := 1, constantValue := 0 }, { name := "serialPersistentFields", type := (.array (.object "java/io/ObjectStreamField")), accessFlags := 26, slot := 2, constantValue := 0 }, { name := "REPL", type := .char, accessFlags := 26, slot := 3, constantValue := 0 }, { name := "CASE_INSENSITIVE_ORDER", type := (.object "java/util/Comparator"), accessFlags := 25, slot := 4, constantValue := 0 }, { name := "LATIN1", type := .byte, accessFlags := 24, slot := 5, constantValue := 0 }, { name := "UTF16", type := .byte, accessFlags := 24, slot := 6, constantValue := 0 }]
  methods := #[k9m0]
  instanceTypes := #[(.array .byte), .byte, .int, .boolean]
  staticTypes := #[.long, .boolean, (.array (.object "java/io/ObjectStreamField")), .char, (.object "java/util/Comparator"), .byte, .byte]
  resolved := Array.replicate 1451 none
  statics := none }

def pool10 : Array CpInfo := pool [(1, u "java/lang/Cloneable"), (0, .class_ 1), (0, u "java/lang/Object"), (0, .class_ 3)] 3

/-- java/lang/Cloneable -/
def k10 : Class := { plain "java/lang/Cloneable" (some 0) with
  accessFlags := 1537
  interfaces := #[]
  cf := some (fileOf pool10 2 #[] #[] 1537 4 #[] #[])
  fields := #[]
  methods := #[]
  instanceTypes := #[]
  staticTypes := #[]
  resolved := Array.replicate 8 none
  statics := none }

/-- the primitive byte -/
def k11 : Class := { plain "byte" none with kind := .primitive 'B', accessFlags := 0x411 }
/-- [B -/
def k12 : Class := { plain "[B" (some 0) with kind := .array 11 .byte, interfaces := #[10, 4], accessFlags := 1041 }

/-- the primitive int -/
def k13 : Class := { plain "int" none with kind := .primitive 'I', accessFlags := 0x411 }
/-- [I -/
def k14 : Class := { plain "[I" (some 0) with kind := .array 13 .int, interfaces := #[10, 4], accessFlags := 1041 }

def heap : Heap := #[{ cls := 6, slots := #[.ref 1, .ref 8, .ref 3, .ref 2, .ref 6, .ref 12, .ref 11, .ref 4, .ref 7, .ref 10, .ref 9, .ref 5, .null, .null, .int 0, .null], vm := .statics 6 },
  { cls := 6, slots := #[.null, .int 0, .int 0, .null, .null, .null, .null, .null, .null, .ref 13], vm := .none },
  { cls := 6, slots := #[.null, .int 0, .int 0, .null, .null, .null, .null, .null, .null, .ref 14], vm := .none },
  { cls := 6, slots := #[.null, .int 0, .int 0, .null, .null, .null, .null, .null, .null, .ref 15], vm := .none },
  { cls := 6, slots := #[.null, .int 0, .int 0, .null, .null, .null, .null, .null, .null, .null], vm := .none },
  { cls := 6, slots := #[.null, .int 0, .int 0, .null, .null, .null, .null, .null, .null, .null], vm := .none },
  { cls := 6, slots := #[.null, .int 0, .int 0, .null, .null, .null, .null, .null, .null, .ref 16], vm := .none },
  { cls := 6, slots := #[.null, .int 0, .int 0, .null, .null, .null, .null, .null, .null, .null], vm := .none },
  { cls := 6, slots := #[.null, .int 0, .int 0, .null, .null, .null, .null, .null, .null, .ref 17], vm := .none },
  { cls := 6, slots := #[.null, .int 0, .int 0, .null, .null, .null, .null, .null, .null, .null], vm := .none },
  { cls := 6, slots := #[.null, .int 0, .int 0, .null, .null, .null, .null, .null, .null, .null], vm := .none },
  { cls := 6, slots := #[.null, .int 0, .int 0, .null, .null, .null, .null, .null, .null, .null], vm := .none },
  { cls := 6, slots := #[.null, .int 0, .int 0, .null, .null, .null, .null, .null, .null, .ref 18], vm := .none },
  { cls := 9, slots := #[.null, .int 0, .int 0, .int 0], vm := .none },
  { cls := 9, slots := #[.null, .int 0, .int 0, .int 0], vm := .none },
  { cls := 9, slots := #[.null, .int 0, .int 0, .int 0], vm := .none },
  { cls := 9, slots := #[.null, .int 0, .int 0, .int 0], vm := .none },
  { cls := 9, slots := #[.null, .int 0, .int 0, .int 0], vm := .none },
  { cls := 9, slots := #[.null, .int 0, .int 0, .int 0], vm := .none }]
def classes : Array Class := #[k0, k1, k2, k3, k4, k5, k6, k7, k8, k9, k10, k11, k12, k13, k14]
def interned : List (Array UInt16 × Addr) := []
def slotsUsed : Nat := 160
def theMethod : MethodId := ⟨1, 1⟩
def args0 : Array Value := #[.int 5]
def aboutOver (below : List Frame) : State where
  vm := { classes := classes, interned := interned.toArray }
  heap := heap
  slotsUsed := slotsUsed
  threads := #[{ frames := .invoking theMethod args0 :: below }]
def below0 : List Frame := [.native { method := ⟨0, 0⟩, args := #[] }]
def about1 : State := aboutOver below0
def p0 : Program := .bare "" "" ""
def e0 : Env := launch0.env 0 0 0
theorem w_frames : about1.frames = Frame.invoking theMethod args0 :: below0 := rfl
set_option maxRecDepth 65536 in
theorem w_args : argsFit about1.vm theMethod args0 = true := by decide +kernel
set_option maxRecDepth 65536 in
theorem w_heap : heapFits about1 = true := by decide +kernel
set_option maxRecDepth 65536 in
theorem w_runnable : about1.curStatus? = some .runnable := by decide +kernel
set_option maxRecDepth 65536 in
theorem w_alone : about1.alone = true := by decide +kernel
set_option maxRecDepth 65536 in
theorem w_named : about1.methodNamed? x = some theMethod := by decide +kernel
set_option maxRecDepth 65536 in
theorem w_hears : about1.hears theMethod below0 = true := by decide +kernel
set_option maxRecDepth 65536 in
theorem w_ripe : about1.ripe theMethod args0 below0 = true := by decide +kernel
theorem w_running : about1.status = .running := rfl
set_option maxRecDepth 65536 in
theorem w_room : about1.hasRoom e0.platform room_1 = true :=
  launch0.hasRoom_least _ room_1 (by decide +kernel) (by decide +kernel) (by decide +kernel) (by decide +kernel) (by decide +kernel) (by decide +kernel)
theorem allAtoms_all (ts : List Jvm.Cond) (a : Array Jvm.Value) (st : Jvm.State) : (allAtoms ts).before a st = ts.all (fun c => c.before a st) := by
  induction ts with
  | nil => rfl
  | cons c t ih =>
    show (Jvm.Cond.and c (allAtoms t)).before a st = _
    rw [Jvm.Cond.before_and, ih, List.all_cons]
def words1 : List Jvm.Cond := Jvm.Cond.code x code maxLocals ret :: tables_1
/-- a 'code' word, met by the world's own term for the bytes: nothing is compared byte by byte -/
theorem code_word {y : MethodName} {bytes : ByteArray} {mx : Nat} {rt : Option FieldType} {a : Array Value} {s : State} {m : MethodId} {meth : Method} {c : Code} (h1 : s.methodNamed? y = some m) (h2 : s.vm.method? m = some meth) (h3 : meth.code = some c) (h4 : c.code = bytes)
    (h5 : (c.maxLocals == mx && c.exceptionTable.isEmpty && decide (c.maxStack ≤ mostOperands) && decide (meth.sig.returnType = rt) && !meth.locks && decide (parseMethodDescriptor y.desc = some meth.sig)) = true) : (Jvm.Cond.code y bytes mx rt).before a s = true := by
  simp only [Bool.and_eq_true, beq_iff_eq, Bool.not_eq_true', decide_eq_true_eq] at h5
  obtain ⟨⟨⟨⟨⟨g1, g2⟩, g3⟩, g4⟩, g5⟩, g6⟩ := h5
  simp [Cond.before, Cond.holds, Cond.value, h1, h2, h3, h4, g1, g2, g3, g4, g5, g6]
def isCode : Jvm.Cond → Bool
  | .code _ _ _ _ => true
  | _ => false
theorem all_split {L : List Jvm.Cond} {P : Jvm.Cond → Bool} (h1 : L.all (fun c => isCode c || P c) = true) (h2 : ∀ c ∈ L.filter isCode, P c = true) : L.all P = true := by
  refine List.all_eq_true.mpr fun c hc => ?_
  have h := List.all_eq_true.mp h1 c hc
  rcases Bool.eq_false_or_eq_true (isCode c) with hi | hi
  · exact h2 c (List.mem_filter.mpr ⟨hc, hi⟩)
  · simpa [hi] using h
set_option maxRecDepth 65536 in
theorem w_c0 : (Jvm.Cond.code x code maxLocals ret).before args0 about1 = true := code_word (m := ⟨1, 1⟩) (meth := k1m1) (c := k1c1) (by decide +kernel) rfl rfl rfl (by decide +kernel)
set_option maxRecDepth 65536 in
theorem w_c1 : (Jvm.Cond.code ({ cls := "com/example/waymark/waymark/model/MatchingRuleHasSubstringsPinLaw", name := "rule", desc := "(I)Lcom/example/waymark/waymark/model/MatchingRule;" } : Jvm.MethodName) method_3_code (1 : Nat) (Option.some (Jvm.ClassFile.FieldType.object "com/example/waymark/waymark/model/MatchingRule"))).before args0 about1 = true := code_word (m := ⟨1, 2⟩) (meth := k1m2) (c := k1c2) (by decide +kernel) rfl rfl rfl (by decide +kernel)
set_option maxRecDepth 65536 in
theorem w_c2 : (Jvm.Cond.code ({ cls := "com/example/waymark/waymark/model/MatchingRuleHasSubstringsPinLaw", name := "documentedSubstrings", desc := "(I)Z" } : Jvm.MethodName) method_4_code (1 : Nat) (Option.some Jvm.ClassFile.FieldType.boolean)).before args0 about1 = true := code_word (m := ⟨1, 3⟩) (meth := k1m3) (c := k1c3) (by decide +kernel) rfl rfl rfl (by decide +kernel)
set_option maxRecDepth 65536 in
theorem w_c3 : (Jvm.Cond.code ({ cls := "com/example/waymark/waymark/model/MatchingRule", name := "hasSubstrings", desc := "()Z" } : Jvm.MethodName) prog_62_method_13_code (1 : Nat) (Option.some Jvm.ClassFile.FieldType.boolean)).before args0 about1 = true := code_word (m := ⟨6, 0⟩) (meth := k6m0) (c := k6c0) (by decide +kernel) rfl rfl rfl (by decide +kernel)
def codes1 : List Jvm.Cond := [Jvm.Cond.code x code maxLocals ret, Jvm.Cond.code ({ cls := "com/example/waymark/waymark/model/MatchingRuleHasSubstringsPinLaw", name := "rule", desc := "(I)Lcom/example/waymark/waymark/model/MatchingRule;" } : Jvm.MethodName) method_3_code (1 : Nat) (Option.some (Jvm.ClassFile.FieldType.object "com/example/waymark/waymark/model/MatchingRule")), Jvm.Cond.code ({ cls := "com/example/waymark/waymark/model/MatchingRuleHasSubstringsPinLaw", name := "documentedSubstrings", desc := "(I)Z" } : Jvm.MethodName) method_4_code (1 : Nat) (Option.some Jvm.ClassFile.FieldType.boolean), Jvm.Cond.code ({ cls := "com/example/waymark/waymark/model/MatchingRule", name := "hasSubstrings", desc := "()Z" } : Jvm.MethodName) prog_62_method_13_code (1 : Nat) (Option.some Jvm.ClassFile.FieldType.boolean)]
set_option maxRecDepth 65536 in
theorem codes_eq : words1.filter isCode = codes1 := rfl
theorem w_codes : ∀ c ∈ words1.filter isCode, c.before args0 about1 = true := by
  rw [codes_eq]
  intro c hc
  simp only [codes1, List.mem_cons, List.not_mem_nil, or_false] at hc
  rcases hc with rfl | rfl | rfl | rfl
  · exact w_c0
  · exact w_c1
  · exact w_c2
  · exact w_c3
set_option maxRecDepth 65536 in
theorem w_t1 : (words1.take 24).all (fun c => isCode c || c.before args0 about1) = true := by decide +kernel
set_option maxRecDepth 65536 in
theorem w_t2 : (words1.drop 24).all (fun c => isCode c || c.before args0 about1) = true := by decide +kernel
theorem w_tables : (allAtoms (Jvm.Cond.code x code maxLocals ret :: tables_1)).before args0 about1 = true := by
  rw [allAtoms_all]
  show words1.all (fun c => c.before args0 about1) = true
  refine all_split ?_ w_codes
  rw [← List.take_append_drop 24 words1, List.all_append, w_t1, w_t2]
  rfl
set_option maxRecDepth 65536 in
theorem w_case : (Jvm.Cond.and given_1 narrow_1).before args0 about1 = true := by decide +kernel
theorem w_applies : (headSpec (Jvm.Cond.code x code maxLocals ret :: tables_1) room_1).applies x e0.platform about1 = true :=
  (Spec.applies_iff w_frames).mpr ⟨w_running, w_runnable, w_alone, w_named, w_hears, w_ripe, w_room, w_tables⟩
theorem atStart : AtStart classFile x code maxLocals ret World_1 tables_1 room_1 Calls_1 rest_1 Pre_1 launch0 p0 e0 about1 theMethod args0 below0 :=
  ⟨lists_1, trivial, launch0.admits_env _ _ _, launch0.least_env, fairChoices_fair.cas, fairChoices_fair.clock, w_frames, w_args, w_heap, w_applies, trivial, trivial, w_case⟩
end start1
theorem witness_1 : WitnessClaimed_1 := ⟨start1.p0, start1.e0, start1.about1, start1.theMethod, start1.args0, start1.below0, start1.atStart⟩
end Jvm.Pilot.@@N@@
