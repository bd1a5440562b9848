import JvmDerived
import JvmDerived.Pilot.@@N@@Statement
import JvmDerived.Pilot.@@N@@Code
set_option linter.unusedVariables false
set_option linter.unusedSimpArgs false

namespace Jvm.OwnKit
open Sem ClassFile Op Lib Jvm.Stand Jvm.Free Jvm.LawKit Jvm.RoadKit
section Kit
variable {p : Program} {l : Launch} {e : Env} {R : Room} {s : State} {m : MethodId} {args : Array Value} {below : List Frame} {meth : Method} {c : Code} {T : State} {locs : List Loc} {cells slots : Nat} {Z : State} {a0 : Array Value} {h : Heap} {own nm : String} {bytes : ByteArray} {maxL : Nat} {ret : Option FieldType} {P : Outcome → State → Prop} {pc pc' : Nat} {Ls Ls' : Array Slot} {rest : List Value}
/-- from here the run ends, and P holds of its end -/
def Go (p : Program) (e : Env) (below : List Frame) (P : Outcome → State → Prop) (T0 : State) : Prop := ∃ t o, Steps p.tables e below T0 t ∧ t.status = .running ∧ Ended t below o ∧ P o t
theorem Go.on {T1 T2 : State} (st : ∀ t, Steps p.tables e below T2 t → Steps p.tables e below T1 t) (k : Go p e below P T2) : Go p e below P T1 := by
  obtain ⟨t, o, h1, h2⟩ := k; exact ⟨t, o, st t h1, h2⟩
/-- what a walk knows of the method that it walks -/
def Ctx (p : Program) (s : State) (m : MethodId) (meth : Method) (c : Code) (Z : State) (own nm : String) (bytes : ByteArray) (maxL : Nat) (ret : Option FieldType) : Prop :=
  p.tables.exec = Jvm.exec ∧ c.code = bytes ∧ c.maxLocals = maxL ∧ s.vm.findClass own = some m.cls ∧ meth.name = nm ∧ meth.sig.returnType = ret ∧ meth.locks = false ∧ Z.Warmed39 s.vm
/-- what a body's end says -/
def Ends (s : State) (Q : Option Value → Heap → List Loc → Prop) (k n : Nat) (o : Outcome) (t : State) : Prop := ∃ v L, o = .returned v ∧ Q v t.heap L ∧ FrameEnd s o t L k n
/-- a contract: called with the arguments 'as' at the heap h0 it returns as Q says -/
abbrev OMeets (l : Launch) (Z : State) (y : MethodName) (bytes : ByteArray) (maxL : Nat) (ret : Option FieldType) (ws : List Jvm.Cond) (rm : Room) (as : Array Value) (h0 : Heap) (Q : Option Value → Heap → List Loc → Prop) : Prop :=
  MetFree l y (head1 (Jvm.Cond.code y bytes maxL ret :: ws) rm) (fun a U => a = as ∧ Z.Warmed39 U.vm ∧ U.heap = h0) (fun _ _ _ _ _ => True) (fun _ U o U' => ∃ v L, o = .returned v ∧ Q v U'.heap L ∧ FrameEnd U o U' L rm.cells rm.slots)
/-- it returns r, writes nothing and makes nothing -/
def PureQ (r : Option Value) (h0 : Heap) (v : Option Value) (h : Heap) (L : List Loc) : Prop := v = r ∧ L = [] ∧ h = h0
theorem OMeets.of {y : MethodName} {ws : List Jvm.Cond} {rm : Room} {as : Array Value} {h0 : Heap} {Q : Option Value → Heap → List Loc → Prop} (hpn : plainName y.cls = true) (ls : Array Slot) (hent : ∀ m, entryFrame m as maxL = mkF m 0 ls [])
    (body : ∀ p e s m below meth c s₁, Ctx p s m meth c Z y.cls y.name bytes maxL ret → Stand p l e rm s m as below meth c s₁ [] 0 0 → s₁.heap = h0 → Go p e below (Ends s Q rm.cells rm.slots) (s₁.setTop (mkF m 0 ls []))) : OMeets l Z y bytes maxL ret ws rm as h0 Q := by
  refine MetFree.of_bodySF (plainFor_of_name hpn) hisR ?_
  intro p e s m args below meth c s₁ Bd hml0 hP hK
  obtain ⟨rfl, hZ, hh⟩ := hP
  have e0 : s₁.heap = h0 := by rw [← hh, Bd.state]; rfl
  have X0 := Stand.of_body Bd
  have B : Ctx p s m meth c Z y.cls y.name bytes maxL ret := ⟨Bd.exec, Bd.bytes, hml0, findClass_of_methodNamed Bd.named, (name_of_methodNamed Bd.named Bd.method).1, Bd.returns, Bd.notSynchronized, hZ⟩
  obtain ⟨t, o, h1, h2, h3, h4⟩ := body p e s m below meth c s₁ B X0 e0
  exact ⟨t, o, castTop (hent m) h1, h2, h3, h4⟩
/-! the single steps -/

theorem s_iloadN (B : Ctx p s m meth c Z own nm bytes maxL ret) (X : Stand p l e R s m args below meth c T locs cells slots) {k0 : Fin 4} {v : Int32} (hd : decode bytes pc = .ok (.iload_n k0, 1)) (hl : Ls[k0.val]? = some (.val (.int v))) (hp : pc + 1 = pc') (k : Go p e below P (T.setTop (mkF m pc' Ls (.int v :: rest)))) : Go p e below P (T.setTop (mkF m pc Ls (rest))) := by
  subst hp; exact Go.on (fun t => XS.iloadN X.here B.1 rfl (hb B.2.1 hd) hl) k
theorem s_iload (B : Ctx p s m meth c Z own nm bytes maxL ret) (X : Stand p l e R s m args below meth c T locs cells slots) {k0 : Nat} {v : Int32} (hd : decode bytes pc = .ok (.iload k0, 2)) (hl : Ls[k0]? = some (.val (.int v))) (hp : pc + 2 = pc') (k : Go p e below P (T.setTop (mkF m pc' Ls (.int v :: rest)))) : Go p e below P (T.setTop (mkF m pc Ls (rest))) := by
  subst hp; exact Go.on (fun t => XS.iload X.here B.1 rfl (hb B.2.1 hd) hl) k
theorem s_istoreN (B : Ctx p s m meth c Z own nm bytes maxL ret) (X : Stand p l e R s m args below meth c T locs cells slots) {k0 : Fin 4} {v : Int32} (hd : decode bytes pc = .ok (.istore_n k0, 1)) (hl : storeLocals Ls k0.val (.int v) = some Ls') (hp : pc + 1 = pc') (k : Go p e below P (T.setTop (mkF m pc' Ls' (rest)))) : Go p e below P (T.setTop (mkF m pc Ls (.int v :: rest))) := by
  subst hp; exact Go.on (fun t => XS.istoreN X.here B.1 rfl (hb B.2.1 hd) rfl hl) k
theorem s_istore (B : Ctx p s m meth c Z own nm bytes maxL ret) (X : Stand p l e R s m args below meth c T locs cells slots) {k0 : Nat} {v : Int32} (hd : decode bytes pc = .ok (.istore k0, 2)) (hl : storeLocals Ls k0 (.int v) = some Ls') (hp : pc + 2 = pc') (k : Go p e below P (T.setTop (mkF m pc' Ls' (rest)))) : Go p e below P (T.setTop (mkF m pc Ls (.int v :: rest))) := by
  subst hp; exact Go.on (fun t => XS.istore X.here B.1 rfl (hb B.2.1 hd) rfl hl) k
theorem s_lloadN (B : Ctx p s m meth c Z own nm bytes maxL ret) (X : Stand p l e R s m args below meth c T locs cells slots) {k0 : Fin 4} {v : Int64} (hd : decode bytes pc = .ok (.lload_n k0, 1)) (hl : Ls[k0.val]? = some (.val (.long v))) (hp : pc + 1 = pc') (k : Go p e below P (T.setTop (mkF m pc' Ls (.long v :: rest)))) : Go p e below P (T.setTop (mkF m pc Ls (rest))) := by
  subst hp; exact Go.on (fun t => XS.lloadN X.here B.1 rfl (hb B.2.1 hd) hl) k
theorem s_lload (B : Ctx p s m meth c Z own nm bytes maxL ret) (X : Stand p l e R s m args below meth c T locs cells slots) {k0 : Nat} {v : Int64} (hd : decode bytes pc = .ok (.lload k0, 2)) (hl : Ls[k0]? = some (.val (.long v))) (hp : pc + 2 = pc') (k : Go p e below P (T.setTop (mkF m pc' Ls (.long v :: rest)))) : Go p e below P (T.setTop (mkF m pc Ls (rest))) := by
  subst hp; exact Go.on (fun t => XS.lload X.here B.1 rfl (hb B.2.1 hd) hl) k
theorem s_lstoreN (B : Ctx p s m meth c Z own nm bytes maxL ret) (X : Stand p l e R s m args below meth c T locs cells slots) {k0 : Fin 4} {v : Int64} (hd : decode bytes pc = .ok (.lstore_n k0, 1)) (hl : storeLocals Ls k0.val (.long v) = some Ls') (hp : pc + 1 = pc') (k : Go p e below P (T.setTop (mkF m pc' Ls' (rest)))) : Go p e below P (T.setTop (mkF m pc Ls (.long v :: rest))) := by
  subst hp; exact Go.on (fun t => XS.lstoreN X.here B.1 rfl (hb B.2.1 hd) rfl hl) k
theorem s_lstore (B : Ctx p s m meth c Z own nm bytes maxL ret) (X : Stand p l e R s m args below meth c T locs cells slots) {k0 : Nat} {v : Int64} (hd : decode bytes pc = .ok (.lstore k0, 2)) (hl : storeLocals Ls k0 (.long v) = some Ls') (hp : pc + 2 = pc') (k : Go p e below P (T.setTop (mkF m pc' Ls' (rest)))) : Go p e below P (T.setTop (mkF m pc Ls (.long v :: rest))) := by
  subst hp; exact Go.on (fun t => XS.lstore X.here B.1 rfl (hb B.2.1 hd) rfl hl) k
theorem s_aloadN (B : Ctx p s m meth c Z own nm bytes maxL ret) (X : Stand p l e R s m args below meth c T locs cells slots) {k0 : Fin 4} {v : Value} (hd : decode bytes pc = .ok (.aload_n k0, 1)) (hl : Ls[k0.val]? = some (.val v)) (hv : v.isRef = true) (hp : pc + 1 = pc') (k : Go p e below P (T.setTop (mkF m pc' Ls (v :: rest)))) : Go p e below P (T.setTop (mkF m pc Ls (rest))) := by
  subst hp; exact Go.on (fun t => XS.aloadN X.here B.1 rfl (hb B.2.1 hd) hl hv) k
theorem s_aload (B : Ctx p s m meth c Z own nm bytes maxL ret) (X : Stand p l e R s m args below meth c T locs cells slots) {k0 : Nat} {v : Value} (hd : decode bytes pc = .ok (.aload k0, 2)) (hl : Ls[k0]? = some (.val v)) (hv : v.isRef = true) (hp : pc + 2 = pc') (k : Go p e below P (T.setTop (mkF m pc' Ls (v :: rest)))) : Go p e below P (T.setTop (mkF m pc Ls (rest))) := by
  subst hp; exact Go.on (fun t => XS.aload X.here B.1 rfl (hb B.2.1 hd) hl hv) k
theorem s_astoreN (B : Ctx p s m meth c Z own nm bytes maxL ret) (X : Stand p l e R s m args below meth c T locs cells slots) {k0 : Fin 4} {v : Value} (hd : decode bytes pc = .ok (.astore_n k0, 1)) (hv : v.isRef = true) (hl : storeLocals Ls k0.val v = some Ls') (hp : pc + 1 = pc') (k : Go p e below P (T.setTop (mkF m pc' Ls' (rest)))) : Go p e below P (T.setTop (mkF m pc Ls (v :: rest))) := by
  subst hp; exact Go.on (fun t => XS.astoreN X.here B.1 rfl (hb B.2.1 hd) rfl hv hl) k
theorem s_astore (B : Ctx p s m meth c Z own nm bytes maxL ret) (X : Stand p l e R s m args below meth c T locs cells slots) {k0 : Nat} {v : Value} (hd : decode bytes pc = .ok (.astore k0, 2)) (hv : v.isRef = true) (hl : storeLocals Ls k0 v = some Ls') (hp : pc + 2 = pc') (k : Go p e below P (T.setTop (mkF m pc' Ls' (rest)))) : Go p e below P (T.setTop (mkF m pc Ls (v :: rest))) := by
  subst hp; exact Go.on (fun t => XS.astore X.here B.1 rfl (hb B.2.1 hd) rfl hv hl) k
theorem s_iconst (B : Ctx p s m meth c Z own nm bytes maxL ret) (X : Stand p l e R s m args below meth c T locs cells slots) {i : Int} {v : Int32} (hd : decode bytes pc = .ok (.iconst i, 1)) (hv : Int32.ofInt i = v) (hp : pc + 1 = pc') (k : Go p e below P (T.setTop (mkF m pc' Ls (.int v :: rest)))) : Go p e below P (T.setTop (mkF m pc Ls (rest))) := by
  subst hp; subst hv; exact Go.on (fun t => XS.iconst X.here B.1 rfl (hb B.2.1 hd)) k
theorem s_bipush (B : Ctx p s m meth c Z own nm bytes maxL ret) (X : Stand p l e R s m args below meth c T locs cells slots) {i : Int} {v : Int32} (hd : decode bytes pc = .ok (.bipush i, 2)) (hv : (Int8.ofInt i).toInt32 = v) (hp : pc + 2 = pc') (k : Go p e below P (T.setTop (mkF m pc' Ls (.int v :: rest)))) : Go p e below P (T.setTop (mkF m pc Ls (rest))) := by
  subst hp; subst hv; exact Go.on (fun t => XS.bipush X.here B.1 rfl (hb B.2.1 hd)) k
theorem s_sipush (B : Ctx p s m meth c Z own nm bytes maxL ret) (X : Stand p l e R s m args below meth c T locs cells slots) {i : Int} {v : Int32} (hd : decode bytes pc = .ok (.sipush i, 3)) (hv : (Int16.ofInt i).toInt32 = v) (hp : pc + 3 = pc') (k : Go p e below P (T.setTop (mkF m pc' Ls (.int v :: rest)))) : Go p e below P (T.setTop (mkF m pc Ls (rest))) := by
  subst hp; subst hv; exact Go.on (fun t => XS.sipush X.here B.1 rfl (hb B.2.1 hd)) k
theorem s_lconst (B : Ctx p s m meth c Z own nm bytes maxL ret) (X : Stand p l e R s m args below meth c T locs cells slots) {i : Fin 2} {v : Int64} (hd : decode bytes pc = .ok (.lconst i, 1)) (hv : Int64.ofNat i = v) (hp : pc + 1 = pc') (k : Go p e below P (T.setTop (mkF m pc' Ls (.long v :: rest)))) : Go p e below P (T.setTop (mkF m pc Ls (rest))) := by
  subst hp; subst hv; exact Go.on (fun t => XS.lconst X.here B.1 rfl (hb B.2.1 hd)) k
theorem s_aconst_null (B : Ctx p s m meth c Z own nm bytes maxL ret) (X : Stand p l e R s m args below meth c T locs cells slots)  (hd : decode bytes pc = .ok (.aconst_null, 1))  (hp : pc + 1 = pc') (k : Go p e below P (T.setTop (mkF m pc' Ls (.null :: rest)))) : Go p e below P (T.setTop (mkF m pc Ls (rest))) := by
  subst hp; exact Go.on (fun t => XS.aconstNull X.here B.1 rfl (hb B.2.1 hd)) k
theorem s_iadd (B : Ctx p s m meth c Z own nm bytes maxL ret) (X : Stand p l e R s m args below meth c T locs cells slots) {x : Int32} {y : Int32} {v : Int32} (hd : decode bytes pc = .ok (.iadd, 1)) (hv : x + y = v)  (hp : pc + 1 = pc') (k : Go p e below P (T.setTop (mkF m pc' Ls (.int v :: rest)))) : Go p e below P (T.setTop (mkF m pc Ls (.int y :: .int x :: rest))) := by
  subst hp; subst hv; exact Go.on (fun t => XS.iadd X.here B.1 rfl (hb B.2.1 hd) rfl ) k
theorem s_isub (B : Ctx p s m meth c Z own nm bytes maxL ret) (X : Stand p l e R s m args below meth c T locs cells slots) {x : Int32} {y : Int32} {v : Int32} (hd : decode bytes pc = .ok (.isub, 1)) (hv : x - y = v)  (hp : pc + 1 = pc') (k : Go p e below P (T.setTop (mkF m pc' Ls (.int v :: rest)))) : Go p e below P (T.setTop (mkF m pc Ls (.int y :: .int x :: rest))) := by
  subst hp; subst hv; exact Go.on (fun t => XS.isub X.here B.1 rfl (hb B.2.1 hd) rfl ) k
theorem s_imul (B : Ctx p s m meth c Z own nm bytes maxL ret) (X : Stand p l e R s m args below meth c T locs cells slots) {x : Int32} {y : Int32} {v : Int32} (hd : decode bytes pc = .ok (.imul, 1)) (hv : x * y = v)  (hp : pc + 1 = pc') (k : Go p e below P (T.setTop (mkF m pc' Ls (.int v :: rest)))) : Go p e below P (T.setTop (mkF m pc Ls (.int y :: .int x :: rest))) := by
  subst hp; subst hv; exact Go.on (fun t => XS.imul X.here B.1 rfl (hb B.2.1 hd) rfl ) k
theorem s_iand (B : Ctx p s m meth c Z own nm bytes maxL ret) (X : Stand p l e R s m args below meth c T locs cells slots) {x : Int32} {y : Int32} {v : Int32} (hd : decode bytes pc = .ok (.iand, 1)) (hv : x &&& y = v)  (hp : pc + 1 = pc') (k : Go p e below P (T.setTop (mkF m pc' Ls (.int v :: rest)))) : Go p e below P (T.setTop (mkF m pc Ls (.int y :: .int x :: rest))) := by
  subst hp; subst hv; exact Go.on (fun t => XS.iand X.here B.1 rfl (hb B.2.1 hd) rfl ) k
theorem s_ior (B : Ctx p s m meth c Z own nm bytes maxL ret) (X : Stand p l e R s m args below meth c T locs cells slots) {x : Int32} {y : Int32} {v : Int32} (hd : decode bytes pc = .ok (.ior, 1)) (hv : x ||| y = v)  (hp : pc + 1 = pc') (k : Go p e below P (T.setTop (mkF m pc' Ls (.int v :: rest)))) : Go p e below P (T.setTop (mkF m pc Ls (.int y :: .int x :: rest))) := by
  subst hp; subst hv; exact Go.on (fun t => XS.ior X.here B.1 rfl (hb B.2.1 hd) rfl ) k
theorem s_ixor (B : Ctx p s m meth c Z own nm bytes maxL ret) (X : Stand p l e R s m args below meth c T locs cells slots) {x : Int32} {y : Int32} {v : Int32} (hd : decode bytes pc = .ok (.ixor, 1)) (hv : x ^^^ y = v)  (hp : pc + 1 = pc') (k : Go p e below P (T.setTop (mkF m pc' Ls (.int v :: rest)))) : Go p e below P (T.setTop (mkF m pc Ls (.int y :: .int x :: rest))) := by
  subst hp; subst hv; exact Go.on (fun t => XS.ixor X.here B.1 rfl (hb B.2.1 hd) rfl ) k
theorem s_ladd (B : Ctx p s m meth c Z own nm bytes maxL ret) (X : Stand p l e R s m args below meth c T locs cells slots) {x : Int64} {y : Int64} {v : Int64} (hd : decode bytes pc = .ok (.ladd, 1)) (hv : x + y = v)  (hp : pc + 1 = pc') (k : Go p e below P (T.setTop (mkF m pc' Ls (.long v :: rest)))) : Go p e below P (T.setTop (mkF m pc Ls (.long y :: .long x :: rest))) := by
  subst hp; subst hv; exact Go.on (fun t => XS.ladd X.here B.1 rfl (hb B.2.1 hd) rfl ) k
theorem s_lsub (B : Ctx p s m meth c Z own nm bytes maxL ret) (X : Stand p l e R s m args below meth c T locs cells slots) {x : Int64} {y : Int64} {v : Int64} (hd : decode bytes pc = .ok (.lsub, 1)) (hv : x - y = v)  (hp : pc + 1 = pc') (k : Go p e below P (T.setTop (mkF m pc' Ls (.long v :: rest)))) : Go p e below P (T.setTop (mkF m pc Ls (.long y :: .long x :: rest))) := by
  subst hp; subst hv; exact Go.on (fun t => XS.lsub X.here B.1 rfl (hb B.2.1 hd) rfl ) k
theorem s_lmul (B : Ctx p s m meth c Z own nm bytes maxL ret) (X : Stand p l e R s m args below meth c T locs cells slots) {x : Int64} {y : Int64} {v : Int64} (hd : decode bytes pc = .ok (.lmul, 1)) (hv : x * y = v)  (hp : pc + 1 = pc') (k : Go p e below P (T.setTop (mkF m pc' Ls (.long v :: rest)))) : Go p e below P (T.setTop (mkF m pc Ls (.long y :: .long x :: rest))) := by
  subst hp; subst hv; exact Go.on (fun t => XS.lmul X.here B.1 rfl (hb B.2.1 hd) rfl ) k
theorem s_land (B : Ctx p s m meth c Z own nm bytes maxL ret) (X : Stand p l e R s m args below meth c T locs cells slots) {x : Int64} {y : Int64} {v : Int64} (hd : decode bytes pc = .ok (.land, 1)) (hv : x &&& y = v)  (hp : pc + 1 = pc') (k : Go p e below P (T.setTop (mkF m pc' Ls (.long v :: rest)))) : Go p e below P (T.setTop (mkF m pc Ls (.long y :: .long x :: rest))) := by
  subst hp; subst hv; exact Go.on (fun t => XS.land X.here B.1 rfl (hb B.2.1 hd) rfl ) k
theorem s_lor (B : Ctx p s m meth c Z own nm bytes maxL ret) (X : Stand p l e R s m args below meth c T locs cells slots) {x : Int64} {y : Int64} {v : Int64} (hd : decode bytes pc = .ok (.lor, 1)) (hv : x ||| y = v)  (hp : pc + 1 = pc') (k : Go p e below P (T.setTop (mkF m pc' Ls (.long v :: rest)))) : Go p e below P (T.setTop (mkF m pc Ls (.long y :: .long x :: rest))) := by
  subst hp; subst hv; exact Go.on (fun t => XS.lor X.here B.1 rfl (hb B.2.1 hd) rfl ) k
theorem s_lxor (B : Ctx p s m meth c Z own nm bytes maxL ret) (X : Stand p l e R s m args below meth c T locs cells slots) {x : Int64} {y : Int64} {v : Int64} (hd : decode bytes pc = .ok (.lxor, 1)) (hv : x ^^^ y = v)  (hp : pc + 1 = pc') (k : Go p e below P (T.setTop (mkF m pc' Ls (.long v :: rest)))) : Go p e below P (T.setTop (mkF m pc Ls (.long y :: .long x :: rest))) := by
  subst hp; subst hv; exact Go.on (fun t => XS.lxor X.here B.1 rfl (hb B.2.1 hd) rfl ) k
theorem s_idiv (B : Ctx p s m meth c Z own nm bytes maxL ret) (X : Stand p l e R s m args below meth c T locs cells slots) {x : Int32} {y : Int32} {v : Int32} (hd : decode bytes pc = .ok (.idiv, 1)) (hv : x / y = v) (hy : y ≠ 0) (hp : pc + 1 = pc') (k : Go p e below P (T.setTop (mkF m pc' Ls (.int v :: rest)))) : Go p e below P (T.setTop (mkF m pc Ls (.int y :: .int x :: rest))) := by
  subst hp; subst hv; exact Go.on (fun t => XS.idiv X.here B.1 rfl (hb B.2.1 hd) rfl hy) k
theorem s_ldiv (B : Ctx p s m meth c Z own nm bytes maxL ret) (X : Stand p l e R s m args below meth c T locs cells slots) {x : Int64} {y : Int64} {v : Int64} (hd : decode bytes pc = .ok (.ldiv, 1)) (hv : x / y = v) (hy : y ≠ 0) (hp : pc + 1 = pc') (k : Go p e below P (T.setTop (mkF m pc' Ls (.long v :: rest)))) : Go p e below P (T.setTop (mkF m pc Ls (.long y :: .long x :: rest))) := by
  subst hp; subst hv; exact Go.on (fun t => XS.ldiv X.here B.1 rfl (hb B.2.1 hd) rfl hy) k
theorem s_irem (B : Ctx p s m meth c Z own nm bytes maxL ret) (X : Stand p l e R s m args below meth c T locs cells slots) {x y v : Int32} (hd : decode bytes pc = .ok (.irem, 1)) (hv : x % y = v) (hy : y ≠ 0) (hp : pc + 1 = pc') (k : Go p e below P (T.setTop (mkF m pc' Ls (.int v :: rest)))) : Go p e below P (T.setTop (mkF m pc Ls (.int y :: .int x :: rest))) := by
  subst hp; subst hv; exact Go.on (fun t => iremM X B.1 rfl (hb B.2.1 hd) rfl hy) k
theorem s_ishl (B : Ctx p s m meth c Z own nm bytes maxL ret) (X : Stand p l e R s m args below meth c T locs cells slots) {x : Int32} {y : Int32} {v : Int32} (hd : decode bytes pc = .ok (.ishl, 1)) (hv : x <<< (y &&& 31) = v)  (hp : pc + 1 = pc') (k : Go p e below P (T.setTop (mkF m pc' Ls (.int v :: rest)))) : Go p e below P (T.setTop (mkF m pc Ls (.int y :: .int x :: rest))) := by
  subst hp; subst hv; exact Go.on (fun t => XS.ishl X.here B.1 rfl (hb B.2.1 hd) rfl ) k
theorem s_ishr (B : Ctx p s m meth c Z own nm bytes maxL ret) (X : Stand p l e R s m args below meth c T locs cells slots) {x : Int32} {y : Int32} {v : Int32} (hd : decode bytes pc = .ok (.ishr, 1)) (hv : x >>> (y &&& 31) = v)  (hp : pc + 1 = pc') (k : Go p e below P (T.setTop (mkF m pc' Ls (.int v :: rest)))) : Go p e below P (T.setTop (mkF m pc Ls (.int y :: .int x :: rest))) := by
  subst hp; subst hv; exact Go.on (fun t => XS.ishr X.here B.1 rfl (hb B.2.1 hd) rfl ) k
theorem s_iushr (B : Ctx p s m meth c Z own nm bytes maxL ret) (X : Stand p l e R s m args below meth c T locs cells slots) {x : Int32} {y : Int32} {v : Int32} (hd : decode bytes pc = .ok (.iushr, 1)) (hv : (x.toUInt32 >>> (y &&& 31).toUInt32).toInt32 = v)  (hp : pc + 1 = pc') (k : Go p e below P (T.setTop (mkF m pc' Ls (.int v :: rest)))) : Go p e below P (T.setTop (mkF m pc Ls (.int y :: .int x :: rest))) := by
  subst hp; subst hv; exact Go.on (fun t => XS.iushr X.here B.1 rfl (hb B.2.1 hd) rfl ) k
theorem s_lshl (B : Ctx p s m meth c Z own nm bytes maxL ret) (X : Stand p l e R s m args below meth c T locs cells slots) {x : Int64} {y : Int32} {v : Int64} (hd : decode bytes pc = .ok (.lshl, 1)) (hv : x <<< (y &&& 0x3f).toInt64 = v)  (hp : pc + 1 = pc') (k : Go p e below P (T.setTop (mkF m pc' Ls (.long v :: rest)))) : Go p e below P (T.setTop (mkF m pc Ls (.int y :: .long x :: rest))) := by
  subst hp; subst hv; exact Go.on (fun t => XS.lshl X.here B.1 rfl (hb B.2.1 hd) rfl ) k
theorem s_lshr (B : Ctx p s m meth c Z own nm bytes maxL ret) (X : Stand p l e R s m args below meth c T locs cells slots) {x : Int64} {y : Int32} {v : Int64} (hd : decode bytes pc = .ok (.lshr, 1)) (hv : x >>> (y &&& 0x3f).toInt64 = v)  (hp : pc + 1 = pc') (k : Go p e below P (T.setTop (mkF m pc' Ls (.long v :: rest)))) : Go p e below P (T.setTop (mkF m pc Ls (.int y :: .long x :: rest))) := by
  subst hp; subst hv; exact Go.on (fun t => XS.lshr X.here B.1 rfl (hb B.2.1 hd) rfl ) k
theorem s_lushr (B : Ctx p s m meth c Z own nm bytes maxL ret) (X : Stand p l e R s m args below meth c T locs cells slots) {x : Int64} {y : Int32} {v : Int64} (hd : decode bytes pc = .ok (.lushr, 1)) (hv : (x.toUInt64 >>> (y &&& 0x3f).toInt64.toUInt64).toInt64 = v)  (hp : pc + 1 = pc') (k : Go p e below P (T.setTop (mkF m pc' Ls (.long v :: rest)))) : Go p e below P (T.setTop (mkF m pc Ls (.int y :: .long x :: rest))) := by
  subst hp; subst hv; exact Go.on (fun t => XS.lushr X.here B.1 rfl (hb B.2.1 hd) rfl ) k
theorem s_i2b (B : Ctx p s m meth c Z own nm bytes maxL ret) (X : Stand p l e R s m args below meth c T locs cells slots) {x : Int32} {v : Int32} (hd : decode bytes pc = .ok (.i2b, 1)) (hv : x.toInt8.toInt32 = v) (hp : pc + 1 = pc') (k : Go p e below P (T.setTop (mkF m pc' Ls (.int v :: rest)))) : Go p e below P (T.setTop (mkF m pc Ls (.int x :: rest))) := by
  subst hp; subst hv; exact Go.on (fun t => XS.i2b X.here B.1 rfl (hb B.2.1 hd) rfl) k
theorem s_i2c (B : Ctx p s m meth c Z own nm bytes maxL ret) (X : Stand p l e R s m args below meth c T locs cells slots) {x : Int32} {v : Int32} (hd : decode bytes pc = .ok (.i2c, 1)) (hv : x.toUInt32.toUInt16.toUInt32.toInt32 = v) (hp : pc + 1 = pc') (k : Go p e below P (T.setTop (mkF m pc' Ls (.int v :: rest)))) : Go p e below P (T.setTop (mkF m pc Ls (.int x :: rest))) := by
  subst hp; subst hv; exact Go.on (fun t => XS.i2c X.here B.1 rfl (hb B.2.1 hd) rfl) k
theorem s_i2s (B : Ctx p s m meth c Z own nm bytes maxL ret) (X : Stand p l e R s m args below meth c T locs cells slots) {x : Int32} {v : Int32} (hd : decode bytes pc = .ok (.i2s, 1)) (hv : x.toInt16.toInt32 = v) (hp : pc + 1 = pc') (k : Go p e below P (T.setTop (mkF m pc' Ls (.int v :: rest)))) : Go p e below P (T.setTop (mkF m pc Ls (.int x :: rest))) := by
  subst hp; subst hv; exact Go.on (fun t => XS.i2s X.here B.1 rfl (hb B.2.1 hd) rfl) k
theorem s_i2l (B : Ctx p s m meth c Z own nm bytes maxL ret) (X : Stand p l e R s m args below meth c T locs cells slots) {x : Int32} {v : Int64} (hd : decode bytes pc = .ok (.i2l, 1)) (hv : x.toInt64 = v) (hp : pc + 1 = pc') (k : Go p e below P (T.setTop (mkF m pc' Ls (.long v :: rest)))) : Go p e below P (T.setTop (mkF m pc Ls (.int x :: rest))) := by
  subst hp; subst hv; exact Go.on (fun t => XS.i2l X.here B.1 rfl (hb B.2.1 hd) rfl) k
theorem s_l2i (B : Ctx p s m meth c Z own nm bytes maxL ret) (X : Stand p l e R s m args below meth c T locs cells slots) {x : Int64} {v : Int32} (hd : decode bytes pc = .ok (.l2i, 1)) (hv : x.toInt32 = v) (hp : pc + 1 = pc') (k : Go p e below P (T.setTop (mkF m pc' Ls (.int v :: rest)))) : Go p e below P (T.setTop (mkF m pc Ls (.long x :: rest))) := by
  subst hp; subst hv; exact Go.on (fun t => XS.l2i X.here B.1 rfl (hb B.2.1 hd) rfl) k
theorem s_ineg (B : Ctx p s m meth c Z own nm bytes maxL ret) (X : Stand p l e R s m args below meth c T locs cells slots) {x : Int32} {v : Int32} (hd : decode bytes pc = .ok (.ineg, 1)) (hv : -x = v) (hp : pc + 1 = pc') (k : Go p e below P (T.setTop (mkF m pc' Ls (.int v :: rest)))) : Go p e below P (T.setTop (mkF m pc Ls (.int x :: rest))) := by
  subst hp; subst hv; exact Go.on (fun t => XS.ineg X.here B.1 rfl (hb B.2.1 hd) rfl) k
theorem s_lneg (B : Ctx p s m meth c Z own nm bytes maxL ret) (X : Stand p l e R s m args below meth c T locs cells slots) {x : Int64} {v : Int64} (hd : decode bytes pc = .ok (.lneg, 1)) (hv : -x = v) (hp : pc + 1 = pc') (k : Go p e below P (T.setTop (mkF m pc' Ls (.long v :: rest)))) : Go p e below P (T.setTop (mkF m pc Ls (.long x :: rest))) := by
  subst hp; subst hv; exact Go.on (fun t => XS.lneg X.here B.1 rfl (hb B.2.1 hd) rfl) k
theorem s_lcmp (B : Ctx p s m meth c Z own nm bytes maxL ret) (X : Stand p l e R s m args below meth c T locs cells slots) {x y : Int64} (hd : decode bytes pc = .ok (.lcmp, 1))  (hp : pc + 1 = pc') (k : Go p e below P (T.setTop (mkF m pc' Ls (.int (lcmpW x y) :: rest)))) : Go p e below P (T.setTop (mkF m pc Ls (.long y :: .long x :: rest))) := by
  subst hp; exact Go.on (fun t => XS.lcmp X.here B.1 rfl (hb B.2.1 hd) rfl) k
theorem s_dup (B : Ctx p s m meth c Z own nm bytes maxL ret) (X : Stand p l e R s m args below meth c T locs cells slots) {v : Value} (hd : decode bytes pc = .ok (.dup, 1)) (hc : v.category = 1) (hp : pc + 1 = pc') (k : Go p e below P (T.setTop (mkF m pc' Ls (v :: v :: rest)))) : Go p e below P (T.setTop (mkF m pc Ls (v :: rest))) := by
  subst hp; exact Go.on (fun t => XS.dup X.here B.1 rfl (hb B.2.1 hd) rfl hc) k
theorem s_pop (B : Ctx p s m meth c Z own nm bytes maxL ret) (X : Stand p l e R s m args below meth c T locs cells slots) {v : Value} (hd : decode bytes pc = .ok (.pop, 1)) (hc : v.category = 1) (hp : pc + 1 = pc') (k : Go p e below P (T.setTop (mkF m pc' Ls (rest)))) : Go p e below P (T.setTop (mkF m pc Ls (v :: rest))) := by
  subst hp; exact Go.on (fun t => XS.pop X.here B.1 rfl (hb B.2.1 hd) rfl hc) k
theorem s_swap (B : Ctx p s m meth c Z own nm bytes maxL ret) (X : Stand p l e R s m args below meth c T locs cells slots) {v w : Value} (hd : decode bytes pc = .ok (.swap, 1)) (hc : v.category = 1) (hc2 : w.category = 1) (hp : pc + 1 = pc') (k : Go p e below P (T.setTop (mkF m pc' Ls (w :: v :: rest)))) : Go p e below P (T.setTop (mkF m pc Ls (v :: w :: rest))) := by
  subst hp; exact Go.on (fun t => XS.swap X.here B.1 rfl (hb B.2.1 hd) rfl hc hc2) k
theorem s_dup_x1 (B : Ctx p s m meth c Z own nm bytes maxL ret) (X : Stand p l e R s m args below meth c T locs cells slots) {v w : Value} (hd : decode bytes pc = .ok (.dup_x1, 1)) (hc : v.category = 1) (hc2 : w.category = 1) (hp : pc + 1 = pc') (k : Go p e below P (T.setTop (mkF m pc' Ls (v :: w :: v :: rest)))) : Go p e below P (T.setTop (mkF m pc Ls (v :: w :: rest))) := by
  subst hp; exact Go.on (fun t => XS.dupX1 X.here B.1 rfl (hb B.2.1 hd) rfl hc hc2) k
theorem s_dup2 (B : Ctx p s m meth c Z own nm bytes maxL ret) (X : Stand p l e R s m args below meth c T locs cells slots) {v w : Value} (hd : decode bytes pc = .ok (.dup2, 1)) (hc : v.category = 1) (hc2 : w.category = 1) (hp : pc + 1 = pc') (k : Go p e below P (T.setTop (mkF m pc' Ls (v :: w :: v :: w :: rest)))) : Go p e below P (T.setTop (mkF m pc Ls (v :: w :: rest))) := by
  subst hp; exact Go.on (fun t => XT.dup2 X.here B.1 rfl (hb B.2.1 hd) rfl hc hc2) k
theorem s_iinc (B : Ctx p s m meth c Z own nm bytes maxL ret) (X : Stand p l e R s m args below meth c T locs cells slots) {k0 : Nat} {i : Int} {x v : Int32} (hd : decode bytes pc = .ok (.iinc k0 i, 3)) (hl : Ls[k0]? = some (.val (.int x))) (hv : x + Int32.ofInt i = v) (hl' : storeLocals Ls k0 (.int v) = some Ls') (hp : pc + 3 = pc') (k : Go p e below P (T.setTop (mkF m pc' Ls' (rest)))) : Go p e below P (T.setTop (mkF m pc Ls (rest))) := by
  subst hp; subst hv; exact Go.on (fun t => XS.iinc X.here B.1 rfl (hb B.2.1 hd) hl hl') k
theorem s_goto (B : Ctx p s m meth c Z own nm bytes maxL ret) (X : Stand p l e R s m args below meth c T locs cells slots)  {o : Int} (hd : decode bytes pc = .ok (.goto o, 3))  (ho : 0 ≤ (pc : Int) + o) (hp : ((pc : Int) + o).toNat = pc') (k : Go p e below P (T.setTop (mkF m pc' Ls (rest)))) : Go p e below P (T.setTop (mkF m pc Ls (rest))) := Go.on (fun t => XS.goto X.here B.1 rfl rfl (hb B.2.1 hd) ho hp) k
theorem s_ifY (B : Ctx p s m meth c Z own nm bytes maxL ret) (X : Stand p l e R s m args below meth c T locs cells slots) {cd : ClassFile.Cond} {x : Int32} {o : Int} (hd : decode bytes pc = .ok (.ifCond cd o, 3)) (hc : ifCond.holds cd x = true) (ho : 0 ≤ (pc : Int) + o) (hp : ((pc : Int) + o).toNat = pc') (k : Go p e below P (T.setTop (mkF m pc' Ls (rest)))) : Go p e below P (T.setTop (mkF m pc Ls (.int x :: rest))) := Go.on (fun t => XS.ifYes X.here B.1 rfl rfl (hb B.2.1 hd) rfl hc ho hp) k
theorem s_ifN (B : Ctx p s m meth c Z own nm bytes maxL ret) (X : Stand p l e R s m args below meth c T locs cells slots) {cd : ClassFile.Cond} {x : Int32} {o : Int} (hd : decode bytes pc = .ok (.ifCond cd o, 3)) (hc : ifCond.holds cd x = false) (hp : pc + 3 = pc') (k : Go p e below P (T.setTop (mkF m pc' Ls (rest)))) : Go p e below P (T.setTop (mkF m pc Ls (.int x :: rest))) := by
  subst hp; exact Go.on (fun t => XS.ifNo X.here B.1 rfl (hb B.2.1 hd) rfl hc) k
theorem s_icmpY (B : Ctx p s m meth c Z own nm bytes maxL ret) (X : Stand p l e R s m args below meth c T locs cells slots) {cd : ClassFile.Cond} {x y : Int32} {o : Int} (hd : decode bytes pc = .ok (.if_icmp cd o, 3)) (hc : if_icmp.holds cd x y = true) (ho : 0 ≤ (pc : Int) + o) (hp : ((pc : Int) + o).toNat = pc') (k : Go p e below P (T.setTop (mkF m pc' Ls (rest)))) : Go p e below P (T.setTop (mkF m pc Ls (.int y :: .int x :: rest))) := Go.on (fun t => XS.icmpYes X.here B.1 rfl rfl (hb B.2.1 hd) rfl hc ho hp) k
theorem s_icmpN (B : Ctx p s m meth c Z own nm bytes maxL ret) (X : Stand p l e R s m args below meth c T locs cells slots) {cd : ClassFile.Cond} {x y : Int32} {o : Int} (hd : decode bytes pc = .ok (.if_icmp cd o, 3)) (hc : if_icmp.holds cd x y = false) (hp : pc + 3 = pc') (k : Go p e below P (T.setTop (mkF m pc' Ls (rest)))) : Go p e below P (T.setTop (mkF m pc Ls (.int y :: .int x :: rest))) := by
  subst hp; exact Go.on (fun t => XS.icmpNo X.here B.1 rfl (hb B.2.1 hd) rfl hc) k
theorem s_ifnullY (B : Ctx p s m meth c Z own nm bytes maxL ret) (X : Stand p l e R s m args below meth c T locs cells slots)  {o : Int} (hd : decode bytes pc = .ok (.ifnull o, 3))  (ho : 0 ≤ (pc : Int) + o) (hp : ((pc : Int) + o).toNat = pc') (k : Go p e below P (T.setTop (mkF m pc' Ls (rest)))) : Go p e below P (T.setTop (mkF m pc Ls (.null :: rest))) := Go.on (fun t => XS.ifnullYes X.here B.1 rfl rfl (hb B.2.1 hd) rfl ho hp) k
theorem s_ifnullN (B : Ctx p s m meth c Z own nm bytes maxL ret) (X : Stand p l e R s m args below meth c T locs cells slots) {b : Addr} {o : Int} (hd : decode bytes pc = .ok (.ifnull o, 3))  (hp : pc + 3 = pc') (k : Go p e below P (T.setTop (mkF m pc' Ls (rest)))) : Go p e below P (T.setTop (mkF m pc Ls (.ref b :: rest))) := by
  subst hp; exact Go.on (fun t => XS.ifnullNo X.here B.1 rfl (hb B.2.1 hd) rfl) k
theorem s_ifnonnullY (B : Ctx p s m meth c Z own nm bytes maxL ret) (X : Stand p l e R s m args below meth c T locs cells slots) {b : Addr} {o : Int} (hd : decode bytes pc = .ok (.ifnonnull o, 3))  (ho : 0 ≤ (pc : Int) + o) (hp : ((pc : Int) + o).toNat = pc') (k : Go p e below P (T.setTop (mkF m pc' Ls (rest)))) : Go p e below P (T.setTop (mkF m pc Ls (.ref b :: rest))) := Go.on (fun t => XS.ifnonnullYes X.here B.1 rfl rfl (hb B.2.1 hd) rfl ho hp) k
theorem s_ifnonnullN (B : Ctx p s m meth c Z own nm bytes maxL ret) (X : Stand p l e R s m args below meth c T locs cells slots)  {o : Int} (hd : decode bytes pc = .ok (.ifnonnull o, 3))  (hp : pc + 3 = pc') (k : Go p e below P (T.setTop (mkF m pc' Ls (rest)))) : Go p e below P (T.setTop (mkF m pc Ls (.null :: rest))) := by
  subst hp; exact Go.on (fun t => XS.ifnonnullNo X.here B.1 rfl (hb B.2.1 hd) rfl) k
theorem b_icmp_eq (B : Ctx p s m meth c Z own nm bytes maxL ret) (X : Stand p l e R s m args below meth c T locs cells slots) {x y : Int32} {o : Int} {py pn : Nat} (hd : decode bytes pc = .ok (.if_icmp .eq o, 3)) (ho : 0 ≤ (pc : Int) + o) (hy : ((pc : Int) + o).toNat = py) (hn : pc + 3 = pn) (k1 : x = y → Go p e below P (T.setTop (mkF m py Ls (rest)))) (k2 : ¬ x = y → Go p e below P (T.setTop (mkF m pn Ls (rest)))) : Go p e below P (T.setTop (mkF m pc Ls (.int y :: .int x :: rest))) := by
  by_cases q : x = y
  · exact s_icmpY B X hd (teq q).1 ho hy (k1 q)
  · exact s_icmpN B X hd (feq q).1 hn (k2 q)
theorem b_if_eq (B : Ctx p s m meth c Z own nm bytes maxL ret) (X : Stand p l e R s m args below meth c T locs cells slots) {x : Int32} {o : Int} {py pn : Nat} (hd : decode bytes pc = .ok (.ifCond .eq o, 3)) (ho : 0 ≤ (pc : Int) + o) (hy : ((pc : Int) + o).toNat = py) (hn : pc + 3 = pn) (k1 : x = 0 → Go p e below P (T.setTop (mkF m py Ls (rest)))) (k2 : ¬ x = 0 → Go p e below P (T.setTop (mkF m pn Ls (rest)))) : Go p e below P (T.setTop (mkF m pc Ls (.int x :: rest))) := by
  by_cases q : x = 0
  · exact s_ifY B X hd ((if0 _ _).trans (teq q).1) ho hy (k1 q)
  · exact s_ifN B X hd ((if0 _ _).trans (feq q).1) hn (k2 q)
theorem b_icmp_ne (B : Ctx p s m meth c Z own nm bytes maxL ret) (X : Stand p l e R s m args below meth c T locs cells slots) {x y : Int32} {o : Int} {py pn : Nat} (hd : decode bytes pc = .ok (.if_icmp .ne o, 3)) (ho : 0 ≤ (pc : Int) + o) (hy : ((pc : Int) + o).toNat = py) (hn : pc + 3 = pn) (k1 : ¬ x = y → Go p e below P (T.setTop (mkF m py Ls (rest)))) (k2 : x = y → Go p e below P (T.setTop (mkF m pn Ls (rest)))) : Go p e below P (T.setTop (mkF m pc Ls (.int y :: .int x :: rest))) := by
  by_cases q : x = y
  · exact s_icmpN B X hd (teq q).2 hn (k2 q)
  · exact s_icmpY B X hd (feq q).2 ho hy (k1 q)
theorem b_if_ne (B : Ctx p s m meth c Z own nm bytes maxL ret) (X : Stand p l e R s m args below meth c T locs cells slots) {x : Int32} {o : Int} {py pn : Nat} (hd : decode bytes pc = .ok (.ifCond .ne o, 3)) (ho : 0 ≤ (pc : Int) + o) (hy : ((pc : Int) + o).toNat = py) (hn : pc + 3 = pn) (k1 : ¬ x = 0 → Go p e below P (T.setTop (mkF m py Ls (rest)))) (k2 : x = 0 → Go p e below P (T.setTop (mkF m pn Ls (rest)))) : Go p e below P (T.setTop (mkF m pc Ls (.int x :: rest))) := by
  by_cases q : x = 0
  · exact s_ifN B X hd ((if0 _ _).trans (teq q).2) hn (k2 q)
  · exact s_ifY B X hd ((if0 _ _).trans (feq q).2) ho hy (k1 q)
theorem b_icmp_lt (B : Ctx p s m meth c Z own nm bytes maxL ret) (X : Stand p l e R s m args below meth c T locs cells slots) {x y : Int32} {o : Int} {py pn : Nat} (hd : decode bytes pc = .ok (.if_icmp .lt o, 3)) (ho : 0 ≤ (pc : Int) + o) (hy : ((pc : Int) + o).toNat = py) (hn : pc + 3 = pn) (k1 : x < y → Go p e below P (T.setTop (mkF m py Ls (rest)))) (k2 : ¬ x < y → Go p e below P (T.setTop (mkF m pn Ls (rest)))) : Go p e below P (T.setTop (mkF m pc Ls (.int y :: .int x :: rest))) := by
  by_cases q : x < y
  · exact s_icmpY B X hd (tlt q).1 ho hy (k1 q)
  · exact s_icmpN B X hd (flt q).1 hn (k2 q)
theorem b_if_lt (B : Ctx p s m meth c Z own nm bytes maxL ret) (X : Stand p l e R s m args below meth c T locs cells slots) {x : Int32} {o : Int} {py pn : Nat} (hd : decode bytes pc = .ok (.ifCond .lt o, 3)) (ho : 0 ≤ (pc : Int) + o) (hy : ((pc : Int) + o).toNat = py) (hn : pc + 3 = pn) (k1 : x < 0 → Go p e below P (T.setTop (mkF m py Ls (rest)))) (k2 : ¬ x < 0 → Go p e below P (T.setTop (mkF m pn Ls (rest)))) : Go p e below P (T.setTop (mkF m pc Ls (.int x :: rest))) := by
  by_cases q : x < 0
  · exact s_ifY B X hd ((if0 _ _).trans (tlt q).1) ho hy (k1 q)
  · exact s_ifN B X hd ((if0 _ _).trans (flt q).1) hn (k2 q)
theorem b_icmp_ge (B : Ctx p s m meth c Z own nm bytes maxL ret) (X : Stand p l e R s m args below meth c T locs cells slots) {x y : Int32} {o : Int} {py pn : Nat} (hd : decode bytes pc = .ok (.if_icmp .ge o, 3)) (ho : 0 ≤ (pc : Int) + o) (hy : ((pc : Int) + o).toNat = py) (hn : pc + 3 = pn) (k1 : ¬ x < y → Go p e below P (T.setTop (mkF m py Ls (rest)))) (k2 : x < y → Go p e below P (T.setTop (mkF m pn Ls (rest)))) : Go p e below P (T.setTop (mkF m pc Ls (.int y :: .int x :: rest))) := by
  by_cases q : x < y
  · exact s_icmpN B X hd (tlt q).2.1 hn (k2 q)
  · exact s_icmpY B X hd (flt q).2.1 ho hy (k1 q)
theorem b_if_ge (B : Ctx p s m meth c Z own nm bytes maxL ret) (X : Stand p l e R s m args below meth c T locs cells slots) {x : Int32} {o : Int} {py pn : Nat} (hd : decode bytes pc = .ok (.ifCond .ge o, 3)) (ho : 0 ≤ (pc : Int) + o) (hy : ((pc : Int) + o).toNat = py) (hn : pc + 3 = pn) (k1 : ¬ x < 0 → Go p e below P (T.setTop (mkF m py Ls (rest)))) (k2 : x < 0 → Go p e below P (T.setTop (mkF m pn Ls (rest)))) : Go p e below P (T.setTop (mkF m pc Ls (.int x :: rest))) := by
  by_cases q : x < 0
  · exact s_ifN B X hd ((if0 _ _).trans (tlt q).2.1) hn (k2 q)
  · exact s_ifY B X hd ((if0 _ _).trans (flt q).2.1) ho hy (k1 q)
theorem b_icmp_gt (B : Ctx p s m meth c Z own nm bytes maxL ret) (X : Stand p l e R s m args below meth c T locs cells slots) {x y : Int32} {o : Int} {py pn : Nat} (hd : decode bytes pc = .ok (.if_icmp .gt o, 3)) (ho : 0 ≤ (pc : Int) + o) (hy : ((pc : Int) + o).toNat = py) (hn : pc + 3 = pn) (k1 : y < x → Go p e below P (T.setTop (mkF m py Ls (rest)))) (k2 : ¬ y < x → Go p e below P (T.setTop (mkF m pn Ls (rest)))) : Go p e below P (T.setTop (mkF m pc Ls (.int y :: .int x :: rest))) := by
  by_cases q : y < x
  · exact s_icmpY B X hd (tlt q).2.2.1 ho hy (k1 q)
  · exact s_icmpN B X hd (flt q).2.2.1 hn (k2 q)
theorem b_if_gt (B : Ctx p s m meth c Z own nm bytes maxL ret) (X : Stand p l e R s m args below meth c T locs cells slots) {x : Int32} {o : Int} {py pn : Nat} (hd : decode bytes pc = .ok (.ifCond .gt o, 3)) (ho : 0 ≤ (pc : Int) + o) (hy : ((pc : Int) + o).toNat = py) (hn : pc + 3 = pn) (k1 : 0 < x → Go p e below P (T.setTop (mkF m py Ls (rest)))) (k2 : ¬ 0 < x → Go p e below P (T.setTop (mkF m pn Ls (rest)))) : Go p e below P (T.setTop (mkF m pc Ls (.int x :: rest))) := by
  by_cases q : 0 < x
  · exact s_ifY B X hd ((if0 _ _).trans (tlt q).2.2.1) ho hy (k1 q)
  · exact s_ifN B X hd ((if0 _ _).trans (flt q).2.2.1) hn (k2 q)
theorem b_icmp_le (B : Ctx p s m meth c Z own nm bytes maxL ret) (X : Stand p l e R s m args below meth c T locs cells slots) {x y : Int32} {o : Int} {py pn : Nat} (hd : decode bytes pc = .ok (.if_icmp .le o, 3)) (ho : 0 ≤ (pc : Int) + o) (hy : ((pc : Int) + o).toNat = py) (hn : pc + 3 = pn) (k1 : ¬ y < x → Go p e below P (T.setTop (mkF m py Ls (rest)))) (k2 : y < x → Go p e below P (T.setTop (mkF m pn Ls (rest)))) : Go p e below P (T.setTop (mkF m pc Ls (.int y :: .int x :: rest))) := by
  by_cases q : y < x
  · exact s_icmpN B X hd (tlt q).2.2.2 hn (k2 q)
  · exact s_icmpY B X hd (flt q).2.2.2 ho hy (k1 q)
theorem b_if_le (B : Ctx p s m meth c Z own nm bytes maxL ret) (X : Stand p l e R s m args below meth c T locs cells slots) {x : Int32} {o : Int} {py pn : Nat} (hd : decode bytes pc = .ok (.ifCond .le o, 3)) (ho : 0 ≤ (pc : Int) + o) (hy : ((pc : Int) + o).toNat = py) (hn : pc + 3 = pn) (k1 : ¬ 0 < x → Go p e below P (T.setTop (mkF m py Ls (rest)))) (k2 : 0 < x → Go p e below P (T.setTop (mkF m pn Ls (rest)))) : Go p e below P (T.setTop (mkF m pc Ls (.int x :: rest))) := by
  by_cases q : 0 < x
  · exact s_ifN B X hd ((if0 _ _).trans (tlt q).2.2.2) hn (k2 q)
  · exact s_ifY B X hd ((if0 _ _).trans (flt q).2.2.2) ho hy (k1 q)
theorem b_lcmp_eq (B : Ctx p s m meth c Z own nm bytes maxL ret) (X : Stand p l e R s m args below meth c T locs cells slots) {x y : Int64} {pc0 : Nat} {o : Int} {py pn : Nat} (hd0 : decode bytes pc0 = .ok (.lcmp, 1)) (hp0 : pc0 + 1 = pc) (hd : decode bytes pc = .ok (.ifCond .eq o, 3)) (ho : 0 ≤ (pc : Int) + o) (hy : ((pc : Int) + o).toNat = py) (hn : pc + 3 = pn) (k1 : x = y → Go p e below P (T.setTop (mkF m py Ls (rest)))) (k2 : ¬ x = y → Go p e below P (T.setTop (mkF m pn Ls (rest)))) : Go p e below P (T.setTop (mkF m pc0 Ls (.long y :: .long x :: rest))) := by
  by_cases q : x = y
  · exact s_lcmp B X hd0 hp0 (s_ifY B X hd ((if0 _ _).trans (teq ((lw_eq x y).mpr q)).1) ho hy (k1 q))
  · exact s_lcmp B X hd0 hp0 (s_ifN B X hd ((if0 _ _).trans (feq (fun z => q ((lw_eq x y).mp z))).1) hn (k2 q))
theorem b_lcmp_ne (B : Ctx p s m meth c Z own nm bytes maxL ret) (X : Stand p l e R s m args below meth c T locs cells slots) {x y : Int64} {pc0 : Nat} {o : Int} {py pn : Nat} (hd0 : decode bytes pc0 = .ok (.lcmp, 1)) (hp0 : pc0 + 1 = pc) (hd : decode bytes pc = .ok (.ifCond .ne o, 3)) (ho : 0 ≤ (pc : Int) + o) (hy : ((pc : Int) + o).toNat = py) (hn : pc + 3 = pn) (k1 : ¬ x = y → Go p e below P (T.setTop (mkF m py Ls (rest)))) (k2 : x = y → Go p e below P (T.setTop (mkF m pn Ls (rest)))) : Go p e below P (T.setTop (mkF m pc0 Ls (.long y :: .long x :: rest))) := by
  by_cases q : x = y
  · exact s_lcmp B X hd0 hp0 (s_ifN B X hd ((if0 _ _).trans (teq ((lw_eq x y).mpr q)).2) hn (k2 q))
  · exact s_lcmp B X hd0 hp0 (s_ifY B X hd ((if0 _ _).trans (feq (fun z => q ((lw_eq x y).mp z))).2) ho hy (k1 q))
theorem b_lcmp_lt (B : Ctx p s m meth c Z own nm bytes maxL ret) (X : Stand p l e R s m args below meth c T locs cells slots) {x y : Int64} {pc0 : Nat} {o : Int} {py pn : Nat} (hd0 : decode bytes pc0 = .ok (.lcmp, 1)) (hp0 : pc0 + 1 = pc) (hd : decode bytes pc = .ok (.ifCond .lt o, 3)) (ho : 0 ≤ (pc : Int) + o) (hy : ((pc : Int) + o).toNat = py) (hn : pc + 3 = pn) (k1 : x < y → Go p e below P (T.setTop (mkF m py Ls (rest)))) (k2 : ¬ x < y → Go p e below P (T.setTop (mkF m pn Ls (rest)))) : Go p e below P (T.setTop (mkF m pc0 Ls (.long y :: .long x :: rest))) := by
  by_cases q : x < y
  · exact s_lcmp B X hd0 hp0 (s_ifY B X hd ((if0 _ _).trans (tlt ((lw_lt x y).mpr q)).1) ho hy (k1 q))
  · exact s_lcmp B X hd0 hp0 (s_ifN B X hd ((if0 _ _).trans (flt (fun z => q ((lw_lt x y).mp z))).1) hn (k2 q))
theorem b_lcmp_ge (B : Ctx p s m meth c Z own nm bytes maxL ret) (X : Stand p l e R s m args below meth c T locs cells slots) {x y : Int64} {pc0 : Nat} {o : Int} {py pn : Nat} (hd0 : decode bytes pc0 = .ok (.lcmp, 1)) (hp0 : pc0 + 1 = pc) (hd : decode bytes pc = .ok (.ifCond .ge o, 3)) (ho : 0 ≤ (pc : Int) + o) (hy : ((pc : Int) + o).toNat = py) (hn : pc + 3 = pn) (k1 : ¬ x < y → Go p e below P (T.setTop (mkF m py Ls (rest)))) (k2 : x < y → Go p e below P (T.setTop (mkF m pn Ls (rest)))) : Go p e below P (T.setTop (mkF m pc0 Ls (.long y :: .long x :: rest))) := by
  by_cases q : x < y
  · exact s_lcmp B X hd0 hp0 (s_ifN B X hd ((if0 _ _).trans (tlt ((lw_lt x y).mpr q)).2.1) hn (k2 q))
  · exact s_lcmp B X hd0 hp0 (s_ifY B X hd ((if0 _ _).trans (flt (fun z => q ((lw_lt x y).mp z))).2.1) ho hy (k1 q))
theorem b_lcmp_gt (B : Ctx p s m meth c Z own nm bytes maxL ret) (X : Stand p l e R s m args below meth c T locs cells slots) {x y : Int64} {pc0 : Nat} {o : Int} {py pn : Nat} (hd0 : decode bytes pc0 = .ok (.lcmp, 1)) (hp0 : pc0 + 1 = pc) (hd : decode bytes pc = .ok (.ifCond .gt o, 3)) (ho : 0 ≤ (pc : Int) + o) (hy : ((pc : Int) + o).toNat = py) (hn : pc + 3 = pn) (k1 : y < x → Go p e below P (T.setTop (mkF m py Ls (rest)))) (k2 : ¬ y < x → Go p e below P (T.setTop (mkF m pn Ls (rest)))) : Go p e below P (T.setTop (mkF m pc0 Ls (.long y :: .long x :: rest))) := by
  by_cases q : y < x
  · exact s_lcmp B X hd0 hp0 (s_ifY B X hd ((if0 _ _).trans (tlt ((lw_gt x y).mpr q)).2.2.1) ho hy (k1 q))
  · exact s_lcmp B X hd0 hp0 (s_ifN B X hd ((if0 _ _).trans (flt (fun z => q ((lw_gt x y).mp z))).2.2.1) hn (k2 q))
theorem b_lcmp_le (B : Ctx p s m meth c Z own nm bytes maxL ret) (X : Stand p l e R s m args below meth c T locs cells slots) {x y : Int64} {pc0 : Nat} {o : Int} {py pn : Nat} (hd0 : decode bytes pc0 = .ok (.lcmp, 1)) (hp0 : pc0 + 1 = pc) (hd : decode bytes pc = .ok (.ifCond .le o, 3)) (ho : 0 ≤ (pc : Int) + o) (hy : ((pc : Int) + o).toNat = py) (hn : pc + 3 = pn) (k1 : ¬ y < x → Go p e below P (T.setTop (mkF m py Ls (rest)))) (k2 : y < x → Go p e below P (T.setTop (mkF m pn Ls (rest)))) : Go p e below P (T.setTop (mkF m pc0 Ls (.long y :: .long x :: rest))) := by
  by_cases q : y < x
  · exact s_lcmp B X hd0 hp0 (s_ifN B X hd ((if0 _ _).trans (tlt ((lw_gt x y).mpr q)).2.2.2) hn (k2 q))
  · exact s_lcmp B X hd0 hp0 (s_ifY B X hd ((if0 _ _).trans (flt (fun z => q ((lw_gt x y).mp z))).2.2.2) ho hy (k1 q))
theorem b_acmp_eq (B : Ctx p s m meth c Z own nm bytes maxL ret) (X : Stand p l e R s m args below meth c T locs cells slots) {a b : Addr} {o : Int} {py pn : Nat} (hd : decode bytes pc = .ok (.if_acmp .eq o, 3)) (ho : 0 ≤ (pc : Int) + o) (hy : ((pc : Int) + o).toNat = py) (hn : pc + 3 = pn) (k1 : a = b → Go p e below P (T.setTop (mkF m py Ls (rest)))) (k2 : ¬ a = b → Go p e below P (T.setTop (mkF m pn Ls (rest)))) : Go p e below P (T.setTop (mkF m pc Ls (.ref b :: .ref a :: rest))) := by
  by_cases q : a = b
  · exact Go.on (fun t => Jvm.RoadKit.acmp X B.1 rfl rfl rfl (same := true) rfl (hb B.2.1 hd) rfl (decide_eq_true (congrArg Value.ref q)) ho (by simp [acV, hy])) (k1 q)
  · exact Go.on (fun t => Jvm.RoadKit.acmp X B.1 rfl rfl rfl (same := false) rfl (hb B.2.1 hd) rfl (decide_eq_false fun z => q (Value.ref.inj z)) ho (by simp [acV, hn])) (k2 q)
theorem b_acmp_ne (B : Ctx p s m meth c Z own nm bytes maxL ret) (X : Stand p l e R s m args below meth c T locs cells slots) {a b : Addr} {o : Int} {py pn : Nat} (hd : decode bytes pc = .ok (.if_acmp .ne o, 3)) (ho : 0 ≤ (pc : Int) + o) (hy : ((pc : Int) + o).toNat = py) (hn : pc + 3 = pn) (k1 : ¬ a = b → Go p e below P (T.setTop (mkF m py Ls (rest)))) (k2 : a = b → Go p e below P (T.setTop (mkF m pn Ls (rest)))) : Go p e below P (T.setTop (mkF m pc Ls (.ref b :: .ref a :: rest))) := by
  by_cases q : a = b
  · exact Go.on (fun t => Jvm.RoadKit.acmp X B.1 rfl rfl rfl (same := true) rfl (hb B.2.1 hd) rfl (decide_eq_true (congrArg Value.ref q)) ho (by simp [acV, hn])) (k2 q)
  · exact Go.on (fun t => Jvm.RoadKit.acmp X B.1 rfl rfl rfl (same := false) rfl (hb B.2.1 hd) rfl (decide_eq_false fun z => q (Value.ref.inj z)) ho (by simp [acV, hy])) (k1 q)
theorem b_ifnull (B : Ctx p s m meth c Z own nm bytes maxL ret) (X : Stand p l e R s m args below meth c T locs cells slots) {v : Value} {o : Int} {py pn : Nat} (hv : v.isRef = true) (hd : decode bytes pc = .ok (.ifnull o, 3)) (ho : 0 ≤ (pc : Int) + o) (hy : ((pc : Int) + o).toNat = py) (hn : pc + 3 = pn) (k1 : v = .null → Go p e below P (T.setTop (mkF m py Ls (rest)))) (k2 : ¬ v = .null → Go p e below P (T.setTop (mkF m pn Ls (rest)))) : Go p e below P (T.setTop (mkF m pc Ls (v :: rest))) := by
  rcases ref_cases hv with rfl | ⟨a, rfl⟩
  · exact s_ifnullY B X hd ho hy (k1 rfl)
  · exact s_ifnullN B X hd hn (k2 nofun)
theorem b_ifnonnull (B : Ctx p s m meth c Z own nm bytes maxL ret) (X : Stand p l e R s m args below meth c T locs cells slots) {v : Value} {o : Int} {py pn : Nat} (hv : v.isRef = true) (hd : decode bytes pc = .ok (.ifnonnull o, 3)) (ho : 0 ≤ (pc : Int) + o) (hy : ((pc : Int) + o).toNat = py) (hn : pc + 3 = pn) (k1 : ¬ v = .null → Go p e below P (T.setTop (mkF m py Ls (rest)))) (k2 : v = .null → Go p e below P (T.setTop (mkF m pn Ls (rest)))) : Go p e below P (T.setTop (mkF m pc Ls (v :: rest))) := by
  rcases ref_cases hv with rfl | ⟨a, rfl⟩
  · exact s_ifnonnullN B X hd hn (k2 rfl)
  · exact s_ifnonnullY B X hd ho hy (k1 nofun)
theorem s_ldc (B : Ctx p s m meth c Z own nm bytes maxL ret) (X : Stand p l e R s m args below meth c T locs cells slots) {i : Nat} {v : Int32} (w : (Jvm.Cond.constant own i v).before a0 Z = true) (hd : decode bytes pc = .ok (.ldc i, 2)) (hp : pc + 2 = pc') (k : Go p e below P (T.setTop (mkF m pc' Ls (.int v :: rest)))) : Go p e below P (T.setTop (mkF m pc Ls (rest))) := by
  subst hp; exact Go.on (fun t => X.ldcI B.1 B.2.2.2.1 (mv B.2.2.2.2.2.2.2 w) rfl (hb B.2.1 hd)) k
theorem s_ldc2 (B : Ctx p s m meth c Z own nm bytes maxL ret) (X : Stand p l e R s m args below meth c T locs cells slots) {i : Nat} {v : Int64} (w : (Jvm.Cond.constantLong own i v).before a0 Z = true) (hd : decode bytes pc = .ok (.ldc2_w i, 3)) (hp : pc + 3 = pc') (k : Go p e below P (T.setTop (mkF m pc' Ls (.long v :: rest)))) : Go p e below P (T.setTop (mkF m pc Ls (rest))) := by
  subst hp; exact Go.on (fun t => X.ldc2J B.1 B.2.2.2.1 (mv B.2.2.2.2.2.2.2 w) rfl (hb B.2.1 hd)) k
theorem s_getS (B : Ctx p s m meth c Z own nm bytes maxL ret) (X : Stand p l e R s m args below meth c T locs cells slots) {i : Nat} {R0 O n d : String} {v : Value} (eT : T.heap = h) (w : (Jvm.Cond.fieldLink own i R0 n d).before a0 Z = true) (via : Via Z R0 O n d) (F : Sta Z h O n d v) (hd : decode bytes pc = .ok (.getstatic i, 3)) (hp : pc + 3 = pc') (k : ∀ T', Stand p l e R s m args below meth c T' locs cells slots → T'.heap = h → Go p e below P (T'.setTop (mkF m pc' Ls (v :: rest)))) : Go p e below P (T.setTop (mkF m pc Ls (rest))) := by
  subst hp
  obtain ⟨T', X', e', st⟩ := getS X B.1 B.2.2.2.2.2.2.2 (host := "") B.2.2.2.1 w via eT F (g := mkF m pc Ls rest) rfl (hb B.2.1 hd)
  exact Go.on st (k T' X' e')
theorem s_getF (B : Ctx p s m meth c Z own nm bytes maxL ret) (X : Stand p l e R s m args below meth c T locs cells slots) {i : Nat} {R0 O n d host : String} {a : Addr} {v : Value} (eT : T.heap = h) (w : (Jvm.Cond.fieldLink own i R0 n d).before a0 Z = true ∨ (Jvm.Cond.fieldLinkNest own i R0 n d host).before a0 Z = true) (via : Via Z R0 O n d) (F : Fld Z h a O n d v) (hd : decode bytes pc = .ok (.getfield i, 3)) (hp : pc + 3 = pc') (k : ∀ T', Stand p l e R s m args below meth c T' locs cells slots → T'.heap = h → Go p e below P (T'.setTop (mkF m pc' Ls (v :: rest)))) : Go p e below P (T.setTop (mkF m pc Ls (.ref a :: rest))) := by
  subst hp
  obtain ⟨T', X', e', st⟩ := getF X B.1 B.2.2.2.2.2.2.2 B.2.2.2.1 w via eT F (g := mkF m pc Ls (.ref a :: rest)) rfl rfl (hb B.2.1 hd)
  exact Go.on st (k T' X' e')
theorem r_nar (B : Ctx p s m meth c Z own nm bytes maxL ret) (X : Stand p l e R s m args below meth c T locs cells slots) {Q : Option Value → Heap → List Loc → Prop} {kc kn : Nat} {z : Int32} {t : FieldType} (ht : t = .boolean ∨ t = .byte ∨ t = .char ∨ t = .short) (hr : ret = some t) (hd : decode bytes pc = .ok (.ireturn, 1)) (hq : Q (some (.int (nar t z))) T.heap locs) (hc : cells ≤ kc) (hs : slots ≤ kn) : Go p e below (Ends s Q kc kn) (T.setTop (mkF m pc Ls (.int z :: rest))) := by
  obtain ⟨fs, hl, hrun, hended, hW, hsame⟩ := X.leave (v := (some (.int (nar t z)))) (fun h => by rw [B.2.2.2.2.2.1, hr] at h; first | rfl | cases h) B.2.2.2.2.2.2.1
  exact ⟨_, _, retN X B.1 (by rw [B.2.2.2.2.2.1, hr]) ht (hb B.2.1 hd) hl, hrun, hended, _, _, rfl, hq, ⟨_, rfl⟩, hW, hsame.mono hc hs⟩
theorem r_int (B : Ctx p s m meth c Z own nm bytes maxL ret) (X : Stand p l e R s m args below meth c T locs cells slots) {Q : Option Value → Heap → List Loc → Prop} {kc kn : Nat} {z : Int32} (hr : ret = some .int) (hd : decode bytes pc = .ok (.ireturn, 1)) (hq : Q (some (.int z)) T.heap locs) (hc : cells ≤ kc) (hs : slots ≤ kn) : Go p e below (Ends s Q kc kn) (T.setTop (mkF m pc Ls (.int z :: rest))) := by
  obtain ⟨fs, hl, hrun, hended, hW, hsame⟩ := X.leave (v := (some (.int z))) (fun h => by rw [B.2.2.2.2.2.1, hr] at h; first | rfl | cases h) B.2.2.2.2.2.2.1
  exact ⟨_, _, retOut X B.1 (t := .int) (by rw [B.2.2.2.2.2.1, hr]) rfl (Or.inl ⟨rfl, Or.inl rfl, _, rfl⟩) (hb B.2.1 hd) hl, hrun, hended, _, _, rfl, hq, ⟨_, rfl⟩, hW, hsame.mono hc hs⟩
theorem r_long (B : Ctx p s m meth c Z own nm bytes maxL ret) (X : Stand p l e R s m args below meth c T locs cells slots) {Q : Option Value → Heap → List Loc → Prop} {kc kn : Nat} {z : Int64} (hr : ret = some .long) (hd : decode bytes pc = .ok (.lreturn, 1)) (hq : Q (some (.long z)) T.heap locs) (hc : cells ≤ kc) (hs : slots ≤ kn) : Go p e below (Ends s Q kc kn) (T.setTop (mkF m pc Ls (.long z :: rest))) := by
  obtain ⟨fs, hl, hrun, hended, hW, hsame⟩ := X.leave (v := (some (.long z))) (fun h => by rw [B.2.2.2.2.2.1, hr] at h; first | rfl | cases h) B.2.2.2.2.2.2.1
  exact ⟨_, _, retOut X B.1 (t := .long) (by rw [B.2.2.2.2.2.1, hr]) rfl (Or.inr (Or.inl ⟨rfl, rfl, _, rfl⟩)) (hb B.2.1 hd) hl, hrun, hended, _, _, rfl, hq, ⟨_, rfl⟩, hW, hsame.mono hc hs⟩
theorem r_ref (B : Ctx p s m meth c Z own nm bytes maxL ret) (X : Stand p l e R s m args below meth c T locs cells slots) {Q : Option Value → Heap → List Loc → Prop} {kc kn : Nat} {v : Value} {t : FieldType} (ht : t.isReference = true) (hn : narrow t v = v) (hv : v.isRef = true) (hr : ret = some t) (hd : decode bytes pc = .ok (.areturn, 1)) (hq : Q (some v) T.heap locs) (hc : cells ≤ kc) (hs : slots ≤ kn) : Go p e below (Ends s Q kc kn) (T.setTop (mkF m pc Ls (v :: rest))) := by
  obtain ⟨fs, hl, hrun, hended, hW, hsame⟩ := X.leave (v := (some v)) (fun h => by rw [B.2.2.2.2.2.1, hr] at h; first | rfl | cases h) B.2.2.2.2.2.2.1
  exact ⟨_, _, retOut X B.1 (t := t) (by rw [B.2.2.2.2.2.1, hr]) hn (Or.inr (Or.inr (Or.inr (Or.inr ⟨rfl, ht, hv⟩)))) (hb B.2.1 hd) hl, hrun, hended, _, _, rfl, hq, ⟨_, rfl⟩, hW, hsame.mono hc hs⟩
theorem r_void (B : Ctx p s m meth c Z own nm bytes maxL ret) (X : Stand p l e R s m args below meth c T locs cells slots) {Q : Option Value → Heap → List Loc → Prop} {kc kn : Nat} (hr : ret = none) (hd : decode bytes pc = .ok (.return_, 1)) (hq : Q none T.heap locs) (hc : cells ≤ kc) (hs : slots ≤ kn) : Go p e below (Ends s Q kc kn) (T.setTop (mkF m pc Ls [])) := by
  obtain ⟨fs, hl, hrun, hended, hW, hsame⟩ := X.leave (v := none) (fun _ => rfl) B.2.2.2.2.2.2.1
  exact ⟨_, _, X.returnOut B.1 (by rw [B.2.2.2.2.2.1, hr]) (hb B.2.1 hd) hl, hrun, hended, _, _, rfl, hq, ⟨_, rfl⟩, hW, hsame.mono hc hs⟩
theorem c_virtual (B : Ctx p s m meth c Z own nm bytes maxL ret) (X : Stand p l e R s m args below meth c T locs cells slots) {y : MethodName} {bs : ByteArray} {mx : Nat} {rt : Option FieldType} {rm : Room} {i W : Nat} {argsL under : List Value} {Q : Option Value → Heap → List Loc → Prop} {st : List Value} {C : String} {b : Addr} (eT : T.heap = h) (w1 : (Jvm.Cond.methodLink own i y).before a0 Z = true) (w2 : (Jvm.Cond.declares y).before a0 Z = true) (w3 : (Jvm.Cond.selects C y y).before a0 Z = true) (w4 : (Jvm.Cond.instanceMethod y).before a0 Z = true) (wc : (Jvm.Cond.code y bs mx rt).before a0 Z = true) (wz : (Jvm.Cond.initialized y.cls).before a0 Z = true) (hy : y.cls ≠ "java/lang/invoke/MethodHandle" ∧ y.cls ≠ "java/lang/invoke/VarHandle") (hM : OMeets l Z y bs mx rt [] rm (.ref b :: argsL).toArray h Q) (E : Exa Z h b C) (hlen : ∀ sig, parseMethodDescriptor y.desc = some sig → argsL.length = sig.parameters.length) (hst : st = argsL.reverse ++ .ref b :: under) (hW : (under.map fun v => v.category).sum = W) (hf : rm.frames + 1 ≤ R.frames) (hlo : W + (mx + 11) + rm.locals ≤ R.locals) (hce : cells + rm.cells ≤ R.cells) (hsl : slots + rm.slots ≤ R.slots) (hsz : Ls.size = maxL) (hd : decode bytes pc = .ok (.invokevirtual i, 3)) (hp : pc + 3 = pc') (k : ∀ v T' L, Stand p l e R s m args below meth c T' (locs ++ L) (cells + rm.cells) (slots + rm.slots) → Q v T'.heap L → Go p e below P (T'.setTop (mkF m pc' Ls (v.toList ++ under)))) : Go p e below P (T.setTop (mkF m pc Ls st)) := by
  subst hp hst
  obtain ⟨cq, kq, qa, qb, qc⟩ := isOf B.2.2.2.2.2.2.2 eT E
  obtain ⟨v, _, ⟨T', L', k', n'⟩, -, X', ⟨Lc, hQ, l', y', z'⟩, st'⟩ := X.virtualBack B.1 (y := y) B.2.2.2.1 (mvT B.2.2.2.2.2.2.2 w1) (mvT B.2.2.2.2.2.2.2 w2) (notFace_of_selects (args := #[]) (mvT B.2.2.2.2.2.2.2 w3)) (mvT B.2.2.2.2.2.2.2 w3) (mvT B.2.2.2.2.2.2.2 w4) hy (z := y) (backOf (W := W) hM B.2.2.2.2.2.2.2 wc wz hf hlo) qa qc (g := mkF m pc Ls (argsL.reverse ++ .ref b :: under)) rfl (by rw [B.2.2.1]; exact hsz) (Steps.refl _) (argsL := argsL) (rest := under) hlen rfl (by show 2 * 0 + _ ≤ _; rw [Nat.mul_zero, Nat.zero_add]; exact Nat.le_of_eq hW) (hb B.2.1 hd) (fun _ _ => ⟨rfl, eT, hce, hsl⟩)
  dsimp only [Pt.U, Pt.locs, Pt.cells, Pt.slots] at X' l' y' z' st' hQ
  subst l' y' z'
  exact Go.on (fun t q => st'.trans q) (k v T' Lc X' hQ)
theorem c_static (B : Ctx p s m meth c Z own nm bytes maxL ret) (X : Stand p l e R s m args below meth c T locs cells slots) {y : MethodName} {bs : ByteArray} {mx : Nat} {rt : Option FieldType} {rm : Room} {i W : Nat} {argsL under : List Value} {Q : Option Value → Heap → List Loc → Prop} {st : List Value} (eT : T.heap = h) (w1 : (Jvm.Cond.methodLink own i y).before a0 Z = true) (w2 : (Jvm.Cond.static y).before a0 Z = true) (wc : (Jvm.Cond.code y bs mx rt).before a0 Z = true) (wz : (Jvm.Cond.initialized y.cls).before a0 Z = true) (hy : y.cls ≠ "java/lang/invoke/MethodHandle" ∧ y.cls ≠ "java/lang/invoke/VarHandle") (hM : OMeets l Z y bs mx rt [] rm argsL.toArray h Q) (hlen : ∀ sig, parseMethodDescriptor y.desc = some sig → argsL.length = sig.parameters.length) (hst : st = argsL.reverse ++ under) (hW : (under.map fun v => v.category).sum = W) (hf : rm.frames + 1 ≤ R.frames) (hlo : W + (mx + 11) + rm.locals ≤ R.locals) (hce : cells + rm.cells ≤ R.cells) (hsl : slots + rm.slots ≤ R.slots) (hsz : Ls.size = maxL) (hd : decode bytes pc = .ok (.invokestatic i, 3)) (hp : pc + 3 = pc') (k : ∀ v T' L, Stand p l e R s m args below meth c T' (locs ++ L) (cells + rm.cells) (slots + rm.slots) → Q v T'.heap L → Go p e below P (T'.setTop (mkF m pc' Ls (v.toList ++ under)))) : Go p e below P (T.setTop (mkF m pc Ls st)) := by
  subst hp hst
  obtain ⟨v, _, ⟨T', L', k', n'⟩, -, X', ⟨Lc, hQ, l', y', z'⟩, st'⟩ := Jvm.LawKit.callS X B.1 (y := y) B.2.2.2.1 (mvT B.2.2.2.2.2.2.2 w1) (mvT B.2.2.2.2.2.2.2 w2) (mvT B.2.2.2.2.2.2.2 wz) (mvT B.2.2.2.2.2.2.2 wc) hy (backOf (W := W) hM B.2.2.2.2.2.2.2 wc wz hf hlo) (g := mkF m pc Ls (argsL.reverse ++ under)) rfl (by rw [B.2.2.1]; exact hsz) (argsL := argsL) (rest := under) hlen rfl (by show 2 * 0 + _ ≤ _; rw [Nat.mul_zero, Nat.zero_add]; exact Nat.le_of_eq hW) (hb B.2.1 hd) (fun _ _ => ⟨rfl, eT, hce, hsl⟩)
  dsimp only [Pt.U, Pt.locs, Pt.cells, Pt.slots] at X' l' y' z' st' hQ
  subst l' y' z'
  exact Go.on st' (k v T' Lc X' hQ)
theorem c_init (B : Ctx p s m meth c Z own nm bytes maxL ret) (X : Stand p l e R s m args below meth c T locs cells slots) {y : MethodName} {bs : ByteArray} {mx : Nat} {rm : Room} {i W : Nat} {argsL under : List Value} {Q : Option Value → Heap → List Loc → Prop} {st : List Value} {b : Addr} (eT : T.heap = h) (hy1 : y.name = "<init>") (w1 : (Jvm.Cond.methodLink own i y).before a0 Z = true) (w2 : (Jvm.Cond.instanceMethod y).before a0 Z = true) (wc : (Jvm.Cond.code y bs mx none).before a0 Z = true) (wz : (Jvm.Cond.initialized y.cls).before a0 Z = true) (hy : y.cls ≠ "java/lang/invoke/MethodHandle" ∧ y.cls ≠ "java/lang/invoke/VarHandle") (hM : OMeets l Z y bs mx none [] rm (.ref b :: argsL).toArray h Q) (hlen : ∀ sig, parseMethodDescriptor y.desc = some sig → argsL.length = sig.parameters.length) (hst : st = argsL.reverse ++ .ref b :: under) (hW : (under.map fun v => v.category).sum = W) (hf : rm.frames + 1 ≤ R.frames) (hlo : W + (mx + 11) + rm.locals ≤ R.locals) (hce : cells + rm.cells ≤ R.cells) (hsl : slots + rm.slots ≤ R.slots) (hsz : Ls.size = maxL) (hd : decode bytes pc = .ok (.invokespecial i, 3)) (hp : pc + 3 = pc') (k : ∀ v T' L, Stand p l e R s m args below meth c T' (locs ++ L) (cells + rm.cells) (slots + rm.slots) → Q v T'.heap L → Go p e below P (T'.setTop (mkF m pc' Ls (v.toList ++ under)))) : Go p e below P (T.setTop (mkF m pc Ls st)) := by
  subst hp hst
  obtain ⟨v, _, ⟨T', L', k', n'⟩, -, X', ⟨Lc, hQ, l', y', z'⟩, st'⟩ := X.specialBack B.1 (y := y) hy1 B.2.2.2.1 (mvT B.2.2.2.2.2.2.2 w1) (mvT B.2.2.2.2.2.2.2 w2) (mvT B.2.2.2.2.2.2.2 wc) hy (backOf (W := W) hM B.2.2.2.2.2.2.2 wc wz hf hlo) (g := mkF m pc Ls (argsL.reverse ++ .ref b :: under)) rfl (by rw [B.2.2.1]; exact hsz) (Steps.refl _) (a := b) (argsL := argsL) (rest := under) hlen rfl (by show 2 * 0 + _ ≤ _; rw [Nat.mul_zero, Nat.zero_add]; exact Nat.le_of_eq hW) (hb B.2.1 hd) (fun _ _ => ⟨rfl, eT, hce, hsl⟩)
  dsimp only [Pt.U, Pt.locs, Pt.cells, Pt.slots] at X' l' y' z' st' hQ
  subst l' y' z'
  exact Go.on (fun t q => st'.trans q) (k v T' Lc X' hQ)
theorem p_virtual (B : Ctx p s m meth c Z own nm bytes maxL ret) (X : Stand p l e R s m args below meth c T locs cells slots) {y : MethodName} {bs : ByteArray} {mx : Nat} {rt : Option FieldType} {rm : Room} {i W : Nat} {argsL under : List Value} {st : List Value} {C : String} {b : Addr} {r : Option Value} (eT : T.heap = h) (w1 : (Jvm.Cond.methodLink own i y).before a0 Z = true) (w2 : (Jvm.Cond.declares y).before a0 Z = true) (w3 : (Jvm.Cond.selects C y y).before a0 Z = true) (w4 : (Jvm.Cond.instanceMethod y).before a0 Z = true) (wc : (Jvm.Cond.code y bs mx rt).before a0 Z = true) (wz : (Jvm.Cond.initialized y.cls).before a0 Z = true) (hy : y.cls ≠ "java/lang/invoke/MethodHandle" ∧ y.cls ≠ "java/lang/invoke/VarHandle") (hM : OMeets l Z y bs mx rt [] rm (.ref b :: argsL).toArray h (PureQ r h)) (E : Exa Z h b C) (hlen : ∀ sig, parseMethodDescriptor y.desc = some sig → argsL.length = sig.parameters.length) (hst : st = argsL.reverse ++ .ref b :: under) (hW : (under.map fun v => v.category).sum = W) (hf : rm.frames + 1 ≤ R.frames) (hlo : W + (mx + 11) + rm.locals ≤ R.locals) (hce : rm.cells = 0) (hsl : rm.slots = 0) (hc0 : cells ≤ R.cells) (hs0 : slots ≤ R.slots) (hsz : Ls.size = maxL) (hd : decode bytes pc = .ok (.invokevirtual i, 3)) (hp : pc + 3 = pc') (k : ∀ T', Stand p l e R s m args below meth c T' locs cells slots → T'.heap = h → Go p e below P (T'.setTop (mkF m pc' Ls (r.toList ++ under)))) : Go p e below P (T.setTop (mkF m pc Ls st)) := by
  refine c_virtual B X eT w1 w2 w3 w4 wc wz hy hM E hlen hst hW hf hlo (by omega) (by omega) hsz hd hp ?_
  intro v T' L X' hQ
  obtain ⟨rfl, rfl, e'⟩ := hQ
  rw [hce, hsl, List.append_nil] at X'
  exact k T' X' e'
theorem p_static (B : Ctx p s m meth c Z own nm bytes maxL ret) (X : Stand p l e R s m args below meth c T locs cells slots) {y : MethodName} {bs : ByteArray} {mx : Nat} {rt : Option FieldType} {rm : Room} {i W : Nat} {argsL under : List Value} {st : List Value}  {r : Option Value} (eT : T.heap = h) (w1 : (Jvm.Cond.methodLink own i y).before a0 Z = true) (w2 : (Jvm.Cond.static y).before a0 Z = true) (wc : (Jvm.Cond.code y bs mx rt).before a0 Z = true) (wz : (Jvm.Cond.initialized y.cls).before a0 Z = true) (hy : y.cls ≠ "java/lang/invoke/MethodHandle" ∧ y.cls ≠ "java/lang/invoke/VarHandle") (hM : OMeets l Z y bs mx rt [] rm argsL.toArray h (PureQ r h))  (hlen : ∀ sig, parseMethodDescriptor y.desc = some sig → argsL.length = sig.parameters.length) (hst : st = argsL.reverse ++ under) (hW : (under.map fun v => v.category).sum = W) (hf : rm.frames + 1 ≤ R.frames) (hlo : W + (mx + 11) + rm.locals ≤ R.locals) (hce : rm.cells = 0) (hsl : rm.slots = 0) (hc0 : cells ≤ R.cells) (hs0 : slots ≤ R.slots) (hsz : Ls.size = maxL) (hd : decode bytes pc = .ok (.invokestatic i, 3)) (hp : pc + 3 = pc') (k : ∀ T', Stand p l e R s m args below meth c T' locs cells slots → T'.heap = h → Go p e below P (T'.setTop (mkF m pc' Ls (r.toList ++ under)))) : Go p e below P (T.setTop (mkF m pc Ls st)) := by
  refine c_static B X eT w1 w2 wc wz hy hM hlen hst hW hf hlo (by omega) (by omega) hsz hd hp ?_
  intro v T' L X' hQ
  obtain ⟨rfl, rfl, e'⟩ := hQ
  rw [hce, hsl, List.append_nil] at X'
  exact k T' X' e'
theorem p_init (B : Ctx p s m meth c Z own nm bytes maxL ret) (X : Stand p l e R s m args below meth c T locs cells slots) {y : MethodName} {bs : ByteArray} {mx : Nat} {rm : Room} {i W : Nat} {argsL under : List Value} {st : List Value} {b : Addr} (eT : T.heap = h) (hy1 : y.name = "<init>") (w1 : (Jvm.Cond.methodLink own i y).before a0 Z = true) (w2 : (Jvm.Cond.instanceMethod y).before a0 Z = true) (wc : (Jvm.Cond.code y bs mx none).before a0 Z = true) (wz : (Jvm.Cond.initialized y.cls).before a0 Z = true) (hy : y.cls ≠ "java/lang/invoke/MethodHandle" ∧ y.cls ≠ "java/lang/invoke/VarHandle") (hM : OMeets l Z y bs mx none [] rm (.ref b :: argsL).toArray h (PureQ none h)) (hlen : ∀ sig, parseMethodDescriptor y.desc = some sig → argsL.length = sig.parameters.length) (hst : st = argsL.reverse ++ .ref b :: under) (hW : (under.map fun v => v.category).sum = W) (hf : rm.frames + 1 ≤ R.frames) (hlo : W + (mx + 11) + rm.locals ≤ R.locals) (hce : rm.cells = 0) (hsl : rm.slots = 0) (hc0 : cells ≤ R.cells) (hs0 : slots ≤ R.slots) (hsz : Ls.size = maxL) (hd : decode bytes pc = .ok (.invokespecial i, 3)) (hp : pc + 3 = pc') (k : ∀ T', Stand p l e R s m args below meth c T' locs cells slots → T'.heap = h → Go p e below P (T'.setTop (mkF m pc' Ls under))) : Go p e below P (T.setTop (mkF m pc Ls st)) := by
  refine c_init B X eT hy1 w1 w2 wc wz hy hM hlen hst hW hf hlo (by omega) (by omega) hsz hd hp ?_
  intro v T' L X' hQ
  obtain ⟨rfl, rfl, e'⟩ := hQ
  rw [hce, hsl, List.append_nil] at X'
  exact k T' X' e'
theorem c_virtualUp (B : Ctx p s m meth c Z own nm bytes maxL ret) (X : Stand p l e R s m args below meth c T locs cells slots) {y z : MethodName} {bs : ByteArray} {mx : Nat} {rt : Option FieldType} {rm : Room} {i W : Nat} {argsL under : List Value} {Q : Option Value → Heap → List Loc → Prop} {st : List Value} {C owner : String} {b : Addr} (eT : T.heap = h) (w1 : (Jvm.Cond.methodLink own i y).before a0 Z = true) (ws : (Jvm.Cond.sameMethod y.cls owner y.name y.desc).before a0 Z = true) (w2 : (Jvm.Cond.declares ⟨owner, y.name, y.desc⟩).before a0 Z = true) (w3 : (Jvm.Cond.selects C y z).before a0 Z = true) (w4 : (Jvm.Cond.instanceMethod z).before a0 Z = true) (wc : (Jvm.Cond.code z bs mx rt).before a0 Z = true) (wz : (Jvm.Cond.initialized z.cls).before a0 Z = true) (hy : owner ≠ "java/lang/invoke/MethodHandle" ∧ owner ≠ "java/lang/invoke/VarHandle") (hM : OMeets l Z z bs mx rt [] rm (.ref b :: argsL).toArray h Q) (E : Exa Z h b C) (hlen : ∀ sig, parseMethodDescriptor y.desc = some sig → argsL.length = sig.parameters.length) (hst : st = argsL.reverse ++ .ref b :: under) (hW : (under.map fun v => v.category).sum = W) (hf : rm.frames + 1 ≤ R.frames) (hlo : W + (mx + 11) + rm.locals ≤ R.locals) (hce : cells + rm.cells ≤ R.cells) (hsl : slots + rm.slots ≤ R.slots) (hsz : Ls.size = maxL) (hd : decode bytes pc = .ok (.invokevirtual i, 3)) (hp : pc + 3 = pc') (k : ∀ v T' L, Stand p l e R s m args below meth c T' (locs ++ L) (cells + rm.cells) (slots + rm.slots) → Q v T'.heap L → Go p e below P (T'.setTop (mkF m pc' Ls (v.toList ++ under)))) : Go p e below P (T.setTop (mkF m pc Ls st)) := by
  subst hp hst
  obtain ⟨cq, kq, qa, qb, qc⟩ := isOf B.2.2.2.2.2.2.2 eT E
  obtain ⟨v, _, ⟨T', L', k', n'⟩, -, X', ⟨Lc, hQ, l', y', z'⟩, st'⟩ := X.virtualBackUp B.1 (x := y) (y := z) B.2.2.2.1 (mvT B.2.2.2.2.2.2.2 w1) (mvT B.2.2.2.2.2.2.2 ws) (mvT B.2.2.2.2.2.2.2 w2) hy (mvT B.2.2.2.2.2.2.2 w3) (mvT B.2.2.2.2.2.2.2 w4) (backOf (W := W) hM B.2.2.2.2.2.2.2 wc wz hf hlo) qa qc (g := mkF m pc Ls (argsL.reverse ++ .ref b :: under)) rfl (by rw [B.2.2.1]; exact hsz) (Steps.refl _) (argsL := argsL) (rest := under) hlen rfl (by show 2 * 0 + _ ≤ _; rw [Nat.mul_zero, Nat.zero_add]; exact Nat.le_of_eq hW) (hb B.2.1 hd) (fun _ _ => ⟨rfl, eT, hce, hsl⟩)
  dsimp only [Pt.U, Pt.locs, Pt.cells, Pt.slots] at X' l' y' z' st' hQ
  subst l' y' z'
  exact Go.on (fun t q => st'.trans q) (k v T' Lc X' hQ)
theorem p_virtualUp (B : Ctx p s m meth c Z own nm bytes maxL ret) (X : Stand p l e R s m args below meth c T locs cells slots) {y z : MethodName} {bs : ByteArray} {mx : Nat} {rt : Option FieldType} {rm : Room} {i W : Nat} {argsL under : List Value} {st : List Value} {C owner : String} {b : Addr} {r : Option Value} (eT : T.heap = h) (w1 : (Jvm.Cond.methodLink own i y).before a0 Z = true) (ws : (Jvm.Cond.sameMethod y.cls owner y.name y.desc).before a0 Z = true) (w2 : (Jvm.Cond.declares ⟨owner, y.name, y.desc⟩).before a0 Z = true) (w3 : (Jvm.Cond.selects C y z).before a0 Z = true) (w4 : (Jvm.Cond.instanceMethod z).before a0 Z = true) (wc : (Jvm.Cond.code z bs mx rt).before a0 Z = true) (wz : (Jvm.Cond.initialized z.cls).before a0 Z = true) (hy : owner ≠ "java/lang/invoke/MethodHandle" ∧ owner ≠ "java/lang/invoke/VarHandle") (hM : OMeets l Z z bs mx rt [] rm (.ref b :: argsL).toArray h (PureQ r h)) (E : Exa Z h b C) (hlen : ∀ sig, parseMethodDescriptor y.desc = some sig → argsL.length = sig.parameters.length) (hst : st = argsL.reverse ++ .ref b :: under) (hW : (under.map fun v => v.category).sum = W) (hf : rm.frames + 1 ≤ R.frames) (hlo : W + (mx + 11) + rm.locals ≤ R.locals) (hce : rm.cells = 0) (hsl : rm.slots = 0) (hc0 : cells ≤ R.cells) (hs0 : slots ≤ R.slots) (hsz : Ls.size = maxL) (hd : decode bytes pc = .ok (.invokevirtual i, 3)) (hp : pc + 3 = pc') (k : ∀ T', Stand p l e R s m args below meth c T' locs cells slots → T'.heap = h → Go p e below P (T'.setTop (mkF m pc' Ls (r.toList ++ under)))) : Go p e below P (T.setTop (mkF m pc Ls st)) := by
  refine c_virtualUp B X eT w1 ws w2 w3 w4 wc wz hy hM E hlen hst hW hf hlo (by omega) (by omega) hsz hd hp ?_
  intro v T' L X' hQ
  obtain ⟨rfl, rfl, e'⟩ := hQ
  rw [hce, hsl, List.append_nil] at X'
  exact k T' X' e'
end Kit
end Jvm.OwnKit

namespace Jvm.OwnKit
open Sem ClassFile Op Lib Jvm.Stand Jvm.Free Jvm.LawKit Jvm.RoadKit
section Heap
variable {p : Program} {l : Launch} {e : Env} {R : Room} {s : State} {m : MethodId} {args : Array Value} {below : List Frame} {meth : Method} {c : Code} {T : State} {locs : List Loc} {cells slots : Nat} {Z : State} {a0 : Array Value} {h h' : Heap} {own nm : String} {bytes : ByteArray} {maxL : Nat} {ret : Option FieldType} {P : Outcome → State → Prop} {pc pc' : Nat} {Ls Ls' : Array Slot} {rest : List Value} {a b : Addr} {k : ClassId} {ty : FieldType} {n i : Nat} {f g : Nat → Value} {v w : Value} {sl : Nat} {ws : List Addr}
/-- an array at a: n places, place i holds f i -/
def Ary (Z : State) (h : Heap) (a : Addr) (k : ClassId) (ty : FieldType) (n : Nat) (f : Nat → Value) : Prop := ∃ c : Cell, Arr Z h a c ty ∧ c.cls = k ∧ c.slots.size = n ∧ n < 2 ^ 31 ∧ ∀ i, i < n → c.slots[i]? = some (f i)
def upd (f : Nat → Value) (j : Nat) (v : Value) : Nat → Value := fun i => if i = j then v else f i
def lst (L : List Value) (d : Value) : Nat → Value := fun i => L.getD i d
theorem Ary.lt (F : Ary Z h a k ty n f) : a < h.size := by obtain ⟨c, A, -⟩ := F; exact A.lt
theorem Ary.ext (E : Ext h h') (F : Ary Z h a k ty n f) : Ary Z h' a k ty n f := by obtain ⟨c, A, r⟩ := F; exact ⟨c, A.ext E, r⟩
theorem Ary.other (W : Wr h h' b sl v) (F : Ary Z h a k ty n f) (q : a ≠ b) : Ary Z h' a k ty n f := by obtain ⟨c, A, r⟩ := F; exact ⟨c, A.other W q, r⟩
theorem Ary.keep (F : Ary Z h a k ty n f) (K : Keep h h' ws) (q : a ∉ ws) : Ary Z h' a k ty n f := by obtain ⟨c, A, r⟩ := F; exact ⟨c, ⟨K.2.1 a c A.1 q, A.2⟩, r⟩
theorem Ary.congr (F : Ary Z h a k ty n f) (q : ∀ i, i < n → f i = g i) : Ary Z h a k ty n g := by obtain ⟨c, A, r1, r2, r3, r4⟩ := F; exact ⟨c, A, r1, r2, r3, fun i hi => by rw [r4 i hi, q i hi]⟩
theorem upd_lst {L : List Value} {d v : Value} {j : Nat} (hj : j < L.length) {L' : List Value} (e : L.set j v = L') : upd (lst L d) j v = lst L' d := by
  subst e; funext i
  simp only [upd, lst, List.getD_eq_getElem?_getD, List.getElem?_set]
  by_cases q : i = j
  · subst q; simp [hj]
  · simp [q, Ne.symm q]
theorem Ary.same {j : Nat} (W : Wr h h' a j v) (F : Ary Z h a k ty n f) : Ary Z h' a k ty n (upd f j v) := by
  obtain ⟨c, A, r1, r2, r3, r4⟩ := F
  obtain ⟨cell, w1, w2, w3, -⟩ := id W
  cases w1.symm.trans A.1
  refine ⟨_, A.same W, r1, by rw [sz_set]; exact r2, r3, fun i hi => ?_⟩
  by_cases q : i = j
  · subst q; simp [Cell.setSlot, upd, w3]
  · simp only [Cell.setSlot, upd, if_neg q]; rw [Array.getElem?_setIfInBounds_ne (Ne.symm q)]; exact r4 i hi
theorem Ary.of_new {x : Int32} {N : Nat} (A : Arr Z h a (newA k ty x) ty) (hx : ¬ x < 0) (hN : x.toNatClampNeg = N) : Ary Z h a k ty N (fun _ => defaultValue ty) := by
  subst hN
  refine ⟨_, A, rfl, sz_new _ _ _, (back32 hx).2, fun i hi => ?_⟩
  simp [newA, hi]
theorem Ary.of_rep (F : Ary Z h a k ty n (fun _ => v)) {L : List Value} (q : ∀ i, i < n → L.getD i v = v) : Ary Z h a k ty n (lst L v) := F.congr fun i hi => (q i hi).symm

theorem Ary.sto {C : String} {y : Addr} (F : Ary Z h a k ty n f) (O : Ovr Z k C) (I : Ins Z h y C true) : Sto Z h a (.ref y) := by obtain ⟨c, A, r, -⟩ := F; exact Sto.of A (r ▸ O) I
theorem Ary.full {L : List Value} {j : Nat} {L' : List Value} (F : Ary Z h a k ty n (upd (lst L w) j v)) (hj : j < L.length) (e : L.set j v = L') : Ary Z h a k ty n (lst L' w) := by rw [← upd_lst (d := w) hj e]; exact F
theorem Ary.stoA {C : String} {y : Addr} {t0 : FieldType} (F : Ary Z h a k ty n f) (O : OvrA Z k t0 C) (I : Ins Z h y C true) : Sto Z h a (.ref y) := by obtain ⟨c, A, r, -⟩ := F; exact Sto.ofVA A r O I
theorem old_le {n0 : Nat} (O : Old Z n0 h) : n0 ≤ h.size := O.1 ▸ O.2.1
theorem s_new (B : Ctx p s m meth c Z own nm bytes maxL ret) (X : Stand p l e R s m args below meth c T locs cells slots) {C : String} {i0 n0 : Nat} (eT : T.heap = h) (w : (Jvm.Cond.classLink own i0 C).before a0 Z = true) (wi : (Jvm.Cond.instantiable C n0).before a0 Z = true) (wz : (Jvm.Cond.initialized C).before a0 Z = true) (hc : cells + 1 ≤ R.cells) (hl : slots + n0 ≤ R.slots) (hd : decode bytes pc = .ok (.new i0, 3)) (hp : pc + 3 = pc') (k : ∀ T' h' a, a = h.size → Stand p l e R s m args below meth c T' locs (cells + 1) (slots + n0) → T'.heap = h' → Ext h h' → Exa Z h' a C → (∀ {O nm d : String} {ty : FieldType}, Laid Z a0 C O nm d → parseFieldDescriptor d = some ty → Fld Z h' a O nm d (defaultValue ty)) → Go p e below P (T'.setTop (mkF m pc' Ls (.ref a :: rest)))) : Go p e below P (T.setTop (mkF m pc Ls (rest))) := by
  subst hp
  obtain ⟨T', h', X', e', E, A, D, -, st⟩ := newO X B.1 B.2.2.2.2.2.2.2 B.2.2.2.1 w wi wz eT (g := mkF m pc Ls rest) rfl (hb B.2.1 hd) hc hl
  exact Go.on st (k T' h' _ rfl X' e' E A D)
theorem s_initO (B : Ctx p s m meth c Z own nm bytes maxL ret) (X : Stand p l e R s m args below meth c T locs cells slots) {i0 W : Nat} {a : Addr} (eT : T.heap = h) (w1 : (Jvm.Cond.methodLink own i0 Lib.objectInit).before a0 Z = true) (w2 : (Jvm.Cond.instanceMethod Lib.objectInit).before a0 Z = true) (w3 : (Jvm.Cond.code Lib.objectInit ⟨#[0xb1]⟩ 1 none).before a0 Z = true) (hW : (rest.map fun v => v.category).sum = W) (hf : 1 ≤ R.frames) (hl : W + 12 ≤ R.locals) (hsz : Ls.size = maxL) (hd : decode bytes pc = .ok (.invokespecial i0, 3)) (hp : pc + 3 = pc') (k : ∀ T', Stand p l e R s m args below meth c T' locs cells slots → T'.heap = h → Go p e below P (T'.setTop (mkF m pc' Ls (rest)))) : Go p e below P (T.setTop (mkF m pc Ls (.ref a :: rest))) := by
  subst hp
  obtain ⟨T', X', e', st⟩ := initO X B.1 B.2.2.2.2.2.2.2 B.2.2.2.1 w1 w2 w3 eT (g := mkF m pc Ls (.ref a :: rest)) rfl (by rw [B.2.2.1]; exact hsz) rfl (hb B.2.1 hd) hf (W := W) (by show 2 * 0 + _ ≤ _; rw [Nat.mul_zero, Nat.zero_add]; exact Nat.le_of_eq hW) hl
  exact Go.on st (k T' X' e')
theorem s_putF (B : Ctx p s m meth c Z own nm bytes maxL ret) (X : Stand p l e R s m args below meth c T locs cells slots) {i0 kk : Nat} {R0 O n d host C : String} {ty : FieldType} {a : Addr} {v old : Value} (eT : T.heap = h) (w : (Jvm.Cond.fieldLink own i0 R0 n d).before a0 Z = true ∨ (Jvm.Cond.fieldLinkNest own i0 R0 n d host).before a0 Z = true) (via : Via Z R0 O n d) (F : Fld Z h a O n d old) (E : Exa Z h a C) (L : (Jvm.Cond.lays C O n d).before a0 Z = true ∨ ((Jvm.Cond.laysFinal C O n d).before a0 Z = true ∧ own = O ∧ nm = "<init>")) (wi : (Jvm.Cond.instantiable C kk).before a0 Z = true) (hty : parseFieldDescriptor d = some ty) (hn : narrow ty v = v) (hf : fits ty v = true) (hd : decode bytes pc = .ok (.putfield i0, 3)) (hp : pc + 3 = pc') (k : ∀ T' h', Stand p l e R s m args below meth c T' (locs ++ [⟨a, Jvm.RoadKit.slotOf Z O n d⟩]) cells slots → T'.heap = h' → Wr h h' a (Jvm.RoadKit.slotOf Z O n d) v → Go p e below P (T'.setTop (mkF m pc' Ls (rest)))) : Go p e below P (T.setTop (mkF m pc Ls (v :: .ref a :: rest))) := by
  subst hp
  obtain ⟨T', h', X', e', W, st⟩ := putF X B.1 B.2.2.2.2.2.2.2 B.2.2.2.1 w via eT F E (L.imp id fun q => ⟨q.1, q.2.1, by rw [B.2.2.2.2.1]; exact q.2.2⟩) wi hty hn hf (g := mkF m pc Ls (v :: .ref a :: rest)) rfl rfl (hb B.2.1 hd)
  exact Go.on st (k T' h' X' e' W)
theorem s_putFN (B : Ctx p s m meth c Z own nm bytes maxL ret) (X : Stand p l e R s m args below meth c T locs cells slots) {i0 kk : Nat} {R0 O n d C : String} {ty : FieldType} {a : Addr} {v v' old : Value} (eT : T.heap = h) (w : (Jvm.Cond.fieldLink own i0 R0 n d).before a0 Z = true) (via : Via Z R0 O n d) (F : Fld Z h a O n d old) (E : Exa Z h a C) (L : (Jvm.Cond.lays C O n d).before a0 Z = true ∨ ((Jvm.Cond.laysFinal C O n d).before a0 Z = true ∧ own = O ∧ nm = "<init>")) (wi : (Jvm.Cond.instantiable C kk).before a0 Z = true) (hty : parseFieldDescriptor d = some ty) (hn : narrow ty v = v') (hf : fits ty v' = true) (hd : decode bytes pc = .ok (.putfield i0, 3)) (hp : pc + 3 = pc') (k : ∀ T' h', Stand p l e R s m args below meth c T' (locs ++ [⟨a, Jvm.RoadKit.slotOf Z O n d⟩]) cells slots → T'.heap = h' → Wr h h' a (Jvm.RoadKit.slotOf Z O n d) v' → Go p e below P (T'.setTop (mkF m pc' Ls (rest)))) : Go p e below P (T.setTop (mkF m pc Ls (v :: .ref a :: rest))) := by
  subst hp
  obtain ⟨T', h', X', e', W, st⟩ := putFN X B.1 B.2.2.2.2.2.2.2 B.2.2.2.1 w via eT F E (L.imp id fun q => ⟨q.1, q.2.1, by rw [B.2.2.2.2.1]; exact q.2.2⟩) wi hty hn hf (g := mkF m pc Ls (v :: .ref a :: rest)) rfl rfl (hb B.2.1 hd)
  exact Go.on st (k T' h' X' e' W)
theorem s_newP (B : Ctx p s m meth c Z own nm bytes maxL ret) (X : Stand p l e R s m args below meth c T locs cells slots) {aty : ArrayType} {x : Int32} {N : Nat} (eT : T.heap = h) (w : (Jvm.Cond.arrayClass (newarray.typeOf aty)).before a0 Z = true) (hn : ¬ x < 0) (hN : x.toNatClampNeg = N) {cap : Nat} (hcap : N ≤ cap) (hb8 : cap * 8 ≤ 536870912) (hc : cells + 1 ≤ R.cells) (hl : slots + cap ≤ R.slots) (hd : decode bytes pc = .ok (.newarray aty, 2)) (hp : pc + 2 = pc') (k : ∀ T' h' a kA, a = h.size → Stand p l e R s m args below meth c T' locs (cells + 1) (slots + cap) → T'.heap = h' → Ext h h' → Ary Z h' a kA (newarray.typeOf aty) N (fun _ => defaultValue (newarray.typeOf aty)) → Go p e below P (T'.setTop (mkF m pc' Ls (.ref a :: rest)))) : Go p e below P (T.setTop (mkF m pc Ls (.int x :: rest))) := by
  subst hp
  obtain ⟨T', h', cA, X', e', E, A, st⟩ := newP X B.1 B.2.2.2.2.2.2.2 w eT (g := mkF m pc Ls (.int x :: rest)) rfl (hb B.2.1 hd) rfl hn (cap := cap) (hN ▸ hcap) hb8 hc hl
  exact Go.on st (k T' h' _ cA rfl X' e' E (Ary.of_new A hn hN))
theorem s_newR (B : Ctx p s m meth c Z own nm bytes maxL ret) (X : Stand p l e R s m args below meth c T locs cells slots) {i0 : Nat} {C : String} {x : Int32} {N : Nat} (eT : T.heap = h) (w1 : (Jvm.Cond.classLink own i0 C).before a0 Z = true) (w2 : (Jvm.Cond.arrayOver (.object C)).before a0 Z = true) (hn : ¬ x < 0) (hN : x.toNatClampNeg = N) {cap : Nat} (hcap : N ≤ cap) (hb8 : cap * 8 ≤ 536870912) (hc : cells + 1 ≤ R.cells) (hl : slots + cap ≤ R.slots) (hd : decode bytes pc = .ok (.anewarray i0, 3)) (hp : pc + 3 = pc') (k : ∀ T' h' a kA, a = h.size → Stand p l e R s m args below meth c T' locs (cells + 1) (slots + cap) → T'.heap = h' → Ext h h' → Ary Z h' a kA (.object C) N (fun _ => .null) → Ovr Z kA C → Go p e below P (T'.setTop (mkF m pc' Ls (.ref a :: rest)))) : Go p e below P (T.setTop (mkF m pc Ls (.int x :: rest))) := by
  subst hp
  obtain ⟨T', h', cA, X', e', E, A, O, st⟩ := newR X B.1 B.2.2.2.2.2.2.2 B.2.2.2.1 w1 w2 eT (g := mkF m pc Ls (.int x :: rest)) rfl (hb B.2.1 hd) rfl hn (cap := cap) (hN ▸ hcap) hb8 hc hl
  exact Go.on st (k T' h' _ cA rfl X' e' E (Ary.of_new A hn hN) O)
theorem s_newRA (B : Ctx p s m meth c Z own nm bytes maxL ret) (X : Stand p l e R s m args below meth c T locs cells slots) {i0 : Nat} {C : String} {ty : FieldType} {x : Int32} {N : Nat} (eT : T.heap = h) (hC : (FieldType.array ty).toString = C) (w1 : (Jvm.Cond.classLink own i0 C).before a0 Z = true) (w2 : (Jvm.Cond.arrayOver (.array ty)).before a0 Z = true) (hn : ¬ x < 0) (hN : x.toNatClampNeg = N) {cap : Nat} (hcap : N ≤ cap) (hb8 : cap * 8 ≤ 536870912) (hc : cells + 1 ≤ R.cells) (hl : slots + cap ≤ R.slots) (hd : decode bytes pc = .ok (.anewarray i0, 3)) (hp : pc + 3 = pc') (k : ∀ T' h' a kA, a = h.size → Stand p l e R s m args below meth c T' locs (cells + 1) (slots + cap) → T'.heap = h' → Ext h h' → Ary Z h' a kA (.array ty) N (fun _ => .null) → OvrA Z kA ty C → Go p e below P (T'.setTop (mkF m pc' Ls (.ref a :: rest)))) : Go p e below P (T.setTop (mkF m pc Ls (.int x :: rest))) := by
  subst hp
  obtain ⟨T', h', cA, X', e', E, A, -, O, st⟩ := newRA X B.1 B.2.2.2.2.2.2.2 B.2.2.2.1 hC w1 w2 eT (g := mkF m pc Ls (.int x :: rest)) rfl (hb B.2.1 hd) rfl hn (cap := cap) (hN ▸ hcap) hb8 hc hl rfl
  exact Go.on st (k T' h' _ cA rfl X' e' E (Ary.of_new A hn hN) O)
theorem s_stI (B : Ctx p s m meth c Z own nm bytes maxL ret) (X : Stand p l e R s m args below meth c T locs cells slots) {a : Addr} {x : Int32} {j : Int32} {jn N : Nat} {f : Nat → Value} {kA : ClassId} (eT : T.heap = h) (A : Ary Z h a kA .int N f) (hj : ¬ j < 0) (hjn : j.toNatClampNeg = jn) (hlt : jn < N) (hd : decode bytes pc = .ok (.iastore, 1)) (hp : pc + 1 = pc') (k : ∀ T' h', Stand p l e R s m args below meth c T' (locs ++ [⟨a, jn⟩]) cells slots → T'.heap = h' → Wr h h' a jn (.int x) → Ary Z h' a kA .int N (upd f jn (.int x)) → Go p e below P (T'.setTop (mkF m pc' Ls (rest)))) : Go p e below P (T.setTop (mkF m pc Ls (.int x :: .int j :: .ref a :: rest))) := by
  subst hp
  subst hjn
  obtain ⟨cl, A1, q1, q2, q3, q4⟩ := id A
  obtain ⟨T', h', X', e', W, st⟩ := stI X B.1 B.2.2.2.2.2.2.2 eT A1 (j := j) (by rw [q2]; intro z; rcases z with z | z; exact hj z; omega) (g := mkF m pc Ls (.int x :: .int j :: .ref a :: rest)) rfl rfl (hb B.2.1 hd)
  exact Go.on st (k T' h' X' e' W (A.same W))
theorem s_stJ (B : Ctx p s m meth c Z own nm bytes maxL ret) (X : Stand p l e R s m args below meth c T locs cells slots) {a : Addr} {x : Int64} {j : Int32} {jn N : Nat} {f : Nat → Value} {kA : ClassId} (eT : T.heap = h) (A : Ary Z h a kA .long N f) (hj : ¬ j < 0) (hjn : j.toNatClampNeg = jn) (hlt : jn < N) (hd : decode bytes pc = .ok (.lastore, 1)) (hp : pc + 1 = pc') (k : ∀ T' h', Stand p l e R s m args below meth c T' (locs ++ [⟨a, jn⟩]) cells slots → T'.heap = h' → Wr h h' a jn (.long x) → Ary Z h' a kA .long N (upd f jn (.long x)) → Go p e below P (T'.setTop (mkF m pc' Ls (rest)))) : Go p e below P (T.setTop (mkF m pc Ls (.long x :: .int j :: .ref a :: rest))) := by
  subst hp
  subst hjn
  obtain ⟨cl, A1, q1, q2, q3, q4⟩ := id A
  obtain ⟨T', h', X', e', W, st⟩ := stJ X B.1 B.2.2.2.2.2.2.2 eT A1 (j := j) (by rw [q2]; intro z; rcases z with z | z; exact hj z; omega) (g := mkF m pc Ls (.long x :: .int j :: .ref a :: rest)) rfl rfl (hb B.2.1 hd)
  exact Go.on st (k T' h' X' e' W (A.same W))
theorem s_stB (B : Ctx p s m meth c Z own nm bytes maxL ret) (X : Stand p l e R s m args below meth c T locs cells slots) {a : Addr} {x : Int32} {j : Int32} {jn N : Nat} {f : Nat → Value} {kA : ClassId} (eT : T.heap = h) (A : Ary Z h a kA .byte N f) (hj : ¬ j < 0) (hjn : j.toNatClampNeg = jn) (hlt : jn < N) (hd : decode bytes pc = .ok (.bastore, 1)) (hp : pc + 1 = pc') (k : ∀ T' h', Stand p l e R s m args below meth c T' (locs ++ [⟨a, jn⟩]) cells slots → T'.heap = h' → Wr h h' a jn (.int (nar .byte x)) → Ary Z h' a kA .byte N (upd f jn (.int (nar .byte x))) → Go p e below P (T'.setTop (mkF m pc' Ls (rest)))) : Go p e below P (T.setTop (mkF m pc Ls (.int x :: .int j :: .ref a :: rest))) := by
  subst hp
  subst hjn
  obtain ⟨cl, A1, q1, q2, q3, q4⟩ := id A
  obtain ⟨T', h', X', e', W, st⟩ := stB X B.1 B.2.2.2.2.2.2.2 eT A1 (j := j) (by rw [q2]; intro z; rcases z with z | z; exact hj z; omega) (g := mkF m pc Ls (.int x :: .int j :: .ref a :: rest)) rfl rfl (hb B.2.1 hd)
  exact Go.on st (k T' h' X' e' W (A.same W))
theorem s_stZ (B : Ctx p s m meth c Z own nm bytes maxL ret) (X : Stand p l e R s m args below meth c T locs cells slots) {a : Addr} {x : Int32} {j : Int32} {jn N : Nat} {f : Nat → Value} {kA : ClassId} (eT : T.heap = h) (A : Ary Z h a kA .boolean N f) (hj : ¬ j < 0) (hjn : j.toNatClampNeg = jn) (hlt : jn < N) (hd : decode bytes pc = .ok (.bastore, 1)) (hp : pc + 1 = pc') (k : ∀ T' h', Stand p l e R s m args below meth c T' (locs ++ [⟨a, jn⟩]) cells slots → T'.heap = h' → Wr h h' a jn (.int (nar .boolean x)) → Ary Z h' a kA .boolean N (upd f jn (.int (nar .boolean x))) → Go p e below P (T'.setTop (mkF m pc' Ls (rest)))) : Go p e below P (T.setTop (mkF m pc Ls (.int x :: .int j :: .ref a :: rest))) := by
  subst hp
  subst hjn
  obtain ⟨cl, A1, q1, q2, q3, q4⟩ := id A
  obtain ⟨T', h', X', e', W, st⟩ := stZ X B.1 B.2.2.2.2.2.2.2 eT A1 (j := j) (by rw [q2]; intro z; rcases z with z | z; exact hj z; omega) (g := mkF m pc Ls (.int x :: .int j :: .ref a :: rest)) rfl rfl (hb B.2.1 hd)
  exact Go.on st (k T' h' X' e' W (A.same W))
theorem s_stC (B : Ctx p s m meth c Z own nm bytes maxL ret) (X : Stand p l e R s m args below meth c T locs cells slots) {a : Addr} {x : Int32} {j : Int32} {jn N : Nat} {f : Nat → Value} {kA : ClassId} (eT : T.heap = h) (A : Ary Z h a kA .char N f) (hj : ¬ j < 0) (hjn : j.toNatClampNeg = jn) (hlt : jn < N) (hd : decode bytes pc = .ok (.castore, 1)) (hp : pc + 1 = pc') (k : ∀ T' h', Stand p l e R s m args below meth c T' (locs ++ [⟨a, jn⟩]) cells slots → T'.heap = h' → Wr h h' a jn (.int (nar .char x)) → Ary Z h' a kA .char N (upd f jn (.int (nar .char x))) → Go p e below P (T'.setTop (mkF m pc' Ls (rest)))) : Go p e below P (T.setTop (mkF m pc Ls (.int x :: .int j :: .ref a :: rest))) := by
  subst hp
  subst hjn
  obtain ⟨cl, A1, q1, q2, q3, q4⟩ := id A
  obtain ⟨T', h', X', e', W, st⟩ := stC X B.1 B.2.2.2.2.2.2.2 eT A1 (j := j) (by rw [q2]; intro z; rcases z with z | z; exact hj z; omega) (g := mkF m pc Ls (.int x :: .int j :: .ref a :: rest)) rfl rfl (hb B.2.1 hd)
  exact Go.on st (k T' h' X' e' W (A.same W))
theorem s_stR (B : Ctx p s m meth c Z own nm bytes maxL ret) (X : Stand p l e R s m args below meth c T locs cells slots) {a : Addr} {v : Value} {ty : FieldType} {j : Int32} {jn N : Nat} {f : Nat → Value} {kA : ClassId} (eT : T.heap = h) (A : Ary Z h a kA ty N f) (hty : ty.isReference = true) (S : Sto Z h a v) (hj : ¬ j < 0) (hjn : j.toNatClampNeg = jn) (hlt : jn < N) (hd : decode bytes pc = .ok (.aastore, 1)) (hp : pc + 1 = pc') (k : ∀ T' h', Stand p l e R s m args below meth c T' (locs ++ [⟨a, jn⟩]) cells slots → T'.heap = h' → Wr h h' a jn v → Ary Z h' a kA ty N (upd f jn v) → Go p e below P (T'.setTop (mkF m pc' Ls (rest)))) : Go p e below P (T.setTop (mkF m pc Ls (v :: .int j :: .ref a :: rest))) := by
  subst hp
  subst hjn
  obtain ⟨cl, A1, q1, q2, q3, q4⟩ := id A
  obtain ⟨T', h', X', e', W, st⟩ := stR X B.1 B.2.2.2.2.2.2.2 eT A1 (j := j) (by rw [q2]; intro z; rcases z with z | z; exact hj z; omega) hty S (g := mkF m pc Ls (v :: .int j :: .ref a :: rest)) rfl rfl (hb B.2.1 hd)
  exact Go.on st (k T' h' X' e' W (A.same W))
theorem s_ldI (B : Ctx p s m meth c Z own nm bytes maxL ret) (X : Stand p l e R s m args below meth c T locs cells slots) {a : Addr} {v : Value} {j : Int32} {jn N : Nat} {f : Nat → Value} {kA : ClassId} (eT : T.heap = h) (A : Ary Z h a kA .int N f) (hj : ¬ j < 0) (hjn : j.toNatClampNeg = jn) (hlt : jn < N) (hv : f jn = v) (hd : decode bytes pc = .ok (.iaload, 1)) (hp : pc + 1 = pc') (k : Go p e below P (T.setTop (mkF m pc' Ls (v :: rest)))) : Go p e below P (T.setTop (mkF m pc Ls (.int j :: .ref a :: rest))) := by
  subst hp hjn hv
  obtain ⟨cl, A1, q1, q2, q3, q4⟩ := A
  exact Go.on (X.iaload B.1 (j := j) (by rw [eT]; exact A1.1) (State.isArrayOf_alike B.2.2.2.2.2.2.2.alike A1.2.1) A1.2.2 (by rw [q2]; intro z; rcases z with z | z; exact hj z; omega) (q4 _ hlt) (g := mkF m pc Ls (.int j :: .ref a :: rest)) rfl rfl (hb B.2.1 hd)) k
theorem s_ldJ (B : Ctx p s m meth c Z own nm bytes maxL ret) (X : Stand p l e R s m args below meth c T locs cells slots) {a : Addr} {v : Value} {j : Int32} {jn N : Nat} {f : Nat → Value} {kA : ClassId} (eT : T.heap = h) (A : Ary Z h a kA .long N f) (hj : ¬ j < 0) (hjn : j.toNatClampNeg = jn) (hlt : jn < N) (hv : f jn = v) (hd : decode bytes pc = .ok (.laload, 1)) (hp : pc + 1 = pc') (k : Go p e below P (T.setTop (mkF m pc' Ls (v :: rest)))) : Go p e below P (T.setTop (mkF m pc Ls (.int j :: .ref a :: rest))) := by
  subst hp hjn hv
  obtain ⟨cl, A1, q1, q2, q3, q4⟩ := A
  exact Go.on (X.laload B.1 (j := j) (by rw [eT]; exact A1.1) (State.isArrayOf_alike B.2.2.2.2.2.2.2.alike A1.2.1) A1.2.2 (by rw [q2]; intro z; rcases z with z | z; exact hj z; omega) (q4 _ hlt) (g := mkF m pc Ls (.int j :: .ref a :: rest)) rfl rfl (hb B.2.1 hd)) k
theorem s_ldB (B : Ctx p s m meth c Z own nm bytes maxL ret) (X : Stand p l e R s m args below meth c T locs cells slots) {a : Addr} {v : Value} {j : Int32} {jn N : Nat} {f : Nat → Value} {kA : ClassId} (eT : T.heap = h) (A : Ary Z h a kA .byte N f) (hj : ¬ j < 0) (hjn : j.toNatClampNeg = jn) (hlt : jn < N) (hv : f jn = v) (hd : decode bytes pc = .ok (.baload, 1)) (hp : pc + 1 = pc') (k : Go p e below P (T.setTop (mkF m pc' Ls (v :: rest)))) : Go p e below P (T.setTop (mkF m pc Ls (.int j :: .ref a :: rest))) := by
  subst hp hjn hv
  obtain ⟨cl, A1, q1, q2, q3, q4⟩ := A
  exact Go.on (X.baloadBytes B.1 (j := j) (by rw [eT]; exact A1.1) (State.isArrayOf_alike B.2.2.2.2.2.2.2.alike A1.2.1) A1.2.2 (by rw [q2]; intro z; rcases z with z | z; exact hj z; omega) (q4 _ hlt) (g := mkF m pc Ls (.int j :: .ref a :: rest)) rfl rfl (hb B.2.1 hd)) k
theorem s_ldZ (B : Ctx p s m meth c Z own nm bytes maxL ret) (X : Stand p l e R s m args below meth c T locs cells slots) {a : Addr} {v : Value} {j : Int32} {jn N : Nat} {f : Nat → Value} {kA : ClassId} (eT : T.heap = h) (A : Ary Z h a kA .boolean N f) (hj : ¬ j < 0) (hjn : j.toNatClampNeg = jn) (hlt : jn < N) (hv : f jn = v) (hd : decode bytes pc = .ok (.baload, 1)) (hp : pc + 1 = pc') (k : Go p e below P (T.setTop (mkF m pc' Ls (v :: rest)))) : Go p e below P (T.setTop (mkF m pc Ls (.int j :: .ref a :: rest))) := by
  subst hp hjn hv
  obtain ⟨cl, A1, q1, q2, q3, q4⟩ := A
  exact Go.on (X.baloadBooleans B.1 (j := j) (by rw [eT]; exact A1.1) (State.isArrayOf_alike B.2.2.2.2.2.2.2.alike A1.2.1) A1.2.2 (by rw [q2]; intro z; rcases z with z | z; exact hj z; omega) (q4 _ hlt) (g := mkF m pc Ls (.int j :: .ref a :: rest)) rfl rfl (hb B.2.1 hd)) k
theorem s_ldC (B : Ctx p s m meth c Z own nm bytes maxL ret) (X : Stand p l e R s m args below meth c T locs cells slots) {a : Addr} {v : Value} {j : Int32} {jn N : Nat} {f : Nat → Value} {kA : ClassId} (eT : T.heap = h) (A : Ary Z h a kA .char N f) (hj : ¬ j < 0) (hjn : j.toNatClampNeg = jn) (hlt : jn < N) (hv : f jn = v) (hd : decode bytes pc = .ok (.caload, 1)) (hp : pc + 1 = pc') (k : Go p e below P (T.setTop (mkF m pc' Ls (v :: rest)))) : Go p e below P (T.setTop (mkF m pc Ls (.int j :: .ref a :: rest))) := by
  subst hp hjn hv
  obtain ⟨cl, A1, q1, q2, q3, q4⟩ := A
  exact Go.on (X.caload B.1 (j := j) (by rw [eT]; exact A1.1) (State.isArrayOf_alike B.2.2.2.2.2.2.2.alike A1.2.1) A1.2.2 (by rw [q2]; intro z; rcases z with z | z; exact hj z; omega) (q4 _ hlt) (g := mkF m pc Ls (.int j :: .ref a :: rest)) rfl rfl (hb B.2.1 hd)) k
theorem s_ldR (B : Ctx p s m meth c Z own nm bytes maxL ret) (X : Stand p l e R s m args below meth c T locs cells slots) {a : Addr} {v : Value} {ty : FieldType} {j : Int32} {jn N : Nat} {f : Nat → Value} {kA : ClassId} (eT : T.heap = h) (A : Ary Z h a kA ty N f) (hty : ty.isReference = true) (hj : ¬ j < 0) (hjn : j.toNatClampNeg = jn) (hlt : jn < N) (hv : f jn = v) (hd : decode bytes pc = .ok (.aaload, 1)) (hp : pc + 1 = pc') (k : Go p e below P (T.setTop (mkF m pc' Ls (v :: rest)))) : Go p e below P (T.setTop (mkF m pc Ls (.int j :: .ref a :: rest))) := by
  subst hp hjn hv
  obtain ⟨cl, A1, q1, q2, q3, q4⟩ := A
  exact Go.on (X.aaload B.1 (j := j) (by rw [eT]; exact A1.1) (State.isArrayOf_alike B.2.2.2.2.2.2.2.alike A1.2.1) hty A1.2.2 (by rw [q2]; intro z; rcases z with z | z; exact hj z; omega) (q4 _ hlt) (g := mkF m pc Ls (.int j :: .ref a :: rest)) rfl rfl (hb B.2.1 hd)) k
theorem s_len (B : Ctx p s m meth c Z own nm bytes maxL ret) (X : Stand p l e R s m args below meth c T locs cells slots) {a : Addr} {v : Int32} {ty : FieldType} {N : Nat} {f : Nat → Value} {kA : ClassId} (eT : T.heap = h) (A : Ary Z h a kA ty N f) (hv : N.toInt32 = v) (hd : decode bytes pc = .ok (.arraylength, 1)) (hp : pc + 1 = pc') (k : Go p e below P (T.setTop (mkF m pc' Ls (.int v :: rest)))) : Go p e below P (T.setTop (mkF m pc Ls (.ref a :: rest))) := by
  subst hp hv
  obtain ⟨cl, A1, q1, q2, q3, q4⟩ := A
  subst q2
  exact Go.on (X.arraylength B.1 (by rw [eT]; exact A1.1) (State.isArrayOf_alike B.2.2.2.2.2.2.2.alike A1.2.1) (g := mkF m pc Ls (.ref a :: rest)) rfl rfl (hb B.2.1 hd)) k
theorem s_castY (B : Ctx p s m meth c Z own nm bytes maxL ret) (X : Stand p l e R s m args below meth c T locs cells slots) {i0 : Nat} {K : String} {a : Addr} (eT : T.heap = h) (w : (Jvm.Cond.classLink own i0 K).before a0 Z = true) (F : Ins Z h a K true) (hd : decode bytes pc = .ok (.checkcast i0, 3)) (hp : pc + 3 = pc') (k : ∀ T', Stand p l e R s m args below meth c T' locs cells slots → T'.heap = h → Go p e below P (T'.setTop (mkF m pc' Ls (.ref a :: rest)))) : Go p e below P (T.setTop (mkF m pc Ls (.ref a :: rest))) := by
  subst hp
  obtain ⟨T', X', e', st⟩ := castY X B.1 B.2.2.2.2.2.2.2 B.2.2.2.1 w eT F (g := mkF m pc Ls (.ref a :: rest)) rfl rfl (hb B.2.1 hd)
  exact Go.on st (k T' X' e')
theorem s_instY (B : Ctx p s m meth c Z own nm bytes maxL ret) (X : Stand p l e R s m args below meth c T locs cells slots) {i0 : Nat} {K : String} {a : Addr} (eT : T.heap = h) (w : (Jvm.Cond.classLink own i0 K).before a0 Z = true) (F : Ins Z h a K true) (hd : decode bytes pc = .ok (.instanceof i0, 3)) (hp : pc + 3 = pc') (k : ∀ T', Stand p l e R s m args below meth c T' locs cells slots → T'.heap = h → Go p e below P (T'.setTop (mkF m pc' Ls (.int 1 :: rest)))) : Go p e below P (T.setTop (mkF m pc Ls (.ref a :: rest))) := by
  subst hp
  obtain ⟨T', X', e', st⟩ := instY X B.1 B.2.2.2.2.2.2.2 B.2.2.2.1 w eT F (g := mkF m pc Ls (.ref a :: rest)) rfl rfl (hb B.2.1 hd)
  exact Go.on st (k T' X' e')
theorem s_tswIn (B : Ctx p s m meth c Z own nm bytes maxL ret) (X : Stand p l e R s m args below meth c T locs cells slots) {df lo hi : Int} {offs : Array Int} {len : Nat} {o : Int} {x : Int32} (hd : decode bytes pc = .ok (.tableswitch df lo hi offs, len)) (hin : ¬ (x.toInt < lo ∨ x.toInt > hi)) (hoff : offs[(x.toInt - lo).toNat]? = some o) (ho : 0 ≤ (pc : Int) + o) (hp : ((pc : Int) + o).toNat = pc') (k : Go p e below P (T.setTop (mkF m pc' Ls (rest)))) : Go p e below P (T.setTop (mkF m pc Ls (.int x :: rest))) := Go.on (fun t => XS.tswIn (g := mkF m pc Ls (.int x :: rest)) X.here B.1 rfl (pc0 := pc) rfl (hb B.2.1 hd) (i := x) (rest := rest) rfl hin hoff ho hp) k
theorem s_tswOut (B : Ctx p s m meth c Z own nm bytes maxL ret) (X : Stand p l e R s m args below meth c T locs cells slots) {df lo hi : Int} {offs : Array Int} {len : Nat} {x : Int32} (hd : decode bytes pc = .ok (.tableswitch df lo hi offs, len)) (hout : x.toInt < lo ∨ x.toInt > hi) (ho : 0 ≤ (pc : Int) + df) (hp : ((pc : Int) + df).toNat = pc') (k : Go p e below P (T.setTop (mkF m pc' Ls (rest)))) : Go p e below P (T.setTop (mkF m pc Ls (.int x :: rest))) := Go.on (fun t => XS.tswOut (g := mkF m pc Ls (.int x :: rest)) X.here B.1 rfl (pc0 := pc) rfl (hb B.2.1 hd) (i := x) (rest := rest) rfl hout ho hp) k
end Heap
end Jvm.OwnKit

namespace Jvm.OwnKit
open Sem ClassFile Op Lib Jvm.Stand Jvm.Free Jvm.LawKit Jvm.RoadKit
section Start
variable {args : Array Value} {s : State} {t u : Term}
theorem eqI_v {k : Int32} (h : (Jvm.Cond.eq t (.int k)).value args s none s [] = some true) : t.eval args s none [] s = some (.int k) := by
  cases ht : t.eval args s none [] s with
  | none => simp [Cond.value, ht] at h
  | some x => cases x <;> simp [Cond.value, ht, Term.eval] at h ⊢; exact h
theorem eqJ_v {k : Int64} (h : (Jvm.Cond.eq t (.long k)).value args s none s [] = some true) : t.eval args s none [] s = some (.long k) := by
  cases ht : t.eval args s none [] s with
  | none => simp [Cond.value, ht] at h
  | some x => cases x <;> simp [Cond.value, ht, Term.eval] at h ⊢; exact h
theorem eqR_v {a : Addr} (hu : u.eval args s none [] s = some (.ref a)) (h : (Jvm.Cond.eq t u).value args s none s [] = some true) : t.eval args s none [] s = some (.ref a) := by
  cases ht : t.eval args s none [] s with
  | none => simp [Cond.value, ht] at h
  | some x => cases x <;> simp [Cond.value, ht, hu] at h ⊢; exact h
end Start
end Jvm.OwnKit

namespace Jvm.Pilot.@@N@@
open Jvm Jvm.ClassFile Sem Op Lib Jvm.Free Jvm.Stand Jvm.LawKit Jvm.RoadKit Jvm.OwnKit Bundle Jvm.Pilot.@@N@@.Jvm.D
theorem tw0 {Z : State} {a0 : Array Value} (hw : ∀ d ∈ tables_1, d.before a0 Z = true) : (Jvm.Cond.fieldLink "com/example/bulwark/bulwark/engine/SideAheadPinLaw" (7 : Nat) "com/example/bulwark/bulwark/engine/Side" "BUY" "Lcom/example/bulwark/bulwark/engine/Side;").before a0 Z = true := hw _ (List.mem_of_getElem? (i := 0) rfl)
theorem tw1 {Z : State} {a0 : Array Value} (hw : ∀ d ∈ tables_1, d.before a0 Z = true) : (Jvm.Cond.initialized "com/example/bulwark/bulwark/engine/Side").before a0 Z = true := hw _ (List.mem_of_getElem? (i := 1) rfl)
theorem tw2 {Z : State} {a0 : Array Value} (hw : ∀ d ∈ tables_1, d.before a0 Z = true) : (Jvm.Cond.laysStatic "com/example/bulwark/bulwark/engine/Side" "BUY" "Lcom/example/bulwark/bulwark/engine/Side;").before a0 Z = true := hw _ (List.mem_of_getElem? (i := 2) rfl)
theorem tw3 {Z : State} {a0 : Array Value} (hw : ∀ d ∈ tables_1, d.before a0 Z = true) : (Jvm.Cond.fieldLink "com/example/bulwark/bulwark/engine/SideAheadPinLaw" (13 : Nat) "com/example/bulwark/bulwark/engine/Side" "SELL" "Lcom/example/bulwark/bulwark/engine/Side;").before a0 Z = true := hw _ (List.mem_of_getElem? (i := 3) rfl)
theorem tw4 {Z : State} {a0 : Array Value} (hw : ∀ d ∈ tables_1, d.before a0 Z = true) : (Jvm.Cond.laysStatic "com/example/bulwark/bulwark/engine/Side" "SELL" "Lcom/example/bulwark/bulwark/engine/Side;").before a0 Z = true := hw _ (List.mem_of_getElem? (i := 4) rfl)
theorem tw5 {Z : State} {a0 : Array Value} (hw : ∀ d ∈ tables_1, d.before a0 Z = true) : (Jvm.Cond.methodLink "com/example/bulwark/bulwark/engine/SideAheadPinLaw" (16 : Nat) ({ cls := "com/example/bulwark/bulwark/engine/Side", name := "ahead", desc := "(JJ)Z" } : Jvm.MethodName)).before a0 Z = true := hw _ (List.mem_of_getElem? (i := 5) rfl)
theorem tw6 {Z : State} {a0 : Array Value} (hw : ∀ d ∈ tables_1, d.before a0 Z = true) : (Jvm.Cond.declares ({ cls := "com/example/bulwark/bulwark/engine/Side", name := "ahead", desc := "(JJ)Z" } : Jvm.MethodName)).before a0 Z = true := hw _ (List.mem_of_getElem? (i := 6) rfl)
theorem tw7 {Z : State} {a0 : Array Value} (hw : ∀ d ∈ tables_1, d.before a0 Z = true) : (Jvm.Cond.instanceMethod ({ cls := "com/example/bulwark/bulwark/engine/Side", name := "ahead", desc := "(JJ)Z" } : Jvm.MethodName)).before a0 Z = true := hw _ (List.mem_of_getElem? (i := 7) rfl)
theorem tw8 {Z : State} {a0 : Array Value} (hw : ∀ d ∈ tables_1, d.before a0 Z = true) : (Jvm.Cond.selects "com/example/bulwark/bulwark/engine/Side" ({ cls := "com/example/bulwark/bulwark/engine/Side", name := "ahead", desc := "(JJ)Z" } : Jvm.MethodName) ({ cls := "com/example/bulwark/bulwark/engine/Side", name := "ahead", desc := "(JJ)Z" } : Jvm.MethodName)).before a0 Z = true := hw _ (List.mem_of_getElem? (i := 8) rfl)
theorem tw9 {Z : State} {a0 : Array Value} (hw : ∀ d ∈ tables_1, d.before a0 Z = true) : (Jvm.Cond.code ({ cls := "com/example/bulwark/bulwark/engine/Side", name := "ahead", desc := "(JJ)Z" } : Jvm.MethodName) prog_33_method_7_code (5 : Nat) (Option.some Jvm.ClassFile.FieldType.boolean)).before a0 Z = true := hw _ (List.mem_of_getElem? (i := 9) rfl)
theorem tw10 {Z : State} {a0 : Array Value} (hw : ∀ d ∈ tables_1, d.before a0 Z = true) : (Jvm.Cond.fieldLink "com/example/bulwark/bulwark/engine/Side" (3 : Nat) "com/example/bulwark/bulwark/engine/Side" "BUY" "Lcom/example/bulwark/bulwark/engine/Side;").before a0 Z = true := hw _ (List.mem_of_getElem? (i := 10) rfl)
abbrev mn0 : MethodName := ⟨"com/example/bulwark/bulwark/engine/Side", "ahead", "(JJ)Z"⟩
theorem pd_0 : parseMethodDescriptor "(JJ)Z" = some ⟨[.long, .long], some .boolean⟩ := by decide +kernel
def OwnF (Z : State) (h : Heap) (w_BUY w_SELL : Addr) : Prop := Sta Z h "com/example/bulwark/bulwark/engine/Side" "BUY" "Lcom/example/bulwark/bulwark/engine/Side;" (.ref w_BUY) ∧
  Exa Z h w_BUY "com/example/bulwark/bulwark/engine/Side" ∧
  Sta Z h "com/example/bulwark/bulwark/engine/Side" "SELL" "Lcom/example/bulwark/bulwark/engine/Side;" (.ref w_SELL) ∧
  Exa Z h w_SELL "com/example/bulwark/bulwark/engine/Side" ∧
  Fld Z h w_SELL "java/lang/Enum" "ordinal" "I" (.int (1 : Int32)) ∧
  Fld Z h w_BUY "java/lang/Enum" "ordinal" "I" (.int (0 : Int32))
theorem OwnF.ext {Z : State} {h h' : Heap} {w_BUY w_SELL : Addr} (E : Ext h h') (F : OwnF Z h w_BUY w_SELL) : OwnF Z h' w_BUY w_SELL := by
  obtain ⟨S_BUY, E_BUY, S_SELL, E_SELL, F_SELL_ordinal, F_BUY_ordinal⟩ := F
  exact ⟨S_BUY.ext E, E_BUY.ext E, S_SELL.ext E, E_SELL.ext E, F_SELL_ordinal.ext E, F_BUY_ordinal.ext E⟩
theorem own_tri (x y : Int64) : (x < y ∧ ¬ y < x ∧ ¬ x = y) ∨ (¬ x < y ∧ ¬ y < x ∧ x = y) ∨ (¬ x < y ∧ y < x ∧ ¬ x = y) := by
  simp only [Int64.lt_iff_toInt_lt, ← Int64.toInt_inj]; omega
def fAhd (a w : Addr) (p l : Int64) : Int32 := if a = w then (if l < p then 1 else 0) else (if p < l then 1 else 0)
theorem d1_0 : decode prog_33_method_7_code 0 = .ok (.aload_n 0, 1) := by decide +kernel
theorem d1_1 : decode prog_33_method_7_code 1 = .ok (.getstatic 3, 3) := by decide +kernel
theorem d1_4 : decode prog_33_method_7_code 4 = .ok (.if_acmp .ne 17, 3) := by decide +kernel
theorem d1_7 : decode prog_33_method_7_code 7 = .ok (.lload_n 1, 1) := by decide +kernel
theorem d1_8 : decode prog_33_method_7_code 8 = .ok (.lload_n 3, 1) := by decide +kernel
theorem d1_9 : decode prog_33_method_7_code 9 = .ok (.lcmp, 1) := by decide +kernel
theorem d1_10 : decode prog_33_method_7_code 10 = .ok (.ifCond .le 7, 3) := by decide +kernel
theorem d1_13 : decode prog_33_method_7_code 13 = .ok (.iconst 1, 1) := by decide +kernel
theorem d1_14 : decode prog_33_method_7_code 14 = .ok (.goto 18, 3) := by decide +kernel
theorem d1_17 : decode prog_33_method_7_code 17 = .ok (.iconst 0, 1) := by decide +kernel
theorem d1_18 : decode prog_33_method_7_code 18 = .ok (.goto 14, 3) := by decide +kernel
theorem d1_21 : decode prog_33_method_7_code 21 = .ok (.lload_n 1, 1) := by decide +kernel
theorem d1_22 : decode prog_33_method_7_code 22 = .ok (.lload_n 3, 1) := by decide +kernel
theorem d1_23 : decode prog_33_method_7_code 23 = .ok (.lcmp, 1) := by decide +kernel
theorem d1_24 : decode prog_33_method_7_code 24 = .ok (.ifCond .ge 7, 3) := by decide +kernel
theorem d1_27 : decode prog_33_method_7_code 27 = .ok (.iconst 1, 1) := by decide +kernel
theorem d1_28 : decode prog_33_method_7_code 28 = .ok (.goto 4, 3) := by decide +kernel
theorem d1_31 : decode prog_33_method_7_code 31 = .ok (.iconst 0, 1) := by decide +kernel
theorem d1_32 : decode prog_33_method_7_code 32 = .ok (.ireturn, 1) := by decide +kernel
theorem pn_rm_ahd : plainName "com/example/bulwark/bulwark/engine/Side" = true := by first | (simp [plainName, overriddenIn]; done) | decide +kernel
set_option maxRecDepth 65536 in
set_option maxHeartbeats 40000000 in
theorem rm_ahd (l : Launch) (Z : State) (a0 : Array Value) (hw : ∀ d ∈ tables_1, d.before a0 Z = true) (a : Addr) (p1 p2 : Int64) (r : Int32) (w_BUY w_SELL : Addr) (h0 : Heap) (F : OwnF Z h0 w_BUY w_SELL) (hr : fAhd a w_BUY p1 p2 = r) :
    OMeets l Z mn0 prog_33_method_7_code 5 (some .boolean) [] ({ frames := 0, cells := 0, slots := 0, locals := 0 } : Room) #[(.ref a), (.long p1), (.long p2)] h0 (PureQ (some (.int r)) h0) := by
  refine OMeets.of pn_rm_ahd #[.val (.ref a), .val (.long p1), .second, .val (.long p2), .second] (fun m => by first | rfl | (simp [entryFrame, mkF, argsToLocals, Value.category, maxLocals]; done)) ?_
  intro p e s m below meth c s₁ B X0 e0
  obtain ⟨S_BUY, E_BUY, S_SELL, E_SELL, F_SELL_ordinal, F_BUY_ordinal⟩ := F
  refine s_aloadN B X0 (pc' := 1) d1_0 rfl rfl rfl ?_
  refine s_getS B X0 (pc' := 4) e0 (tw10 hw) Via.refl S_BUY d1_1 rfl (fun T1 X1 e1 => ?_)
  refine b_acmp_ne B X1 (py := 21) (pn := 7) d1_4 (by decide) (by decide) rfl (fun hc4_2 => ?_) (fun hc4_2 => ?_)
  · refine s_lloadN B X1 (pc' := 22) d1_21 rfl rfl ?_
    refine s_lloadN B X1 (pc' := 23) d1_22 rfl rfl ?_
    refine b_lcmp_ge B X1 (py := 31) (pn := 27) d1_23 rfl d1_24 (by decide) (by decide) rfl (fun hc23_3 => ?_) (fun hc23_3 => ?_)
    · refine s_iconst B X1 (pc' := 32) (v := (0 : Int32)) d1_31 rfl rfl ?_
      exact r_nar B X1 (t := .boolean) (by simp) rfl d1_32 ⟨by rw [← hr]; simp [fAhd, nar, hc4_2, hc23_3], rfl, e1⟩ (by decide) (by decide)
    · refine s_iconst B X1 (pc' := 28) (v := (1 : Int32)) d1_27 rfl rfl ?_
      refine s_goto B X1 (pc' := 32) d1_28 (by decide) (by decide) ?_
      exact r_nar B X1 (t := .boolean) (by simp) rfl d1_32 ⟨by rw [← hr]; simp [fAhd, nar, hc4_2, hc23_3], rfl, e1⟩ (by decide) (by decide)
  · refine s_lloadN B X1 (pc' := 8) d1_7 rfl rfl ?_
    refine s_lloadN B X1 (pc' := 9) d1_8 rfl rfl ?_
    refine b_lcmp_le B X1 (py := 17) (pn := 13) d1_9 rfl d1_10 (by decide) (by decide) rfl (fun hc9_4 => ?_) (fun hc9_4 => ?_)
    · refine s_iconst B X1 (pc' := 18) (v := (0 : Int32)) d1_17 rfl rfl ?_
      refine s_goto B X1 (pc' := 32) d1_18 (by decide) (by decide) ?_
      exact r_nar B X1 (t := .boolean) (by simp) rfl d1_32 ⟨by rw [← hr]; simp [fAhd, nar, hc4_2, hc9_4], rfl, e1⟩ (by decide) (by decide)
    · refine s_iconst B X1 (pc' := 14) (v := (1 : Int32)) d1_13 rfl rfl ?_
      refine s_goto B X1 (pc' := 32) d1_14 (by decide) (by decide) ?_
      exact r_nar B X1 (t := .boolean) (by simp) rfl d1_32 ⟨by rw [← hr]; simp [fAhd, nar, hc4_2, hc9_4], rfl, e1⟩ (by decide) (by decide)

theorem pn_rm_law : plainName "com/example/bulwark/bulwark/engine/SideAheadPinLaw" = true := by first | (simp [plainName, overriddenIn]; done) | decide +kernel
set_option maxRecDepth 65536 in
set_option maxHeartbeats 40000000 in
theorem rm_law (l : Launch) (Z : State) (a0 : Array Value) (hw : ∀ d ∈ tables_1, d.before a0 Z = true) (i0 : Int32) (i1 i2 : Int64) (w_BUY w_SELL : Addr) (h0 : Heap) (F : OwnF Z h0 w_BUY w_SELL) :
    OMeets l Z x code maxLocals ret tables_1 room_1 #[(.int i0), (.long i1), (.long i2)] h0 (fun v h L => v = some (.int 1) ∧ Fr h0.size L) := by
  refine OMeets.of pn_rm_law #[.val (.int i0), .val (.long i1), .second, .val (.long i2), .second, .unset, .unset, .unset, .unset, .unset, .unset, .unset, .unset, .unset] (fun m => by first | rfl | (simp [entryFrame, mkF, argsToLocals, Value.category, maxLocals]; done)) ?_
  intro p e s m below meth c s₁ B X0 e0
  have F0 := F
  obtain ⟨S_BUY, E_BUY, S_SELL, E_SELL, F_SELL_ordinal, F_BUY_ordinal⟩ := F
  have hne := F_SELL_ordinal.ne F_BUY_ordinal (by decide)
  rcases own_tri i1 i2 with ⟨hA, hB, hE⟩ | ⟨hA, hB, hE⟩ | ⟨hA, hB, hE⟩
  · refine s_iloadN B X0 (pc' := 1) at_0 rfl rfl ?_
    refine s_iconst B X0 (pc' := 2) (v := (1 : Int32)) at_1 rfl rfl ?_
    refine s_iand B X0 (pc' := 3) (v := (i0 &&& (1 : Int32))) at_2 rfl rfl ?_
    refine b_if_ne B X0 (py := 10) (pn := 6) at_3 (by decide) (by decide) rfl (fun hc3_1 => ?_) (fun hc3_1 => ?_)
    · refine s_iconst B X0 (pc' := 11) (v := (0 : Int32)) at_10 rfl rfl ?_
      refine s_istore B X0 (pc' := 13) (Ls' := #[.val (.int i0), .val (.long i1), .second, .val (.long i2), .second, .val (.int (0 : Int32)), .unset, .unset, .unset, .unset, .unset, .unset, .unset, .unset]) at_11 rfl rfl ?_
      refine s_iload B X0 (pc' := 15) at_13 rfl rfl ?_
      refine s_ifY B X0 (pc' := 24) at_15 (by decide) (by decide) (by decide) ?_
      refine s_getS B X0 (pc' := 27) e0 (tw3 hw) Via.refl S_SELL at_24 rfl (fun T2 X2 e2 => ?_)
      refine s_astore B X2 (pc' := 29) (Ls' := #[.val (.int i0), .val (.long i1), .second, .val (.long i2), .second, .val (.int (0 : Int32)), .val (.ref w_SELL), .unset, .unset, .unset, .unset, .unset, .unset, .unset]) at_27 rfl rfl rfl ?_
      refine s_iload B X2 (pc' := 31) at_29 rfl rfl ?_
      refine s_ifY B X2 (pc' := 40) at_31 (by decide) (by decide) (by decide) ?_
      refine s_getS B X2 (pc' := 43) e2 (tw0 hw) Via.refl S_BUY at_40 rfl (fun T3 X3 e3 => ?_)
      refine s_astore B X3 (pc' := 45) (Ls' := #[.val (.int i0), .val (.long i1), .second, .val (.long i2), .second, .val (.int (0 : Int32)), .val (.ref w_SELL), .val (.ref w_BUY), .unset, .unset, .unset, .unset, .unset, .unset]) at_43 rfl rfl rfl ?_
      refine s_aload B X3 (pc' := 47) at_45 rfl rfl rfl ?_
      refine s_lloadN B X3 (pc' := 48) at_47 rfl rfl ?_
      refine s_lloadN B X3 (pc' := 49) at_48 rfl rfl ?_
      refine p_virtual B X3 (y := mn0) (pc' := 52) (argsL := [(.long i1), (.long i2)]) (under := []) (W := 0) e3 (tw5 hw) (tw6 hw) (tw8 hw) (tw7 hw) (tw9 hw) (tw1 hw) (by decide) (rm_ahd l Z a0 hw w_SELL i1 i2 1 w_BUY w_SELL h0 F0 (by simp [fAhd, hne, hA, hB])) E_SELL (lenOf pd_0 rfl) rfl rfl (by decide) (by decide) rfl rfl (by decide) (by decide) rfl at_49 rfl (fun T4 X4 e4 => ?_)
      show Go p e below _ (T4.setTop (mkF m 52 #[.val (.int i0), .val (.long i1), .second, .val (.long i2), .second, .val (.int (0 : Int32)), .val (.ref w_SELL), .val (.ref w_BUY), .unset, .unset, .unset, .unset, .unset, .unset] [(.int (1 : Int32))]))
      refine s_istore B X4 (pc' := 54) (Ls' := #[.val (.int i0), .val (.long i1), .second, .val (.long i2), .second, .val (.int (0 : Int32)), .val (.ref w_SELL), .val (.ref w_BUY), .val (.int (1 : Int32)), .unset, .unset, .unset, .unset, .unset]) at_52 rfl rfl ?_
      refine s_aload B X4 (pc' := 56) at_54 rfl rfl rfl ?_
      refine s_lloadN B X4 (pc' := 57) at_56 rfl rfl ?_
      refine s_lloadN B X4 (pc' := 58) at_57 rfl rfl ?_
      refine p_virtual B X4 (y := mn0) (pc' := 61) (argsL := [(.long i2), (.long i1)]) (under := []) (W := 0) e4 (tw5 hw) (tw6 hw) (tw8 hw) (tw7 hw) (tw9 hw) (tw1 hw) (by decide) (rm_ahd l Z a0 hw w_SELL i2 i1 0 w_BUY w_SELL h0 F0 (by simp [fAhd, hne, hA, hB])) E_SELL (lenOf pd_0 rfl) rfl rfl (by decide) (by decide) rfl rfl (by decide) (by decide) rfl at_58 rfl (fun T5 X5 e5 => ?_)
      show Go p e below _ (T5.setTop (mkF m 61 #[.val (.int i0), .val (.long i1), .second, .val (.long i2), .second, .val (.int (0 : Int32)), .val (.ref w_SELL), .val (.ref w_BUY), .val (.int (1 : Int32)), .unset, .unset, .unset, .unset, .unset] [(.int (0 : Int32))]))
      refine s_istore B X5 (pc' := 63) (Ls' := #[.val (.int i0), .val (.long i1), .second, .val (.long i2), .second, .val (.int (0 : Int32)), .val (.ref w_SELL), .val (.ref w_BUY), .val (.int (1 : Int32)), .val (.int (0 : Int32)), .unset, .unset, .unset, .unset]) at_61 rfl rfl ?_
      refine s_aload B X5 (pc' := 65) at_63 rfl rfl rfl ?_
      refine s_lloadN B X5 (pc' := 66) at_65 rfl rfl ?_
      refine s_lloadN B X5 (pc' := 67) at_66 rfl rfl ?_
      refine p_virtual B X5 (y := mn0) (pc' := 70) (argsL := [(.long i2), (.long i1)]) (under := []) (W := 0) e5 (tw5 hw) (tw6 hw) (tw8 hw) (tw7 hw) (tw9 hw) (tw1 hw) (by decide) (rm_ahd l Z a0 hw w_BUY i2 i1 1 w_BUY w_SELL h0 F0 (by simp [fAhd, hne, hA, hB])) E_BUY (lenOf pd_0 rfl) rfl rfl (by decide) (by decide) rfl rfl (by decide) (by decide) rfl at_67 rfl (fun T6 X6 e6 => ?_)
      show Go p e below _ (T6.setTop (mkF m 70 #[.val (.int i0), .val (.long i1), .second, .val (.long i2), .second, .val (.int (0 : Int32)), .val (.ref w_SELL), .val (.ref w_BUY), .val (.int (1 : Int32)), .val (.int (0 : Int32)), .unset, .unset, .unset, .unset] [(.int (1 : Int32))]))
      refine s_istore B X6 (pc' := 72) (Ls' := #[.val (.int i0), .val (.long i1), .second, .val (.long i2), .second, .val (.int (0 : Int32)), .val (.ref w_SELL), .val (.ref w_BUY), .val (.int (1 : Int32)), .val (.int (0 : Int32)), .val (.int (1 : Int32)), .unset, .unset, .unset]) at_70 rfl rfl ?_
      refine s_iload B X6 (pc' := 74) at_72 rfl rfl ?_
      refine s_ifY B X6 (pc' := 91) at_74 (by decide) (by decide) (by decide) ?_
      refine s_lloadN B X6 (pc' := 92) at_91 rfl rfl ?_
      refine s_lloadN B X6 (pc' := 93) at_92 rfl rfl ?_
      refine b_lcmp_le B X6 (py := 101) (pn := 97) at_93 rfl at_94 (by decide) (by decide) rfl (fun q => absurd hA q) (fun _ => ?_)
      refine s_iconst B X6 (pc' := 98) (v := (1 : Int32)) at_97 rfl rfl ?_
      refine s_goto B X6 (pc' := 102) at_98 (by decide) (by decide) ?_
      refine s_istore B X6 (pc' := 104) (Ls' := #[.val (.int i0), .val (.long i1), .second, .val (.long i2), .second, .val (.int (0 : Int32)), .val (.ref w_SELL), .val (.ref w_BUY), .val (.int (1 : Int32)), .val (.int (0 : Int32)), .val (.int (1 : Int32)), .val (.int (1 : Int32)), .unset, .unset]) at_102 rfl rfl ?_
      refine s_iload B X6 (pc' := 106) at_104 rfl rfl ?_
      refine s_iload B X6 (pc' := 108) at_106 rfl rfl ?_
      refine s_icmpY B X6 (pc' := 113) at_108 (by decide) (by decide) (by decide) ?_
      refine s_lloadN B X6 (pc' := 114) at_113 rfl rfl ?_
      refine s_lloadN B X6 (pc' := 115) at_114 rfl rfl ?_
      refine b_lcmp_ne B X6 (py := 123) (pn := 119) at_115 rfl at_116 (by decide) (by decide) rfl (fun _ => ?_) (fun q => absurd q hE)
      refine s_iconst B X6 (pc' := 124) (v := (0 : Int32)) at_123 rfl rfl ?_
      refine s_istore B X6 (pc' := 126) (Ls' := #[.val (.int i0), .val (.long i1), .second, .val (.long i2), .second, .val (.int (0 : Int32)), .val (.ref w_SELL), .val (.ref w_BUY), .val (.int (1 : Int32)), .val (.int (0 : Int32)), .val (.int (1 : Int32)), .val (.int (1 : Int32)), .val (.int (0 : Int32)), .unset]) at_124 rfl rfl ?_
      refine s_iload B X6 (pc' := 128) at_126 rfl rfl ?_
      refine s_ifN B X6 (pc' := 131) at_128 (by decide) rfl ?_
      refine s_iconst B X6 (pc' := 132) (v := (1 : Int32)) at_131 rfl rfl ?_
      refine s_goto B X6 (pc' := 136) at_132 (by decide) (by decide) ?_
      refine s_iload B X6 (pc' := 138) at_136 rfl rfl ?_
      refine s_ifY B X6 (pc' := 145) at_138 (by decide) (by decide) (by decide) ?_
      refine s_iconst B X6 (pc' := 146) (v := (0 : Int32)) at_145 rfl rfl ?_
      refine s_iadd B X6 (pc' := 147) (v := (1 : Int32)) at_146 rfl rfl ?_
      refine s_iload B X6 (pc' := 149) at_147 rfl rfl ?_
      refine s_ifY B X6 (pc' := 156) at_149 (by decide) (by decide) (by decide) ?_
      refine s_iconst B X6 (pc' := 157) (v := (0 : Int32)) at_156 rfl rfl ?_
      refine s_iadd B X6 (pc' := 158) (v := (1 : Int32)) at_157 rfl rfl ?_
      refine s_istore B X6 (pc' := 160) (Ls' := #[.val (.int i0), .val (.long i1), .second, .val (.long i2), .second, .val (.int (0 : Int32)), .val (.ref w_SELL), .val (.ref w_BUY), .val (.int (1 : Int32)), .val (.int (0 : Int32)), .val (.int (1 : Int32)), .val (.int (1 : Int32)), .val (.int (0 : Int32)), .val (.int (1 : Int32))]) at_158 rfl rfl ?_
      refine s_iload B X6 (pc' := 162) at_160 rfl rfl ?_
      refine s_iconst B X6 (pc' := 163) (v := (1 : Int32)) at_162 rfl rfl ?_
      refine s_icmpY B X6 (pc' := 168) at_163 (by decide) (by decide) (by decide) ?_
      refine s_iload B X6 (pc' := 170) at_168 rfl rfl ?_
      refine s_iload B X6 (pc' := 172) at_170 rfl rfl ?_
      refine s_icmpN B X6 (pc' := 175) at_172 (by decide) rfl ?_
      refine s_iconst B X6 (pc' := 176) (v := (1 : Int32)) at_175 rfl rfl ?_
      refine s_goto B X6 (pc' := 180) at_176 (by decide) (by decide) ?_
      exact r_nar B X6 (t := .boolean) (by simp) rfl at_180 ⟨rfl, Fr.nil _⟩ (by decide) (by decide)
    · refine s_iconst B X0 (pc' := 7) (v := (1 : Int32)) at_6 rfl rfl ?_
      refine s_goto B X0 (pc' := 11) at_7 (by decide) (by decide) ?_
      refine s_istore B X0 (pc' := 13) (Ls' := #[.val (.int i0), .val (.long i1), .second, .val (.long i2), .second, .val (.int (1 : Int32)), .unset, .unset, .unset, .unset, .unset, .unset, .unset, .unset]) at_11 rfl rfl ?_
      refine s_iload B X0 (pc' := 15) at_13 rfl rfl ?_
      refine s_ifN B X0 (pc' := 18) at_15 (by decide) rfl ?_
      refine s_getS B X0 (pc' := 21) e0 (tw0 hw) Via.refl S_BUY at_18 rfl (fun T7 X7 e7 => ?_)
      refine s_goto B X7 (pc' := 27) at_21 (by decide) (by decide) ?_
      refine s_astore B X7 (pc' := 29) (Ls' := #[.val (.int i0), .val (.long i1), .second, .val (.long i2), .second, .val (.int (1 : Int32)), .val (.ref w_BUY), .unset, .unset, .unset, .unset, .unset, .unset, .unset]) at_27 rfl rfl rfl ?_
      refine s_iload B X7 (pc' := 31) at_29 rfl rfl ?_
      refine s_ifN B X7 (pc' := 34) at_31 (by decide) rfl ?_
      refine s_getS B X7 (pc' := 37) e7 (tw3 hw) Via.refl S_SELL at_34 rfl (fun T8 X8 e8 => ?_)
      refine s_goto B X8 (pc' := 43) at_37 (by decide) (by decide) ?_
      refine s_astore B X8 (pc' := 45) (Ls' := #[.val (.int i0), .val (.long i1), .second, .val (.long i2), .second, .val (.int (1 : Int32)), .val (.ref w_BUY), .val (.ref w_SELL), .unset, .unset, .unset, .unset, .unset, .unset]) at_43 rfl rfl rfl ?_
      refine s_aload B X8 (pc' := 47) at_45 rfl rfl rfl ?_
      refine s_lloadN B X8 (pc' := 48) at_47 rfl rfl ?_
      refine s_lloadN B X8 (pc' := 49) at_48 rfl rfl ?_
      refine p_virtual B X8 (y := mn0) (pc' := 52) (argsL := [(.long i1), (.long i2)]) (under := []) (W := 0) e8 (tw5 hw) (tw6 hw) (tw8 hw) (tw7 hw) (tw9 hw) (tw1 hw) (by decide) (rm_ahd l Z a0 hw w_BUY i1 i2 0 w_BUY w_SELL h0 F0 (by simp [fAhd, hne, hA, hB])) E_BUY (lenOf pd_0 rfl) rfl rfl (by decide) (by decide) rfl rfl (by decide) (by decide) rfl at_49 rfl (fun T9 X9 e9 => ?_)
      show Go p e below _ (T9.setTop (mkF m 52 #[.val (.int i0), .val (.long i1), .second, .val (.long i2), .second, .val (.int (1 : Int32)), .val (.ref w_BUY), .val (.ref w_SELL), .unset, .unset, .unset, .unset, .unset, .unset] [(.int (0 : Int32))]))
      refine s_istore B X9 (pc' := 54) (Ls' := #[.val (.int i0), .val (.long i1), .second, .val (.long i2), .second, .val (.int (1 : Int32)), .val (.ref w_BUY), .val (.ref w_SELL), .val (.int (0 : Int32)), .unset, .unset, .unset, .unset, .unset]) at_52 rfl rfl ?_
      refine s_aload B X9 (pc' := 56) at_54 rfl rfl rfl ?_
      refine s_lloadN B X9 (pc' := 57) at_56 rfl rfl ?_
      refine s_lloadN B X9 (pc' := 58) at_57 rfl rfl ?_
      refine p_virtual B X9 (y := mn0) (pc' := 61) (argsL := [(.long i2), (.long i1)]) (under := []) (W := 0) e9 (tw5 hw) (tw6 hw) (tw8 hw) (tw7 hw) (tw9 hw) (tw1 hw) (by decide) (rm_ahd l Z a0 hw w_BUY i2 i1 1 w_BUY w_SELL h0 F0 (by simp [fAhd, hne, hA, hB])) E_BUY (lenOf pd_0 rfl) rfl rfl (by decide) (by decide) rfl rfl (by decide) (by decide) rfl at_58 rfl (fun T10 X10 e10 => ?_)
      show Go p e below _ (T10.setTop (mkF m 61 #[.val (.int i0), .val (.long i1), .second, .val (.long i2), .second, .val (.int (1 : Int32)), .val (.ref w_BUY), .val (.ref w_SELL), .val (.int (0 : Int32)), .unset, .unset, .unset, .unset, .unset] [(.int (1 : Int32))]))
      refine s_istore B X10 (pc' := 63) (Ls' := #[.val (.int i0), .val (.long i1), .second, .val (.long i2), .second, .val (.int (1 : Int32)), .val (.ref w_BUY), .val (.ref w_SELL), .val (.int (0 : Int32)), .val (.int (1 : Int32)), .unset, .unset, .unset, .unset]) at_61 rfl rfl ?_
      refine s_aload B X10 (pc' := 65) at_63 rfl rfl rfl ?_
      refine s_lloadN B X10 (pc' := 66) at_65 rfl rfl ?_
      refine s_lloadN B X10 (pc' := 67) at_66 rfl rfl ?_
      refine p_virtual B X10 (y := mn0) (pc' := 70) (argsL := [(.long i2), (.long i1)]) (under := []) (W := 0) e10 (tw5 hw) (tw6 hw) (tw8 hw) (tw7 hw) (tw9 hw) (tw1 hw) (by decide) (rm_ahd l Z a0 hw w_SELL i2 i1 0 w_BUY w_SELL h0 F0 (by simp [fAhd, hne, hA, hB])) E_SELL (lenOf pd_0 rfl) rfl rfl (by decide) (by decide) rfl rfl (by decide) (by decide) rfl at_67 rfl (fun T11 X11 e11 => ?_)
      show Go p e below _ (T11.setTop (mkF m 70 #[.val (.int i0), .val (.long i1), .second, .val (.long i2), .second, .val (.int (1 : Int32)), .val (.ref w_BUY), .val (.ref w_SELL), .val (.int (0 : Int32)), .val (.int (1 : Int32)), .unset, .unset, .unset, .unset] [(.int (0 : Int32))]))
      refine s_istore B X11 (pc' := 72) (Ls' := #[.val (.int i0), .val (.long i1), .second, .val (.long i2), .second, .val (.int (1 : Int32)), .val (.ref w_BUY), .val (.ref w_SELL), .val (.int (0 : Int32)), .val (.int (1 : Int32)), .val (.int (0 : Int32)), .unset, .unset, .unset]) at_70 rfl rfl ?_
      refine s_iload B X11 (pc' := 74) at_72 rfl rfl ?_
      refine s_ifN B X11 (pc' := 77) at_74 (by decide) rfl ?_
      refine s_lloadN B X11 (pc' := 78) at_77 rfl rfl ?_
      refine s_lloadN B X11 (pc' := 79) at_78 rfl rfl ?_
      refine b_lcmp_le B X11 (py := 87) (pn := 83) at_79 rfl at_80 (by decide) (by decide) rfl (fun _ => ?_) (fun q => absurd q hB)
      refine s_iconst B X11 (pc' := 88) (v := (0 : Int32)) at_87 rfl rfl ?_
      refine s_goto B X11 (pc' := 102) at_88 (by decide) (by decide) ?_
      refine s_istore B X11 (pc' := 104) (Ls' := #[.val (.int i0), .val (.long i1), .second, .val (.long i2), .second, .val (.int (1 : Int32)), .val (.ref w_BUY), .val (.ref w_SELL), .val (.int (0 : Int32)), .val (.int (1 : Int32)), .val (.int (0 : Int32)), .val (.int (0 : Int32)), .unset, .unset]) at_102 rfl rfl ?_
      refine s_iload B X11 (pc' := 106) at_104 rfl rfl ?_
      refine s_iload B X11 (pc' := 108) at_106 rfl rfl ?_
      refine s_icmpY B X11 (pc' := 113) at_108 (by decide) (by decide) (by decide) ?_
      refine s_lloadN B X11 (pc' := 114) at_113 rfl rfl ?_
      refine s_lloadN B X11 (pc' := 115) at_114 rfl rfl ?_
      refine b_lcmp_ne B X11 (py := 123) (pn := 119) at_115 rfl at_116 (by decide) (by decide) rfl (fun _ => ?_) (fun q => absurd q hE)
      refine s_iconst B X11 (pc' := 124) (v := (0 : Int32)) at_123 rfl rfl ?_
      refine s_istore B X11 (pc' := 126) (Ls' := #[.val (.int i0), .val (.long i1), .second, .val (.long i2), .second, .val (.int (1 : Int32)), .val (.ref w_BUY), .val (.ref w_SELL), .val (.int (0 : Int32)), .val (.int (1 : Int32)), .val (.int (0 : Int32)), .val (.int (0 : Int32)), .val (.int (0 : Int32)), .unset]) at_124 rfl rfl ?_
      refine s_iload B X11 (pc' := 128) at_126 rfl rfl ?_
      refine s_ifY B X11 (pc' := 135) at_128 (by decide) (by decide) (by decide) ?_
      refine s_iconst B X11 (pc' := 136) (v := (0 : Int32)) at_135 rfl rfl ?_
      refine s_iload B X11 (pc' := 138) at_136 rfl rfl ?_
      refine s_ifN B X11 (pc' := 141) at_138 (by decide) rfl ?_
      refine s_iconst B X11 (pc' := 142) (v := (1 : Int32)) at_141 rfl rfl ?_
      refine s_goto B X11 (pc' := 146) at_142 (by decide) (by decide) ?_
      refine s_iadd B X11 (pc' := 147) (v := (1 : Int32)) at_146 rfl rfl ?_
      refine s_iload B X11 (pc' := 149) at_147 rfl rfl ?_
      refine s_ifY B X11 (pc' := 156) at_149 (by decide) (by decide) (by decide) ?_
      refine s_iconst B X11 (pc' := 157) (v := (0 : Int32)) at_156 rfl rfl ?_
      refine s_iadd B X11 (pc' := 158) (v := (1 : Int32)) at_157 rfl rfl ?_
      refine s_istore B X11 (pc' := 160) (Ls' := #[.val (.int i0), .val (.long i1), .second, .val (.long i2), .second, .val (.int (1 : Int32)), .val (.ref w_BUY), .val (.ref w_SELL), .val (.int (0 : Int32)), .val (.int (1 : Int32)), .val (.int (0 : Int32)), .val (.int (0 : Int32)), .val (.int (0 : Int32)), .val (.int (1 : Int32))]) at_158 rfl rfl ?_
      refine s_iload B X11 (pc' := 162) at_160 rfl rfl ?_
      refine s_iconst B X11 (pc' := 163) (v := (1 : Int32)) at_162 rfl rfl ?_
      refine s_icmpY B X11 (pc' := 168) at_163 (by decide) (by decide) (by decide) ?_
      refine s_iload B X11 (pc' := 170) at_168 rfl rfl ?_
      refine s_iload B X11 (pc' := 172) at_170 rfl rfl ?_
      refine s_icmpN B X11 (pc' := 175) at_172 (by decide) rfl ?_
      refine s_iconst B X11 (pc' := 176) (v := (1 : Int32)) at_175 rfl rfl ?_
      refine s_goto B X11 (pc' := 180) at_176 (by decide) (by decide) ?_
      exact r_nar B X11 (t := .boolean) (by simp) rfl at_180 ⟨rfl, Fr.nil _⟩ (by decide) (by decide)
  · refine s_iloadN B X0 (pc' := 1) at_0 rfl rfl ?_
    refine s_iconst B X0 (pc' := 2) (v := (1 : Int32)) at_1 rfl rfl ?_
    refine s_iand B X0 (pc' := 3) (v := (i0 &&& (1 : Int32))) at_2 rfl rfl ?_
    refine b_if_ne B X0 (py := 10) (pn := 6) at_3 (by decide) (by decide) rfl (fun hc3_12 => ?_) (fun hc3_12 => ?_)
    · refine s_iconst B X0 (pc' := 11) (v := (0 : Int32)) at_10 rfl rfl ?_
      refine s_istore B X0 (pc' := 13) (Ls' := #[.val (.int i0), .val (.long i1), .second, .val (.long i2), .second, .val (.int (0 : Int32)), .unset, .unset, .unset, .unset, .unset, .unset, .unset, .unset]) at_11 rfl rfl ?_
      refine s_iload B X0 (pc' := 15) at_13 rfl rfl ?_
      refine s_ifY B X0 (pc' := 24) at_15 (by decide) (by decide) (by decide) ?_
      refine s_getS B X0 (pc' := 27) e0 (tw3 hw) Via.refl S_SELL at_24 rfl (fun T13 X13 e13 => ?_)
      refine s_astore B X13 (pc' := 29) (Ls' := #[.val (.int i0), .val (.long i1), .second, .val (.long i2), .second, .val (.int (0 : Int32)), .val (.ref w_SELL), .unset, .unset, .unset, .unset, .unset, .unset, .unset]) at_27 rfl rfl rfl ?_
      refine s_iload B X13 (pc' := 31) at_29 rfl rfl ?_
      refine s_ifY B X13 (pc' := 40) at_31 (by decide) (by decide) (by decide) ?_
      refine s_getS B X13 (pc' := 43) e13 (tw0 hw) Via.refl S_BUY at_40 rfl (fun T14 X14 e14 => ?_)
      refine s_astore B X14 (pc' := 45) (Ls' := #[.val (.int i0), .val (.long i1), .second, .val (.long i2), .second, .val (.int (0 : Int32)), .val (.ref w_SELL), .val (.ref w_BUY), .unset, .unset, .unset, .unset, .unset, .unset]) at_43 rfl rfl rfl ?_
      refine s_aload B X14 (pc' := 47) at_45 rfl rfl rfl ?_
      refine s_lloadN B X14 (pc' := 48) at_47 rfl rfl ?_
      refine s_lloadN B X14 (pc' := 49) at_48 rfl rfl ?_
      refine p_virtual B X14 (y := mn0) (pc' := 52) (argsL := [(.long i1), (.long i2)]) (under := []) (W := 0) e14 (tw5 hw) (tw6 hw) (tw8 hw) (tw7 hw) (tw9 hw) (tw1 hw) (by decide) (rm_ahd l Z a0 hw w_SELL i1 i2 0 w_BUY w_SELL h0 F0 (by simp [fAhd, hne, hA, hB])) E_SELL (lenOf pd_0 rfl) rfl rfl (by decide) (by decide) rfl rfl (by decide) (by decide) rfl at_49 rfl (fun T15 X15 e15 => ?_)
      show Go p e below _ (T15.setTop (mkF m 52 #[.val (.int i0), .val (.long i1), .second, .val (.long i2), .second, .val (.int (0 : Int32)), .val (.ref w_SELL), .val (.ref w_BUY), .unset, .unset, .unset, .unset, .unset, .unset] [(.int (0 : Int32))]))
      refine s_istore B X15 (pc' := 54) (Ls' := #[.val (.int i0), .val (.long i1), .second, .val (.long i2), .second, .val (.int (0 : Int32)), .val (.ref w_SELL), .val (.ref w_BUY), .val (.int (0 : Int32)), .unset, .unset, .unset, .unset, .unset]) at_52 rfl rfl ?_
      refine s_aload B X15 (pc' := 56) at_54 rfl rfl rfl ?_
      refine s_lloadN B X15 (pc' := 57) at_56 rfl rfl ?_
      refine s_lloadN B X15 (pc' := 58) at_57 rfl rfl ?_
      refine p_virtual B X15 (y := mn0) (pc' := 61) (argsL := [(.long i2), (.long i1)]) (under := []) (W := 0) e15 (tw5 hw) (tw6 hw) (tw8 hw) (tw7 hw) (tw9 hw) (tw1 hw) (by decide) (rm_ahd l Z a0 hw w_SELL i2 i1 0 w_BUY w_SELL h0 F0 (by simp [fAhd, hne, hA, hB])) E_SELL (lenOf pd_0 rfl) rfl rfl (by decide) (by decide) rfl rfl (by decide) (by decide) rfl at_58 rfl (fun T16 X16 e16 => ?_)
      show Go p e below _ (T16.setTop (mkF m 61 #[.val (.int i0), .val (.long i1), .second, .val (.long i2), .second, .val (.int (0 : Int32)), .val (.ref w_SELL), .val (.ref w_BUY), .val (.int (0 : Int32)), .unset, .unset, .unset, .unset, .unset] [(.int (0 : Int32))]))
      refine s_istore B X16 (pc' := 63) (Ls' := #[.val (.int i0), .val (.long i1), .second, .val (.long i2), .second, .val (.int (0 : Int32)), .val (.ref w_SELL), .val (.ref w_BUY), .val (.int (0 : Int32)), .val (.int (0 : Int32)), .unset, .unset, .unset, .unset]) at_61 rfl rfl ?_
      refine s_aload B X16 (pc' := 65) at_63 rfl rfl rfl ?_
      refine s_lloadN B X16 (pc' := 66) at_65 rfl rfl ?_
      refine s_lloadN B X16 (pc' := 67) at_66 rfl rfl ?_
      refine p_virtual B X16 (y := mn0) (pc' := 70) (argsL := [(.long i2), (.long i1)]) (under := []) (W := 0) e16 (tw5 hw) (tw6 hw) (tw8 hw) (tw7 hw) (tw9 hw) (tw1 hw) (by decide) (rm_ahd l Z a0 hw w_BUY i2 i1 0 w_BUY w_SELL h0 F0 (by simp [fAhd, hne, hA, hB])) E_BUY (lenOf pd_0 rfl) rfl rfl (by decide) (by decide) rfl rfl (by decide) (by decide) rfl at_67 rfl (fun T17 X17 e17 => ?_)
      show Go p e below _ (T17.setTop (mkF m 70 #[.val (.int i0), .val (.long i1), .second, .val (.long i2), .second, .val (.int (0 : Int32)), .val (.ref w_SELL), .val (.ref w_BUY), .val (.int (0 : Int32)), .val (.int (0 : Int32)), .unset, .unset, .unset, .unset] [(.int (0 : Int32))]))
      refine s_istore B X17 (pc' := 72) (Ls' := #[.val (.int i0), .val (.long i1), .second, .val (.long i2), .second, .val (.int (0 : Int32)), .val (.ref w_SELL), .val (.ref w_BUY), .val (.int (0 : Int32)), .val (.int (0 : Int32)), .val (.int (0 : Int32)), .unset, .unset, .unset]) at_70 rfl rfl ?_
      refine s_iload B X17 (pc' := 74) at_72 rfl rfl ?_
      refine s_ifY B X17 (pc' := 91) at_74 (by decide) (by decide) (by decide) ?_
      refine s_lloadN B X17 (pc' := 92) at_91 rfl rfl ?_
      refine s_lloadN B X17 (pc' := 93) at_92 rfl rfl ?_
      refine b_lcmp_le B X17 (py := 101) (pn := 97) at_93 rfl at_94 (by decide) (by decide) rfl (fun _ => ?_) (fun q => absurd q hA)
      refine s_iconst B X17 (pc' := 102) (v := (0 : Int32)) at_101 rfl rfl ?_
      refine s_istore B X17 (pc' := 104) (Ls' := #[.val (.int i0), .val (.long i1), .second, .val (.long i2), .second, .val (.int (0 : Int32)), .val (.ref w_SELL), .val (.ref w_BUY), .val (.int (0 : Int32)), .val (.int (0 : Int32)), .val (.int (0 : Int32)), .val (.int (0 : Int32)), .unset, .unset]) at_102 rfl rfl ?_
      refine s_iload B X17 (pc' := 106) at_104 rfl rfl ?_
      refine s_iload B X17 (pc' := 108) at_106 rfl rfl ?_
      refine s_icmpY B X17 (pc' := 113) at_108 (by decide) (by decide) (by decide) ?_
      refine s_lloadN B X17 (pc' := 114) at_113 rfl rfl ?_
      refine s_lloadN B X17 (pc' := 115) at_114 rfl rfl ?_
      refine b_lcmp_ne B X17 (py := 123) (pn := 119) at_115 rfl at_116 (by decide) (by decide) rfl (fun q => absurd hE q) (fun _ => ?_)
      refine s_iconst B X17 (pc' := 120) (v := (1 : Int32)) at_119 rfl rfl ?_
      refine s_goto B X17 (pc' := 124) at_120 (by decide) (by decide) ?_
      refine s_istore B X17 (pc' := 126) (Ls' := #[.val (.int i0), .val (.long i1), .second, .val (.long i2), .second, .val (.int (0 : Int32)), .val (.ref w_SELL), .val (.ref w_BUY), .val (.int (0 : Int32)), .val (.int (0 : Int32)), .val (.int (0 : Int32)), .val (.int (0 : Int32)), .val (.int (1 : Int32)), .unset]) at_124 rfl rfl ?_
      refine s_iload B X17 (pc' := 128) at_126 rfl rfl ?_
      refine s_ifY B X17 (pc' := 135) at_128 (by decide) (by decide) (by decide) ?_
      refine s_iconst B X17 (pc' := 136) (v := (0 : Int32)) at_135 rfl rfl ?_
      refine s_iload B X17 (pc' := 138) at_136 rfl rfl ?_
      refine s_ifY B X17 (pc' := 145) at_138 (by decide) (by decide) (by decide) ?_
      refine s_iconst B X17 (pc' := 146) (v := (0 : Int32)) at_145 rfl rfl ?_
      refine s_iadd B X17 (pc' := 147) (v := (0 : Int32)) at_146 rfl rfl ?_
      refine s_iload B X17 (pc' := 149) at_147 rfl rfl ?_
      refine s_ifN B X17 (pc' := 152) at_149 (by decide) rfl ?_
      refine s_iconst B X17 (pc' := 153) (v := (1 : Int32)) at_152 rfl rfl ?_
      refine s_goto B X17 (pc' := 157) at_153 (by decide) (by decide) ?_
      refine s_iadd B X17 (pc' := 158) (v := (1 : Int32)) at_157 rfl rfl ?_
      refine s_istore B X17 (pc' := 160) (Ls' := #[.val (.int i0), .val (.long i1), .second, .val (.long i2), .second, .val (.int (0 : Int32)), .val (.ref w_SELL), .val (.ref w_BUY), .val (.int (0 : Int32)), .val (.int (0 : Int32)), .val (.int (0 : Int32)), .val (.int (0 : Int32)), .val (.int (1 : Int32)), .val (.int (1 : Int32))]) at_158 rfl rfl ?_
      refine s_iload B X17 (pc' := 162) at_160 rfl rfl ?_
      refine s_iconst B X17 (pc' := 163) (v := (1 : Int32)) at_162 rfl rfl ?_
      refine s_icmpY B X17 (pc' := 168) at_163 (by decide) (by decide) (by decide) ?_
      refine s_iload B X17 (pc' := 170) at_168 rfl rfl ?_
      refine s_iload B X17 (pc' := 172) at_170 rfl rfl ?_
      refine s_icmpN B X17 (pc' := 175) at_172 (by decide) rfl ?_
      refine s_iconst B X17 (pc' := 176) (v := (1 : Int32)) at_175 rfl rfl ?_
      refine s_goto B X17 (pc' := 180) at_176 (by decide) (by decide) ?_
      exact r_nar B X17 (t := .boolean) (by simp) rfl at_180 ⟨rfl, Fr.nil _⟩ (by decide) (by decide)
    · refine s_iconst B X0 (pc' := 7) (v := (1 : Int32)) at_6 rfl rfl ?_
      refine s_goto B X0 (pc' := 11) at_7 (by decide) (by decide) ?_
      refine s_istore B X0 (pc' := 13) (Ls' := #[.val (.int i0), .val (.long i1), .second, .val (.long i2), .second, .val (.int (1 : Int32)), .unset, .unset, .unset, .unset, .unset, .unset, .unset, .unset]) at_11 rfl rfl ?_
      refine s_iload B X0 (pc' := 15) at_13 rfl rfl ?_
      refine s_ifN B X0 (pc' := 18) at_15 (by decide) rfl ?_
      refine s_getS B X0 (pc' := 21) e0 (tw0 hw) Via.refl S_BUY at_18 rfl (fun T18 X18 e18 => ?_)
      refine s_goto B X18 (pc' := 27) at_21 (by decide) (by decide) ?_
      refine s_astore B X18 (pc' := 29) (Ls' := #[.val (.int i0), .val (.long i1), .second, .val (.long i2), .second, .val (.int (1 : Int32)), .val (.ref w_BUY), .unset, .unset, .unset, .unset, .unset, .unset, .unset]) at_27 rfl rfl rfl ?_
      refine s_iload B X18 (pc' := 31) at_29 rfl rfl ?_
      refine s_ifN B X18 (pc' := 34) at_31 (by decide) rfl ?_
      refine s_getS B X18 (pc' := 37) e18 (tw3 hw) Via.refl S_SELL at_34 rfl (fun T19 X19 e19 => ?_)
      refine s_goto B X19 (pc' := 43) at_37 (by decide) (by decide) ?_
      refine s_astore B X19 (pc' := 45) (Ls' := #[.val (.int i0), .val (.long i1), .second, .val (.long i2), .second, .val (.int (1 : Int32)), .val (.ref w_BUY), .val (.ref w_SELL), .unset, .unset, .unset, .unset, .unset, .unset]) at_43 rfl rfl rfl ?_
      refine s_aload B X19 (pc' := 47) at_45 rfl rfl rfl ?_
      refine s_lloadN B X19 (pc' := 48) at_47 rfl rfl ?_
      refine s_lloadN B X19 (pc' := 49) at_48 rfl rfl ?_
      refine p_virtual B X19 (y := mn0) (pc' := 52) (argsL := [(.long i1), (.long i2)]) (under := []) (W := 0) e19 (tw5 hw) (tw6 hw) (tw8 hw) (tw7 hw) (tw9 hw) (tw1 hw) (by decide) (rm_ahd l Z a0 hw w_BUY i1 i2 0 w_BUY w_SELL h0 F0 (by simp [fAhd, hne, hA, hB])) E_BUY (lenOf pd_0 rfl) rfl rfl (by decide) (by decide) rfl rfl (by decide) (by decide) rfl at_49 rfl (fun T20 X20 e20 => ?_)
      show Go p e below _ (T20.setTop (mkF m 52 #[.val (.int i0), .val (.long i1), .second, .val (.long i2), .second, .val (.int (1 : Int32)), .val (.ref w_BUY), .val (.ref w_SELL), .unset, .unset, .unset, .unset, .unset, .unset] [(.int (0 : Int32))]))
      refine s_istore B X20 (pc' := 54) (Ls' := #[.val (.int i0), .val (.long i1), .second, .val (.long i2), .second, .val (.int (1 : Int32)), .val (.ref w_BUY), .val (.ref w_SELL), .val (.int (0 : Int32)), .unset, .unset, .unset, .unset, .unset]) at_52 rfl rfl ?_
      refine s_aload B X20 (pc' := 56) at_54 rfl rfl rfl ?_
      refine s_lloadN B X20 (pc' := 57) at_56 rfl rfl ?_
      refine s_lloadN B X20 (pc' := 58) at_57 rfl rfl ?_
      refine p_virtual B X20 (y := mn0) (pc' := 61) (argsL := [(.long i2), (.long i1)]) (under := []) (W := 0) e20 (tw5 hw) (tw6 hw) (tw8 hw) (tw7 hw) (tw9 hw) (tw1 hw) (by decide) (rm_ahd l Z a0 hw w_BUY i2 i1 0 w_BUY w_SELL h0 F0 (by simp [fAhd, hne, hA, hB])) E_BUY (lenOf pd_0 rfl) rfl rfl (by decide) (by decide) rfl rfl (by decide) (by decide) rfl at_58 rfl (fun T21 X21 e21 => ?_)
      show Go p e below _ (T21.setTop (mkF m 61 #[.val (.int i0), .val (.long i1), .second, .val (.long i2), .second, .val (.int (1 : Int32)), .val (.ref w_BUY), .val (.ref w_SELL), .val (.int (0 : Int32)), .unset, .unset, .unset, .unset, .unset] [(.int (0 : Int32))]))
      refine s_istore B X21 (pc' := 63) (Ls' := #[.val (.int i0), .val (.long i1), .second, .val (.long i2), .second, .val (.int (1 : Int32)), .val (.ref w_BUY), .val (.ref w_SELL), .val (.int (0 : Int32)), .val (.int (0 : Int32)), .unset, .unset, .unset, .unset]) at_61 rfl rfl ?_
      refine s_aload B X21 (pc' := 65) at_63 rfl rfl rfl ?_
      refine s_lloadN B X21 (pc' := 66) at_65 rfl rfl ?_
      refine s_lloadN B X21 (pc' := 67) at_66 rfl rfl ?_
      refine p_virtual B X21 (y := mn0) (pc' := 70) (argsL := [(.long i2), (.long i1)]) (under := []) (W := 0) e21 (tw5 hw) (tw6 hw) (tw8 hw) (tw7 hw) (tw9 hw) (tw1 hw) (by decide) (rm_ahd l Z a0 hw w_SELL i2 i1 0 w_BUY w_SELL h0 F0 (by simp [fAhd, hne, hA, hB])) E_SELL (lenOf pd_0 rfl) rfl rfl (by decide) (by decide) rfl rfl (by decide) (by decide) rfl at_67 rfl (fun T22 X22 e22 => ?_)
      show Go p e below _ (T22.setTop (mkF m 70 #[.val (.int i0), .val (.long i1), .second, .val (.long i2), .second, .val (.int (1 : Int32)), .val (.ref w_BUY), .val (.ref w_SELL), .val (.int (0 : Int32)), .val (.int (0 : Int32)), .unset, .unset, .unset, .unset] [(.int (0 : Int32))]))
      refine s_istore B X22 (pc' := 72) (Ls' := #[.val (.int i0), .val (.long i1), .second, .val (.long i2), .second, .val (.int (1 : Int32)), .val (.ref w_BUY), .val (.ref w_SELL), .val (.int (0 : Int32)), .val (.int (0 : Int32)), .val (.int (0 : Int32)), .unset, .unset, .unset]) at_70 rfl rfl ?_
      refine s_iload B X22 (pc' := 74) at_72 rfl rfl ?_
      refine s_ifN B X22 (pc' := 77) at_74 (by decide) rfl ?_
      refine s_lloadN B X22 (pc' := 78) at_77 rfl rfl ?_
      refine s_lloadN B X22 (pc' := 79) at_78 rfl rfl ?_
      refine b_lcmp_le B X22 (py := 87) (pn := 83) at_79 rfl at_80 (by decide) (by decide) rfl (fun _ => ?_) (fun q => absurd q hB)
      refine s_iconst B X22 (pc' := 88) (v := (0 : Int32)) at_87 rfl rfl ?_
      refine s_goto B X22 (pc' := 102) at_88 (by decide) (by decide) ?_
      refine s_istore B X22 (pc' := 104) (Ls' := #[.val (.int i0), .val (.long i1), .second, .val (.long i2), .second, .val (.int (1 : Int32)), .val (.ref w_BUY), .val (.ref w_SELL), .val (.int (0 : Int32)), .val (.int (0 : Int32)), .val (.int (0 : Int32)), .val (.int (0 : Int32)), .unset, .unset]) at_102 rfl rfl ?_
      refine s_iload B X22 (pc' := 106) at_104 rfl rfl ?_
      refine s_iload B X22 (pc' := 108) at_106 rfl rfl ?_
      refine s_icmpY B X22 (pc' := 113) at_108 (by decide) (by decide) (by decide) ?_
      refine s_lloadN B X22 (pc' := 114) at_113 rfl rfl ?_
      refine s_lloadN B X22 (pc' := 115) at_114 rfl rfl ?_
      refine b_lcmp_ne B X22 (py := 123) (pn := 119) at_115 rfl at_116 (by decide) (by decide) rfl (fun q => absurd hE q) (fun _ => ?_)
      refine s_iconst B X22 (pc' := 120) (v := (1 : Int32)) at_119 rfl rfl ?_
      refine s_goto B X22 (pc' := 124) at_120 (by decide) (by decide) ?_
      refine s_istore B X22 (pc' := 126) (Ls' := #[.val (.int i0), .val (.long i1), .second, .val (.long i2), .second, .val (.int (1 : Int32)), .val (.ref w_BUY), .val (.ref w_SELL), .val (.int (0 : Int32)), .val (.int (0 : Int32)), .val (.int (0 : Int32)), .val (.int (0 : Int32)), .val (.int (1 : Int32)), .unset]) at_124 rfl rfl ?_
      refine s_iload B X22 (pc' := 128) at_126 rfl rfl ?_
      refine s_ifY B X22 (pc' := 135) at_128 (by decide) (by decide) (by decide) ?_
      refine s_iconst B X22 (pc' := 136) (v := (0 : Int32)) at_135 rfl rfl ?_
      refine s_iload B X22 (pc' := 138) at_136 rfl rfl ?_
      refine s_ifY B X22 (pc' := 145) at_138 (by decide) (by decide) (by decide) ?_
      refine s_iconst B X22 (pc' := 146) (v := (0 : Int32)) at_145 rfl rfl ?_
      refine s_iadd B X22 (pc' := 147) (v := (0 : Int32)) at_146 rfl rfl ?_
      refine s_iload B X22 (pc' := 149) at_147 rfl rfl ?_
      refine s_ifN B X22 (pc' := 152) at_149 (by decide) rfl ?_
      refine s_iconst B X22 (pc' := 153) (v := (1 : Int32)) at_152 rfl rfl ?_
      refine s_goto B X22 (pc' := 157) at_153 (by decide) (by decide) ?_
      refine s_iadd B X22 (pc' := 158) (v := (1 : Int32)) at_157 rfl rfl ?_
      refine s_istore B X22 (pc' := 160) (Ls' := #[.val (.int i0), .val (.long i1), .second, .val (.long i2), .second, .val (.int (1 : Int32)), .val (.ref w_BUY), .val (.ref w_SELL), .val (.int (0 : Int32)), .val (.int (0 : Int32)), .val (.int (0 : Int32)), .val (.int (0 : Int32)), .val (.int (1 : Int32)), .val (.int (1 : Int32))]) at_158 rfl rfl ?_
      refine s_iload B X22 (pc' := 162) at_160 rfl rfl ?_
      refine s_iconst B X22 (pc' := 163) (v := (1 : Int32)) at_162 rfl rfl ?_
      refine s_icmpY B X22 (pc' := 168) at_163 (by decide) (by decide) (by decide) ?_
      refine s_iload B X22 (pc' := 170) at_168 rfl rfl ?_
      refine s_iload B X22 (pc' := 172) at_170 rfl rfl ?_
      refine s_icmpN B X22 (pc' := 175) at_172 (by decide) rfl ?_
      refine s_iconst B X22 (pc' := 176) (v := (1 : Int32)) at_175 rfl rfl ?_
      refine s_goto B X22 (pc' := 180) at_176 (by decide) (by decide) ?_
      exact r_nar B X22 (t := .boolean) (by simp) rfl at_180 ⟨rfl, Fr.nil _⟩ (by decide) (by decide)
  · refine s_iloadN B X0 (pc' := 1) at_0 rfl rfl ?_
    refine s_iconst B X0 (pc' := 2) (v := (1 : Int32)) at_1 rfl rfl ?_
    refine s_iand B X0 (pc' := 3) (v := (i0 &&& (1 : Int32))) at_2 rfl rfl ?_
    refine b_if_ne B X0 (py := 10) (pn := 6) at_3 (by decide) (by decide) rfl (fun hc3_23 => ?_) (fun hc3_23 => ?_)
    · refine s_iconst B X0 (pc' := 11) (v := (0 : Int32)) at_10 rfl rfl ?_
      refine s_istore B X0 (pc' := 13) (Ls' := #[.val (.int i0), .val (.long i1), .second, .val (.long i2), .second, .val (.int (0 : Int32)), .unset, .unset, .unset, .unset, .unset, .unset, .unset, .unset]) at_11 rfl rfl ?_
      refine s_iload B X0 (pc' := 15) at_13 rfl rfl ?_
      refine s_ifY B X0 (pc' := 24) at_15 (by decide) (by decide) (by decide) ?_
      refine s_getS B X0 (pc' := 27) e0 (tw3 hw) Via.refl S_SELL at_24 rfl (fun T24 X24 e24 => ?_)
      refine s_astore B X24 (pc' := 29) (Ls' := #[.val (.int i0), .val (.long i1), .second, .val (.long i2), .second, .val (.int (0 : Int32)), .val (.ref w_SELL), .unset, .unset, .unset, .unset, .unset, .unset, .unset]) at_27 rfl rfl rfl ?_
      refine s_iload B X24 (pc' := 31) at_29 rfl rfl ?_
      refine s_ifY B X24 (pc' := 40) at_31 (by decide) (by decide) (by decide) ?_
      refine s_getS B X24 (pc' := 43) e24 (tw0 hw) Via.refl S_BUY at_40 rfl (fun T25 X25 e25 => ?_)
      refine s_astore B X25 (pc' := 45) (Ls' := #[.val (.int i0), .val (.long i1), .second, .val (.long i2), .second, .val (.int (0 : Int32)), .val (.ref w_SELL), .val (.ref w_BUY), .unset, .unset, .unset, .unset, .unset, .unset]) at_43 rfl rfl rfl ?_
      refine s_aload B X25 (pc' := 47) at_45 rfl rfl rfl ?_
      refine s_lloadN B X25 (pc' := 48) at_47 rfl rfl ?_
      refine s_lloadN B X25 (pc' := 49) at_48 rfl rfl ?_
      refine p_virtual B X25 (y := mn0) (pc' := 52) (argsL := [(.long i1), (.long i2)]) (under := []) (W := 0) e25 (tw5 hw) (tw6 hw) (tw8 hw) (tw7 hw) (tw9 hw) (tw1 hw) (by decide) (rm_ahd l Z a0 hw w_SELL i1 i2 0 w_BUY w_SELL h0 F0 (by simp [fAhd, hne, hA, hB])) E_SELL (lenOf pd_0 rfl) rfl rfl (by decide) (by decide) rfl rfl (by decide) (by decide) rfl at_49 rfl (fun T26 X26 e26 => ?_)
      show Go p e below _ (T26.setTop (mkF m 52 #[.val (.int i0), .val (.long i1), .second, .val (.long i2), .second, .val (.int (0 : Int32)), .val (.ref w_SELL), .val (.ref w_BUY), .unset, .unset, .unset, .unset, .unset, .unset] [(.int (0 : Int32))]))
      refine s_istore B X26 (pc' := 54) (Ls' := #[.val (.int i0), .val (.long i1), .second, .val (.long i2), .second, .val (.int (0 : Int32)), .val (.ref w_SELL), .val (.ref w_BUY), .val (.int (0 : Int32)), .unset, .unset, .unset, .unset, .unset]) at_52 rfl rfl ?_
      refine s_aload B X26 (pc' := 56) at_54 rfl rfl rfl ?_
      refine s_lloadN B X26 (pc' := 57) at_56 rfl rfl ?_
      refine s_lloadN B X26 (pc' := 58) at_57 rfl rfl ?_
      refine p_virtual B X26 (y := mn0) (pc' := 61) (argsL := [(.long i2), (.long i1)]) (under := []) (W := 0) e26 (tw5 hw) (tw6 hw) (tw8 hw) (tw7 hw) (tw9 hw) (tw1 hw) (by decide) (rm_ahd l Z a0 hw w_SELL i2 i1 1 w_BUY w_SELL h0 F0 (by simp [fAhd, hne, hA, hB])) E_SELL (lenOf pd_0 rfl) rfl rfl (by decide) (by decide) rfl rfl (by decide) (by decide) rfl at_58 rfl (fun T27 X27 e27 => ?_)
      show Go p e below _ (T27.setTop (mkF m 61 #[.val (.int i0), .val (.long i1), .second, .val (.long i2), .second, .val (.int (0 : Int32)), .val (.ref w_SELL), .val (.ref w_BUY), .val (.int (0 : Int32)), .unset, .unset, .unset, .unset, .unset] [(.int (1 : Int32))]))
      refine s_istore B X27 (pc' := 63) (Ls' := #[.val (.int i0), .val (.long i1), .second, .val (.long i2), .second, .val (.int (0 : Int32)), .val (.ref w_SELL), .val (.ref w_BUY), .val (.int (0 : Int32)), .val (.int (1 : Int32)), .unset, .unset, .unset, .unset]) at_61 rfl rfl ?_
      refine s_aload B X27 (pc' := 65) at_63 rfl rfl rfl ?_
      refine s_lloadN B X27 (pc' := 66) at_65 rfl rfl ?_
      refine s_lloadN B X27 (pc' := 67) at_66 rfl rfl ?_
      refine p_virtual B X27 (y := mn0) (pc' := 70) (argsL := [(.long i2), (.long i1)]) (under := []) (W := 0) e27 (tw5 hw) (tw6 hw) (tw8 hw) (tw7 hw) (tw9 hw) (tw1 hw) (by decide) (rm_ahd l Z a0 hw w_BUY i2 i1 0 w_BUY w_SELL h0 F0 (by simp [fAhd, hne, hA, hB])) E_BUY (lenOf pd_0 rfl) rfl rfl (by decide) (by decide) rfl rfl (by decide) (by decide) rfl at_67 rfl (fun T28 X28 e28 => ?_)
      show Go p e below _ (T28.setTop (mkF m 70 #[.val (.int i0), .val (.long i1), .second, .val (.long i2), .second, .val (.int (0 : Int32)), .val (.ref w_SELL), .val (.ref w_BUY), .val (.int (0 : Int32)), .val (.int (1 : Int32)), .unset, .unset, .unset, .unset] [(.int (0 : Int32))]))
      refine s_istore B X28 (pc' := 72) (Ls' := #[.val (.int i0), .val (.long i1), .second, .val (.long i2), .second, .val (.int (0 : Int32)), .val (.ref w_SELL), .val (.ref w_BUY), .val (.int (0 : Int32)), .val (.int (1 : Int32)), .val (.int (0 : Int32)), .unset, .unset, .unset]) at_70 rfl rfl ?_
      refine s_iload B X28 (pc' := 74) at_72 rfl rfl ?_
      refine s_ifY B X28 (pc' := 91) at_74 (by decide) (by decide) (by decide) ?_
      refine s_lloadN B X28 (pc' := 92) at_91 rfl rfl ?_
      refine s_lloadN B X28 (pc' := 93) at_92 rfl rfl ?_
      refine b_lcmp_le B X28 (py := 101) (pn := 97) at_93 rfl at_94 (by decide) (by decide) rfl (fun _ => ?_) (fun q => absurd q hA)
      refine s_iconst B X28 (pc' := 102) (v := (0 : Int32)) at_101 rfl rfl ?_
      refine s_istore B X28 (pc' := 104) (Ls' := #[.val (.int i0), .val (.long i1), .second, .val (.long i2), .second, .val (.int (0 : Int32)), .val (.ref w_SELL), .val (.ref w_BUY), .val (.int (0 : Int32)), .val (.int (1 : Int32)), .val (.int (0 : Int32)), .val (.int (0 : Int32)), .unset, .unset]) at_102 rfl rfl ?_
      refine s_iload B X28 (pc' := 106) at_104 rfl rfl ?_
      refine s_iload B X28 (pc' := 108) at_106 rfl rfl ?_
      refine s_icmpY B X28 (pc' := 113) at_108 (by decide) (by decide) (by decide) ?_
      refine s_lloadN B X28 (pc' := 114) at_113 rfl rfl ?_
      refine s_lloadN B X28 (pc' := 115) at_114 rfl rfl ?_
      refine b_lcmp_ne B X28 (py := 123) (pn := 119) at_115 rfl at_116 (by decide) (by decide) rfl (fun _ => ?_) (fun q => absurd q hE)
      refine s_iconst B X28 (pc' := 124) (v := (0 : Int32)) at_123 rfl rfl ?_
      refine s_istore B X28 (pc' := 126) (Ls' := #[.val (.int i0), .val (.long i1), .second, .val (.long i2), .second, .val (.int (0 : Int32)), .val (.ref w_SELL), .val (.ref w_BUY), .val (.int (0 : Int32)), .val (.int (1 : Int32)), .val (.int (0 : Int32)), .val (.int (0 : Int32)), .val (.int (0 : Int32)), .unset]) at_124 rfl rfl ?_
      refine s_iload B X28 (pc' := 128) at_126 rfl rfl ?_
      refine s_ifY B X28 (pc' := 135) at_128 (by decide) (by decide) (by decide) ?_
      refine s_iconst B X28 (pc' := 136) (v := (0 : Int32)) at_135 rfl rfl ?_
      refine s_iload B X28 (pc' := 138) at_136 rfl rfl ?_
      refine s_ifN B X28 (pc' := 141) at_138 (by decide) rfl ?_
      refine s_iconst B X28 (pc' := 142) (v := (1 : Int32)) at_141 rfl rfl ?_
      refine s_goto B X28 (pc' := 146) at_142 (by decide) (by decide) ?_
      refine s_iadd B X28 (pc' := 147) (v := (1 : Int32)) at_146 rfl rfl ?_
      refine s_iload B X28 (pc' := 149) at_147 rfl rfl ?_
      refine s_ifY B X28 (pc' := 156) at_149 (by decide) (by decide) (by decide) ?_
      refine s_iconst B X28 (pc' := 157) (v := (0 : Int32)) at_156 rfl rfl ?_
      refine s_iadd B X28 (pc' := 158) (v := (1 : Int32)) at_157 rfl rfl ?_
      refine s_istore B X28 (pc' := 160) (Ls' := #[.val (.int i0), .val (.long i1), .second, .val (.long i2), .second, .val (.int (0 : Int32)), .val (.ref w_SELL), .val (.ref w_BUY), .val (.int (0 : Int32)), .val (.int (1 : Int32)), .val (.int (0 : Int32)), .val (.int (0 : Int32)), .val (.int (0 : Int32)), .val (.int (1 : Int32))]) at_158 rfl rfl ?_
      refine s_iload B X28 (pc' := 162) at_160 rfl rfl ?_
      refine s_iconst B X28 (pc' := 163) (v := (1 : Int32)) at_162 rfl rfl ?_
      refine s_icmpY B X28 (pc' := 168) at_163 (by decide) (by decide) (by decide) ?_
      refine s_iload B X28 (pc' := 170) at_168 rfl rfl ?_
      refine s_iload B X28 (pc' := 172) at_170 rfl rfl ?_
      refine s_icmpN B X28 (pc' := 175) at_172 (by decide) rfl ?_
      refine s_iconst B X28 (pc' := 176) (v := (1 : Int32)) at_175 rfl rfl ?_
      refine s_goto B X28 (pc' := 180) at_176 (by decide) (by decide) ?_
      exact r_nar B X28 (t := .boolean) (by simp) rfl at_180 ⟨rfl, Fr.nil _⟩ (by decide) (by decide)
    · refine s_iconst B X0 (pc' := 7) (v := (1 : Int32)) at_6 rfl rfl ?_
      refine s_goto B X0 (pc' := 11) at_7 (by decide) (by decide) ?_
      refine s_istore B X0 (pc' := 13) (Ls' := #[.val (.int i0), .val (.long i1), .second, .val (.long i2), .second, .val (.int (1 : Int32)), .unset, .unset, .unset, .unset, .unset, .unset, .unset, .unset]) at_11 rfl rfl ?_
      refine s_iload B X0 (pc' := 15) at_13 rfl rfl ?_
      refine s_ifN B X0 (pc' := 18) at_15 (by decide) rfl ?_
      refine s_getS B X0 (pc' := 21) e0 (tw0 hw) Via.refl S_BUY at_18 rfl (fun T29 X29 e29 => ?_)
      refine s_goto B X29 (pc' := 27) at_21 (by decide) (by decide) ?_
      refine s_astore B X29 (pc' := 29) (Ls' := #[.val (.int i0), .val (.long i1), .second, .val (.long i2), .second, .val (.int (1 : Int32)), .val (.ref w_BUY), .unset, .unset, .unset, .unset, .unset, .unset, .unset]) at_27 rfl rfl rfl ?_
      refine s_iload B X29 (pc' := 31) at_29 rfl rfl ?_
      refine s_ifN B X29 (pc' := 34) at_31 (by decide) rfl ?_
      refine s_getS B X29 (pc' := 37) e29 (tw3 hw) Via.refl S_SELL at_34 rfl (fun T30 X30 e30 => ?_)
      refine s_goto B X30 (pc' := 43) at_37 (by decide) (by decide) ?_
      refine s_astore B X30 (pc' := 45) (Ls' := #[.val (.int i0), .val (.long i1), .second, .val (.long i2), .second, .val (.int (1 : Int32)), .val (.ref w_BUY), .val (.ref w_SELL), .unset, .unset, .unset, .unset, .unset, .unset]) at_43 rfl rfl rfl ?_
      refine s_aload B X30 (pc' := 47) at_45 rfl rfl rfl ?_
      refine s_lloadN B X30 (pc' := 48) at_47 rfl rfl ?_
      refine s_lloadN B X30 (pc' := 49) at_48 rfl rfl ?_
      refine p_virtual B X30 (y := mn0) (pc' := 52) (argsL := [(.long i1), (.long i2)]) (under := []) (W := 0) e30 (tw5 hw) (tw6 hw) (tw8 hw) (tw7 hw) (tw9 hw) (tw1 hw) (by decide) (rm_ahd l Z a0 hw w_BUY i1 i2 1 w_BUY w_SELL h0 F0 (by simp [fAhd, hne, hA, hB])) E_BUY (lenOf pd_0 rfl) rfl rfl (by decide) (by decide) rfl rfl (by decide) (by decide) rfl at_49 rfl (fun T31 X31 e31 => ?_)
      show Go p e below _ (T31.setTop (mkF m 52 #[.val (.int i0), .val (.long i1), .second, .val (.long i2), .second, .val (.int (1 : Int32)), .val (.ref w_BUY), .val (.ref w_SELL), .unset, .unset, .unset, .unset, .unset, .unset] [(.int (1 : Int32))]))
      refine s_istore B X31 (pc' := 54) (Ls' := #[.val (.int i0), .val (.long i1), .second, .val (.long i2), .second, .val (.int (1 : Int32)), .val (.ref w_BUY), .val (.ref w_SELL), .val (.int (1 : Int32)), .unset, .unset, .unset, .unset, .unset]) at_52 rfl rfl ?_
      refine s_aload B X31 (pc' := 56) at_54 rfl rfl rfl ?_
      refine s_lloadN B X31 (pc' := 57) at_56 rfl rfl ?_
      refine s_lloadN B X31 (pc' := 58) at_57 rfl rfl ?_
      refine p_virtual B X31 (y := mn0) (pc' := 61) (argsL := [(.long i2), (.long i1)]) (under := []) (W := 0) e31 (tw5 hw) (tw6 hw) (tw8 hw) (tw7 hw) (tw9 hw) (tw1 hw) (by decide) (rm_ahd l Z a0 hw w_BUY i2 i1 0 w_BUY w_SELL h0 F0 (by simp [fAhd, hne, hA, hB])) E_BUY (lenOf pd_0 rfl) rfl rfl (by decide) (by decide) rfl rfl (by decide) (by decide) rfl at_58 rfl (fun T32 X32 e32 => ?_)
      show Go p e below _ (T32.setTop (mkF m 61 #[.val (.int i0), .val (.long i1), .second, .val (.long i2), .second, .val (.int (1 : Int32)), .val (.ref w_BUY), .val (.ref w_SELL), .val (.int (1 : Int32)), .unset, .unset, .unset, .unset, .unset] [(.int (0 : Int32))]))
      refine s_istore B X32 (pc' := 63) (Ls' := #[.val (.int i0), .val (.long i1), .second, .val (.long i2), .second, .val (.int (1 : Int32)), .val (.ref w_BUY), .val (.ref w_SELL), .val (.int (1 : Int32)), .val (.int (0 : Int32)), .unset, .unset, .unset, .unset]) at_61 rfl rfl ?_
      refine s_aload B X32 (pc' := 65) at_63 rfl rfl rfl ?_
      refine s_lloadN B X32 (pc' := 66) at_65 rfl rfl ?_
      refine s_lloadN B X32 (pc' := 67) at_66 rfl rfl ?_
      refine p_virtual B X32 (y := mn0) (pc' := 70) (argsL := [(.long i2), (.long i1)]) (under := []) (W := 0) e32 (tw5 hw) (tw6 hw) (tw8 hw) (tw7 hw) (tw9 hw) (tw1 hw) (by decide) (rm_ahd l Z a0 hw w_SELL i2 i1 1 w_BUY w_SELL h0 F0 (by simp [fAhd, hne, hA, hB])) E_SELL (lenOf pd_0 rfl) rfl rfl (by decide) (by decide) rfl rfl (by decide) (by decide) rfl at_67 rfl (fun T33 X33 e33 => ?_)
      show Go p e below _ (T33.setTop (mkF m 70 #[.val (.int i0), .val (.long i1), .second, .val (.long i2), .second, .val (.int (1 : Int32)), .val (.ref w_BUY), .val (.ref w_SELL), .val (.int (1 : Int32)), .val (.int (0 : Int32)), .unset, .unset, .unset, .unset] [(.int (1 : Int32))]))
      refine s_istore B X33 (pc' := 72) (Ls' := #[.val (.int i0), .val (.long i1), .second, .val (.long i2), .second, .val (.int (1 : Int32)), .val (.ref w_BUY), .val (.ref w_SELL), .val (.int (1 : Int32)), .val (.int (0 : Int32)), .val (.int (1 : Int32)), .unset, .unset, .unset]) at_70 rfl rfl ?_
      refine s_iload B X33 (pc' := 74) at_72 rfl rfl ?_
      refine s_ifN B X33 (pc' := 77) at_74 (by decide) rfl ?_
      refine s_lloadN B X33 (pc' := 78) at_77 rfl rfl ?_
      refine s_lloadN B X33 (pc' := 79) at_78 rfl rfl ?_
      refine b_lcmp_le B X33 (py := 87) (pn := 83) at_79 rfl at_80 (by decide) (by decide) rfl (fun q => absurd hB q) (fun _ => ?_)
      refine s_iconst B X33 (pc' := 84) (v := (1 : Int32)) at_83 rfl rfl ?_
      refine s_goto B X33 (pc' := 102) at_84 (by decide) (by decide) ?_
      refine s_istore B X33 (pc' := 104) (Ls' := #[.val (.int i0), .val (.long i1), .second, .val (.long i2), .second, .val (.int (1 : Int32)), .val (.ref w_BUY), .val (.ref w_SELL), .val (.int (1 : Int32)), .val (.int (0 : Int32)), .val (.int (1 : Int32)), .val (.int (1 : Int32)), .unset, .unset]) at_102 rfl rfl ?_
      refine s_iload B X33 (pc' := 106) at_104 rfl rfl ?_
      refine s_iload B X33 (pc' := 108) at_106 rfl rfl ?_
      refine s_icmpY B X33 (pc' := 113) at_108 (by decide) (by decide) (by decide) ?_
      refine s_lloadN B X33 (pc' := 114) at_113 rfl rfl ?_
      refine s_lloadN B X33 (pc' := 115) at_114 rfl rfl ?_
      refine b_lcmp_ne B X33 (py := 123) (pn := 119) at_115 rfl at_116 (by decide) (by decide) rfl (fun _ => ?_) (fun q => absurd q hE)
      refine s_iconst B X33 (pc' := 124) (v := (0 : Int32)) at_123 rfl rfl ?_
      refine s_istore B X33 (pc' := 126) (Ls' := #[.val (.int i0), .val (.long i1), .second, .val (.long i2), .second, .val (.int (1 : Int32)), .val (.ref w_BUY), .val (.ref w_SELL), .val (.int (1 : Int32)), .val (.int (0 : Int32)), .val (.int (1 : Int32)), .val (.int (1 : Int32)), .val (.int (0 : Int32)), .unset]) at_124 rfl rfl ?_
      refine s_iload B X33 (pc' := 128) at_126 rfl rfl ?_
      refine s_ifN B X33 (pc' := 131) at_128 (by decide) rfl ?_
      refine s_iconst B X33 (pc' := 132) (v := (1 : Int32)) at_131 rfl rfl ?_
      refine s_goto B X33 (pc' := 136) at_132 (by decide) (by decide) ?_
      refine s_iload B X33 (pc' := 138) at_136 rfl rfl ?_
      refine s_ifY B X33 (pc' := 145) at_138 (by decide) (by decide) (by decide) ?_
      refine s_iconst B X33 (pc' := 146) (v := (0 : Int32)) at_145 rfl rfl ?_
      refine s_iadd B X33 (pc' := 147) (v := (1 : Int32)) at_146 rfl rfl ?_
      refine s_iload B X33 (pc' := 149) at_147 rfl rfl ?_
      refine s_ifY B X33 (pc' := 156) at_149 (by decide) (by decide) (by decide) ?_
      refine s_iconst B X33 (pc' := 157) (v := (0 : Int32)) at_156 rfl rfl ?_
      refine s_iadd B X33 (pc' := 158) (v := (1 : Int32)) at_157 rfl rfl ?_
      refine s_istore B X33 (pc' := 160) (Ls' := #[.val (.int i0), .val (.long i1), .second, .val (.long i2), .second, .val (.int (1 : Int32)), .val (.ref w_BUY), .val (.ref w_SELL), .val (.int (1 : Int32)), .val (.int (0 : Int32)), .val (.int (1 : Int32)), .val (.int (1 : Int32)), .val (.int (0 : Int32)), .val (.int (1 : Int32))]) at_158 rfl rfl ?_
      refine s_iload B X33 (pc' := 162) at_160 rfl rfl ?_
      refine s_iconst B X33 (pc' := 163) (v := (1 : Int32)) at_162 rfl rfl ?_
      refine s_icmpY B X33 (pc' := 168) at_163 (by decide) (by decide) (by decide) ?_
      refine s_iload B X33 (pc' := 170) at_168 rfl rfl ?_
      refine s_iload B X33 (pc' := 172) at_170 rfl rfl ?_
      refine s_icmpN B X33 (pc' := 175) at_172 (by decide) rfl ?_
      refine s_iconst B X33 (pc' := 176) (v := (1 : Int32)) at_175 rfl rfl ?_
      refine s_goto B X33 (pc' := 180) at_176 (by decide) (by decide) ?_
      exact r_nar B X33 (t := .boolean) (by simp) rfl at_180 ⟨rfl, Fr.nil _⟩ (by decide) (by decide)
set_option maxRecDepth 65536 in
set_option maxHeartbeats 40000000 in
theorem comes_1 {Post : Tables → Env → Array Value → State → Outcome → State → Prop} (hpost : ∀ tb e args s v u, (limb_1_1.after args s (.returned v) u = true ∧ limb_1_2.after args s (.returned v) u = true ∧ True) → FrameEnd s (.returned v) u (Jvm.fieldLocs frame_1_writes args s ++ Jvm.arrayLocs frame_1_arrays args s ++ Jvm.staticLocs frame_1_statics s) 0 0 → Post tb e args s (.returned v) u) :
    ArmFor flags0 classFile x code maxLocals ret World_1 tables_1 room_1 Calls_1 rest_1 Pre_1 Post := by
  intro l hfl _ _ p e ha hc hk s m args below hf hA hF happ hP
  obtain ⟨hcalls, hrest, hpre⟩ := hP
  obtain ⟨-, -, -, hnamed, -, -, -, hat⟩ := (Spec.applies_iff hf).mp happ
  obtain ⟨hg, hn⟩ := and_e (Cond.before_iff.mp (show (Jvm.Cond.and given_1 narrow_1).before args s = true from hpre))
  obtain ⟨h1, hg⟩ := and_e hg
  obtain ⟨w0, w1, w2, rfl⟩ : ∃ w0 w1 w2 : Value, args = #[w0, w1, w2] := by
    have hs : args.size = 3 := by simpa [Cond.value, given_1] using h1
    obtain ⟨L⟩ := args
    match L, hs with
    | [w0, w1, w2], _ => exact ⟨w0, w1, w2, rfl⟩
  have hw := fun d (hd : d ∈ tables_1) => atoms_spec (ws := Jvm.Cond.code x code maxLocals ret :: tables_1) hat d (List.mem_cons_of_mem _ hd)
  have hfit : Fit s := fun {y c} hc i hi => by
    obtain ⟨ha, rfl⟩ := Array.getElem?_eq_some_iff.mp hc
    have q := List.all_eq_true.mp ((Array.all_eq_true_iff_forall_mem.mp hF) _ (Array.getElem_mem ha)) i (List.mem_range.mpr hi)
    simpa [Array.getElem?_eq_getElem hi] using q
  obtain ⟨hg0, hg⟩ := and_e hg
  obtain ⟨hg1, hg⟩ := and_e hg
  have hg2 := hg
  obtain ⟨i0, ei0⟩ := is_v hg0
  obtain rfl : w0 = (.int i0) := Option.some.inj ei0
  obtain ⟨i1, ei1⟩ := isL_v hg1
  obtain rfl : w1 = (.long i1) := Option.some.inj ei1
  obtain ⟨i2, ei2⟩ := isL_v hg2
  obtain rfl : w2 = (.long i2) := Option.some.inj ei2
  obtain ⟨hn0, hn⟩ := and_e hn
  obtain ⟨hn1, hn⟩ := and_e hn
  obtain ⟨hn2, hn⟩ := and_e hn
  have hn3 := hn
  obtain ⟨w_BUY, v_BUY⟩ := exa_v hn0
  have S_BUY := Sta.start v_BUY (Or.inr ⟨(tw1 hw), (tw2 hw)⟩)
  have E_BUY := Exa.start v_BUY hn0
  obtain ⟨w_SELL, v_SELL⟩ := exa_v hn1
  have S_SELL := Sta.start v_SELL (Or.inr ⟨(tw1 hw), (tw4 hw)⟩)
  have E_SELL := Exa.start v_SELL hn1
  have F_SELL_ordinal := Fld.start ((fld_at v_SELL).symm.trans (eqI_v hn2))
  have F_BUY_ordinal := Fld.start ((fld_at v_BUY).symm.trans (eqI_v hn3))
  obtain ⟨n, o, h1, h2, h3, _, L, rfl, ⟨rfl, N⟩, hq⟩ := rm_law l s _ hw i0 i1 i2 w_BUY w_SELL s.heap ⟨S_BUY, E_BUY, S_SELL, E_SELL, F_SELL_ordinal, F_BUY_ordinal⟩ p e ha hc hk s m _ below hf ((Spec.applies_iff_loose hf).mp happ).1 ⟨rfl, State.Warmed39.refl s, rfl⟩ trivial
  refine ⟨n, _, h1, h2, h3, hpost _ _ _ _ _ _ ⟨Cond.after_iff.mpr rfl, Cond.after_iff.mpr (eq_i res_at (Term.int_eval (1)) rfl), trivial⟩ ⟨hq.1, hq.2.1, (hq.2.2.sift fun y hy => Or.inr (N y hy)).mono (by decide) (by decide)⟩⟩
theorem main_1_1 : Claimed_1_1 := comes_1 fun _ _ _ _ _ _ h hF => ⟨h.1, hF⟩
theorem main_1_2 : Claimed_1_2 := comes_1 fun _ _ _ _ _ _ h hF => ⟨h.2.1, hF⟩
end Jvm.Pilot.@@N@@
namespace Jvm.Pilot.@@N@@
open Jvm Jvm.ClassFile Sem Op Lib Jvm.Free Jvm.Stand Jvm.Pilot.@@N@@.Jvm.D
/-! MADE BY PROGRAM (witnessworld.py) out of the Statement's table words and the real class files: 12 classes; the members and pool entries that the words name. The judged class is class 1, her method 1. -/
namespace start1
open Jvm.ClassFile
def u (s : String) : CpInfo := .utf8 (stringToUtf16 s)
/-- a pool by its gaps: so many unusable entries, then the entry; so many at the end -/
def gap : Nat → List CpInfo → List CpInfo
  | 0, r => r
  | n + 1, r => .unusable :: gap n r
def poolList (es : List (Nat × CpInfo)) (last : Nat) : List CpInfo := es.foldr (fun e r => gap e.1 (e.2 :: r)) (gap last [])
def pool (es : List (Nat × CpInfo)) (last : Nat) : Array CpInfo := ⟨poolList es last⟩
def fileOf (pool : Array CpInfo) (this : Nat) (attrs : Array Attribute := #[]) (ms : Array MethodInfo := #[]) (fl : Nat := 33) (sup : Nat := 0) (ifs : Array Nat := #[]) (fds : Array FieldInfo := #[]) : ClassFile where
  minorVersion := 0
  majorVersion := 65
  constantPool := pool
  accessFlags := fl
  thisClass := this
  superClass := sup
  interfaces := ifs
  fields := fds
  methods := ms
  attributes := attrs
def plain (name : String) (sup : Option ClassId) : Class where
  name := name
  kind := .ordinary
  loader := none
  accessFlags := 33
  super := sup
  interfaces := #[]
  cf := none
  fields := #[]
  methods := #[]
  instanceTypes := #[]
  staticTypes := #[]
  resolved := #[]
  callSites := []
  init := .initialized
  statics := none
  mirror := none

def pool0 : Array CpInfo := pool [(5, u "<init>"), (0, u "()V"), (1, .class_ 10), (1, u "java/lang/Object")] 113

def k0m0 : Method := { name := "<init>", desc := "()V", sig := { parameters := [], returnType := none }, accessFlags := 1, code := none }
/-- java/lang/Object -/
def k0 : Class := { plain "java/lang/Object" none with
  accessFlags := 33
  interfaces := #[]
  cf := some (fileOf pool0 8 #[] #[{ accessFlags := 1, nameIndex := 5, descriptorIndex := 6, attributes := #[] }] 33 0 #[] #[])
  fields := #[]
  methods := #[k0m0]
  instanceTypes := #[]
  staticTypes := #[]
  resolved := Array.replicate 124 none
  statics := none }

def pool1 : Array CpInfo := pool [(2, .class_ 4), (1, u "java/lang/Object"), (0, u "<init>"), (0, u "()V"), (0, .fieldref 8 9), (0, .class_ 10), (0, .nameAndType 11 12), (0, u "com/example/bulwark/bulwark/engine/Side"), (0, u "BUY"), (0, u "Lcom/example/bulwark/bulwark/engine/Side;"), (0, .fieldref 8 14), (0, .nameAndType 15 12), (0, u "SELL"), (0, .methodref 8 17), (0, .nameAndType 18 19), (0, u "ahead"), (0, u "(JJ)Z"), (0, .class_ 21), (0, u "com/example/bulwark/bulwark/engine/SideAheadPinLaw"), (2, u "law"), (0, u "(IJJ)Z")] 3

def k1m0 : Method := { name := "<init>", desc := "()V", sig := { parameters := [], returnType := none }, accessFlags := 1, code := none }
def k1c1 : Code := { maxStack := 5, maxLocals := 14, code := code, exceptionTable := #[], attributes := #[] }
def k1m1 : Method := { name := "law", desc := "(IJJ)Z", sig := { parameters := [.int, .long, .long], returnType := some .boolean }, accessFlags := 9, code := some k1c1 }
/-- com/example/bulwark/bulwark/engine/SideAheadPinLaw -/
def k1 : Class := { plain "com/example/bulwark/bulwark/engine/SideAheadPinLaw" (some 0) with
  accessFlags := 49
  interfaces := #[]
  cf := some (fileOf pool1 20 #[] #[{ accessFlags := 1, nameIndex := 5, descriptorIndex := 6, attributes := #[] }, { accessFlags := 9, nameIndex := 24, descriptorIndex := 25, attributes := #[] }] 49 2 #[] #[])
  fields := #[]
  methods := #[k1m0, k1m1]
  instanceTypes := #[]
  staticTypes := #[]
  resolved := Array.replicate 29 none
  statics := none }

def pool2 : Array CpInfo := pool [(1, .class_ 2), (0, u "java/lang/constant/Constable"), (0, .class_ 4), (0, u "java/lang/Object")] 6

/-- java/lang/constant/Constable -/
def k2 : Class := { plain "java/lang/constant/Constable" (some 0) with
  accessFlags := 1537
  interfaces := #[]
  cf := some (fileOf pool2 1 #[] #[] 1537 3 #[] #[])
  fields := #[]
  methods := #[]
  instanceTypes := #[]
  staticTypes := #[]
  resolved := Array.replicate 11 none
  statics := none }

def pool3 : Array CpInfo := pool [(1, .class_ 2), (0, u "java/lang/Comparable"), (0, .class_ 4), (0, u "java/lang/Object")] 7

/-- java/lang/Comparable -/
def k3 : Class := { plain "java/lang/Comparable" (some 0) with
  accessFlags := 1537
  interfaces := #[]
  cf := some (fileOf pool3 1 #[] #[] 1537 3 #[] #[])
  fields := #[]
  methods := #[]
  instanceTypes := #[]
  staticTypes := #[]
  resolved := Array.replicate 12 none
  statics := none }

def pool4 : Array CpInfo := pool [(1, .class_ 2), (0, u "java/io/Serializable"), (0, .class_ 4), (0, u "java/lang/Object")] 2

/-- java/io/Serializable -/
def k4 : Class := { plain "java/io/Serializable" (some 0) with
  accessFlags := 1537
  interfaces := #[]
  cf := some (fileOf pool4 1 #[] #[] 1537 3 #[] #[])
  fields := #[]
  methods := #[]
  instanceTypes := #[]
  staticTypes := #[]
  resolved := Array.replicate 7 none
  statics := none }

def pool5 : Array CpInfo := pool [(2, .class_ 4), (1, u "java/lang/Enum"), (0, u "name"), (0, u "Ljava/lang/String;"), (2, u "ordinal"), (0, u "I"), (1, .class_ 14), (1, u "java/lang/Object"), (4, u "hash"), (86, .class_ 108), (1, u "java/lang/Enum$EnumDesc"), (2, .class_ 112), (0, u "java/lang/constant/Constable"), (0, .class_ 114), (0, u "java/lang/Comparable"), (0, .class_ 116), (0, u "java/io/Serializable")] 87

/-- java/lang/Enum -/
def k5 : Class := { plain "java/lang/Enum" (some 0) with
  accessFlags := 1057
  interfaces := #[2, 3, 4]
  cf := some (fileOf pool5 2 #[.nestMembers #[106]] #[] 1057 12 #[111, 113, 115] #[{ accessFlags := 18, nameIndex := 5, descriptorIndex := 6, attributes := #[] }, { accessFlags := 18, nameIndex := 9, descriptorIndex := 10, attributes := #[] }, { accessFlags := 2, nameIndex := 19, descriptorIndex := 10, attributes := #[] }])
  fields := #[{ name := "name", type := (.object "java/lang/String"), accessFlags := 18, slot := 0, constantValue := 0 }, { name := "ordinal", type := .int, accessFlags := 18, slot := 1, constantValue := 0 }, { name := "hash", type := .int, accessFlags := 2, slot := 2, constantValue := 0 }]
  methods := #[]
  instanceTypes := #[(.object "java/lang/String"), .int, .int]
  staticTypes := #[]
  resolved := Array.replicate 204 none
  statics := none }

def pool6 : Array CpInfo := pool [(1, .class_ 2), (0, u "com/example/bulwark/bulwark/engine/Side"), (0, .fieldref 1 4), (0, .nameAndType 5 6), (0, u "BUY"), (0, u "Lcom/example/bulwark/bulwark/engine/Side;"), (2, u "SELL"), (2, u "$VALUES"), (0, u "[Lcom/example/bulwark/bulwark/engine/Side;"), (6, .class_ 22), (1, u "java/lang/Enum"), (37, u "(JJ)Z"), (2, u "ahead")] 6

def k6c0 : Code := { maxStack := 4, maxLocals := 5, code := prog_33_method_7_code, exceptionTable := #[], attributes := #[] }
def k6m0 : Method := { name := "ahead", desc := "(JJ)Z", sig := { parameters := [.long, .long], returnType := some .boolean }, accessFlags := 0, code := some k6c0 }
/-- com/example/bulwark/bulwark/engine/Side -/
def k6 : Class := { plain "com/example/bulwark/bulwark/engine/Side" (some 5) with
  accessFlags := 16433
  interfaces := #[]
  cf := some (fileOf pool6 1 #[] #[{ accessFlags := 0, nameIndex := 63, descriptorIndex := 60, attributes := #[] }] 16433 20 #[] #[{ accessFlags := 16409, nameIndex := 5, descriptorIndex := 6, attributes := #[] }, { accessFlags := 16409, nameIndex := 9, descriptorIndex := 6, attributes := #[] }, { accessFlags := 4122, nameIndex := 12, descriptorIndex := 13, attributes := #[] }])
  fields := #[{ name := "BUY", type := (.object "com/example/bulwark/bulwark/engine/Side"), accessFlags := 16409, slot := 0, constantValue := 0 }, { name := "SELL", type := (.object "com/example/bulwark/bulwark/engine/Side"), accessFlags := 16409, slot := 1, constantValue := 0 }, { name := "$VALUES", type := (.array (.object "com/example/bulwark/bulwark/engine/Side")), accessFlags := 4122, slot := 2, constantValue := 0 }]
  methods := #[k6m0]
  instanceTypes := #[(.object "java/lang/String"), .int, .int]
  staticTypes := #[(.object "com/example/bulwark/bulwark/engine/Side"), (.object "com/example/bulwark/bulwark/engine/Side"), (.array (.object "com/example/bulwark/bulwark/engine/Side"))]
  resolved := Array.replicate 70 none
  statics := some 0 }

def pool7 : Array CpInfo := pool [(1, u "java/lang/Cloneable"), (0, .class_ 1), (0, u "java/lang/Object"), (0, .class_ 3)] 3

/-- java/lang/Cloneable -/
def k7 : Class := { plain "java/lang/Cloneable" (some 0) with
  accessFlags := 1537
  interfaces := #[]
  cf := some (fileOf pool7 2 #[] #[] 1537 4 #[] #[])
  fields := #[]
  methods := #[]
  instanceTypes := #[]
  staticTypes := #[]
  resolved := Array.replicate 8 none
  statics := none }

/-- the primitive byte -/
def k8 : Class := { plain "byte" none with kind := .primitive 'B', accessFlags := 0x411 }
/-- [B -/
def k9 : Class := { plain "[B" (some 0) with kind := .array 8 .byte, interfaces := #[7, 4], accessFlags := 1041 }

/-- the primitive int -/
def k10 : Class := { plain "int" none with kind := .primitive 'I', accessFlags := 0x411 }
/-- [I -/
def k11 : Class := { plain "[I" (some 0) with kind := .array 10 .int, interfaces := #[7, 4], accessFlags := 1041 }

def heap : Heap := #[{ cls := 6, slots := #[.ref 1, .ref 2, .null], vm := .statics 6 },
  { cls := 6, slots := #[.null, .int 0, .int 0], vm := .none },
  { cls := 6, slots := #[.null, .int 1, .int 0], vm := .none }]
def classes : Array Class := #[k0, k1, k2, k3, k4, k5, k6, k7, k8, k9, k10, k11]
def interned : List (Array UInt16 × Addr) := []
def slotsUsed : Nat := 9
def theMethod : MethodId := ⟨1, 1⟩
def args0 : Array Value := #[.int 5, .long 7, .long 9]
def aboutOver (below : List Frame) : State where
  vm := { classes := classes, interned := interned.toArray }
  heap := heap
  slotsUsed := slotsUsed
  threads := #[{ frames := .invoking theMethod args0 :: below }]
def below0 : List Frame := [.native { method := ⟨0, 0⟩, args := #[] }]
def about1 : State := aboutOver below0
def p0 : Program := .bare "" "" ""
def e0 : Env := launch0.env 0 0 0
theorem w_frames : about1.frames = Frame.invoking theMethod args0 :: below0 := rfl
set_option maxRecDepth 65536 in
theorem w_args : argsFit about1.vm theMethod args0 = true := by decide +kernel
set_option maxRecDepth 65536 in
theorem w_heap : heapFits about1 = true := by decide +kernel
set_option maxRecDepth 65536 in
theorem w_runnable : about1.curStatus? = some .runnable := by decide +kernel
set_option maxRecDepth 65536 in
theorem w_alone : about1.alone = true := by decide +kernel
set_option maxRecDepth 65536 in
theorem w_named : about1.methodNamed? x = some theMethod := by decide +kernel
set_option maxRecDepth 65536 in
theorem w_hears : about1.hears theMethod below0 = true := by decide +kernel
set_option maxRecDepth 65536 in
theorem w_ripe : about1.ripe theMethod args0 below0 = true := by decide +kernel
theorem w_running : about1.status = .running := rfl
set_option maxRecDepth 65536 in
theorem w_room : about1.hasRoom e0.platform room_1 = true :=
  launch0.hasRoom_least _ room_1 (by decide +kernel) (by decide +kernel) (by decide +kernel) (by decide +kernel) (by decide +kernel) (by decide +kernel)
theorem allAtoms_all (ts : List Jvm.Cond) (a : Array Jvm.Value) (st : Jvm.State) : (allAtoms ts).before a st = ts.all (fun c => c.before a st) := by
  induction ts with
  | nil => rfl
  | cons c t ih =>
    show (Jvm.Cond.and c (allAtoms t)).before a st = _
    rw [Jvm.Cond.before_and, ih, List.all_cons]
def words1 : List Jvm.Cond := Jvm.Cond.code x code maxLocals ret :: tables_1
/-- a 'code' word, met by the world's own term for the bytes: nothing is compared byte by byte -/
theorem code_word {y : MethodName} {bytes : ByteArray} {mx : Nat} {rt : Option FieldType} {a : Array Value} {s : State} {m : MethodId} {meth : Method} {c : Code} (h1 : s.methodNamed? y = some m) (h2 : s.vm.method? m = some meth) (h3 : meth.code = some c) (h4 : c.code = bytes)
    (h5 : (c.maxLocals == mx && c.exceptionTable.isEmpty && decide (c.maxStack ≤ mostOperands) && decide (meth.sig.returnType = rt) && !meth.locks && decide (parseMethodDescriptor y.desc = some meth.sig)) = true) : (Jvm.Cond.code y bytes mx rt).before a s = true := by
  simp only [Bool.and_eq_true, beq_iff_eq, Bool.not_eq_true', decide_eq_true_eq] at h5
  obtain ⟨⟨⟨⟨⟨g1, g2⟩, g3⟩, g4⟩, g5⟩, g6⟩ := h5
  simp [Cond.before, Cond.holds, Cond.value, h1, h2, h3, h4, g1, g2, g3, g4, g5, g6]
def isCode : Jvm.Cond → Bool
  | .code _ _ _ _ => true
  | _ => false
theorem all_split {L : List Jvm.Cond} {P : Jvm.Cond → Bool} (h1 : L.all (fun c => isCode c || P c) = true) (h2 : ∀ c ∈ L.filter isCode, P c = true) : L.all P = true := by
  refine List.all_eq_true.mpr fun c hc => ?_
  have h := List.all_eq_true.mp h1 c hc
  rcases Bool.eq_false_or_eq_true (isCode c) with hi | hi
  · exact h2 c (List.mem_filter.mpr ⟨hc, hi⟩)
  · simpa [hi] using h
set_option maxRecDepth 65536 in
theorem w_c0 : (Jvm.Cond.code x code maxLocals ret).before args0 about1 = true := code_word (m := ⟨1, 1⟩) (meth := k1m1) (c := k1c1) (by decide +kernel) rfl rfl rfl (by decide +kernel)
set_option maxRecDepth 65536 in
theorem w_c1 : (Jvm.Cond.code ({ cls := "com/example/bulwark/bulwark/engine/Side", name := "ahead", desc := "(JJ)Z" } : Jvm.MethodName) prog_33_method_7_code (5 : Nat) (Option.some Jvm.ClassFile.FieldType.boolean)).before args0 about1 = true := code_word (m := ⟨6, 0⟩) (meth := k6m0) (c := k6c0) (by decide +kernel) rfl rfl rfl (by decide +kernel)
def codes1 : List Jvm.Cond := [Jvm.Cond.code x code maxLocals ret, Jvm.Cond.code ({ cls := "com/example/bulwark/bulwark/engine/Side", name := "ahead", desc := "(JJ)Z" } : Jvm.MethodName) prog_33_method_7_code (5 : Nat) (Option.some Jvm.ClassFile.FieldType.boolean)]
set_option maxRecDepth 65536 in
theorem codes_eq : words1.filter isCode = codes1 := rfl
theorem w_codes : ∀ c ∈ words1.filter isCode, c.before args0 about1 = true := by
  rw [codes_eq]
  intro c hc
  simp only [codes1, List.mem_cons, List.not_mem_nil, or_false] at hc
  rcases hc with rfl | rfl
  · exact w_c0
  · exact w_c1
set_option maxRecDepth 65536 in
theorem w_t1 : words1.all (fun c => isCode c || c.before args0 about1) = true := by decide +kernel
theorem w_tables : (allAtoms (Jvm.Cond.code x code maxLocals ret :: tables_1)).before args0 about1 = true := by
  rw [allAtoms_all]
  show words1.all (fun c => c.before args0 about1) = true
  refine all_split ?_ w_codes
  rw [w_t1]
set_option maxRecDepth 65536 in
theorem w_case : (Jvm.Cond.and given_1 narrow_1).before args0 about1 = true := by decide +kernel
theorem w_applies : (headSpec (Jvm.Cond.code x code maxLocals ret :: tables_1) room_1).applies x e0.platform about1 = true :=
  (Spec.applies_iff w_frames).mpr ⟨w_running, w_runnable, w_alone, w_named, w_hears, w_ripe, w_room, w_tables⟩
theorem atStart : AtStart classFile x code maxLocals ret World_1 tables_1 room_1 Calls_1 rest_1 Pre_1 launch0 p0 e0 about1 theMethod args0 below0 :=
  ⟨lists_1, trivial, launch0.admits_env _ _ _, launch0.least_env, fairChoices_fair.cas, fairChoices_fair.clock, w_frames, w_args, w_heap, w_applies, trivial, trivial, w_case⟩
end start1
theorem witness_1 : WitnessClaimed_1 := ⟨start1.p0, start1.e0, start1.about1, start1.theMethod, start1.args0, start1.below0, start1.atStart⟩
end Jvm.Pilot.@@N@@
