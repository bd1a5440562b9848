import JvmDerived
import JvmDerived.Pilot.@@N@@Statement
import JvmDerived.Pilot.@@N@@Code
set_option linter.unusedVariables false
set_option linter.unusedSimpArgs false

namespace Jvm.OwnKit
open Sem ClassFile Op Lib Jvm.Stand Jvm.Free Jvm.LawKit Jvm.RoadKit
section Kit
variable {p : Program} {l : Launch} {e : Env} {R : Room} {s : State} {m : MethodId} {args : Array Value} {below : List Frame} {meth : Method} {c : Code} {T : State} {locs : List Loc} {cells slots : Nat} {Z : State} {a0 : Array Value} {h : Heap} {own nm : String} {bytes : ByteArray} {maxL : Nat} {ret : Option FieldType} {P : Outcome → State → Prop} {pc pc' : Nat} {Ls Ls' : Array Slot} {rest : List Value}
/-- from here the run ends, and P holds of its end -/
def Go (p : Program) (e : Env) (below : List Frame) (P : Outcome → State → Prop) (T0 : State) : Prop := ∃ t o, Steps p.tables e below T0 t ∧ t.status = .running ∧ Ended t below o ∧ P o t
theorem Go.on {T1 T2 : State} (st : ∀ t, Steps p.tables e below T2 t → Steps p.tables e below T1 t) (k : Go p e below P T2) : Go p e below P T1 := by
  obtain ⟨t, o, h1, h2⟩ := k; exact ⟨t, o, st t h1, h2⟩
/-- what a walk knows of the method that it walks -/
def Ctx (p : Program) (s : State) (m : MethodId) (meth : Method) (c : Code) (Z : State) (own nm : String) (bytes : ByteArray) (maxL : Nat) (ret : Option FieldType) : Prop :=
  p.tables.exec = Jvm.exec ∧ c.code = bytes ∧ c.maxLocals = maxL ∧ s.vm.findClass own = some m.cls ∧ meth.name = nm ∧ meth.sig.returnType = ret ∧ meth.locks = false ∧ Z.Warmed39 s.vm
/-- what a body's end says -/
def Ends (s : State) (Q : Option Value → Heap → List Loc → Prop) (k n : Nat) (o : Outcome) (t : State) : Prop := ∃ v L, o = .returned v ∧ Q v t.heap L ∧ FrameEnd s o t L k n
/-- a contract: called with the arguments 'as' at the heap h0 it returns as Q says -/
abbrev OMeets (l : Launch) (Z : State) (y : MethodName) (bytes : ByteArray) (maxL : Nat) (ret : Option FieldType) (ws : List Jvm.Cond) (rm : Room) (as : Array Value) (h0 : Heap) (Q : Option Value → Heap → List Loc → Prop) : Prop :=
  MetFree l y (head1 (Jvm.Cond.code y bytes maxL ret :: ws) rm) (fun a U => a = as ∧ Z.Warmed39 U.vm ∧ U.heap = h0) (fun _ _ _ _ _ => True) (fun _ U o U' => ∃ v L, o = .returned v ∧ Q v U'.heap L ∧ FrameEnd U o U' L rm.cells rm.slots)
/-- it returns r, writes nothing and makes nothing -/
def PureQ (r : Option Value) (h0 : Heap) (v : Option Value) (h : Heap) (L : List Loc) : Prop := v = r ∧ L = [] ∧ h = h0
theorem OMeets.of {y : MethodName} {ws : List Jvm.Cond} {rm : Room} {as : Array Value} {h0 : Heap} {Q : Option Value → Heap → List Loc → Prop} (hpn : plainName y.cls = true) (ls : Array Slot) (hent : ∀ m, entryFrame m as maxL = mkF m 0 ls [])
    (body : ∀ p e s m below meth c s₁, Ctx p s m meth c Z y.cls y.name bytes maxL ret → Stand p l e rm s m as below meth c s₁ [] 0 0 → s₁.heap = h0 → Go p e below (Ends s Q rm.cells rm.slots) (s₁.setTop (mkF m 0 ls []))) : OMeets l Z y bytes maxL ret ws rm as h0 Q := by
  refine MetFree.of_bodySF (plainFor_of_name hpn) hisR ?_
  intro p e s m args below meth c s₁ Bd hml0 hP hK
  obtain ⟨rfl, hZ, hh⟩ := hP
  have e0 : s₁.heap = h0 := by rw [← hh, Bd.state]; rfl
  have X0 := Stand.of_body Bd
  have B : Ctx p s m meth c Z y.cls y.name bytes maxL ret := ⟨Bd.exec, Bd.bytes, hml0, findClass_of_methodNamed Bd.named, (name_of_methodNamed Bd.named Bd.method).1, Bd.returns, Bd.notSynchronized, hZ⟩
  obtain ⟨t, o, h1, h2, h3, h4⟩ := body p e s m below meth c s₁ B X0 e0
  exact ⟨t, o, castTop (hent m) h1, h2, h3, h4⟩
/-! the single steps -/

theorem s_iloadN (B : Ctx p s m meth c Z own nm bytes maxL ret) (X : Stand p l e R s m args below meth c T locs cells slots) {k0 : Fin 4} {v : Int32} (hd : decode bytes pc = .ok (.iload_n k0, 1)) (hl : Ls[k0.val]? = some (.val (.int v))) (hp : pc + 1 = pc') (k : Go p e below P (T.setTop (mkF m pc' Ls (.int v :: rest)))) : Go p e below P (T.setTop (mkF m pc Ls (rest))) := by
  subst hp; exact Go.on (fun t => XS.iloadN X.here B.1 rfl (hb B.2.1 hd) hl) k
theorem s_iload (B : Ctx p s m meth c Z own nm bytes maxL ret) (X : Stand p l e R s m args below meth c T locs cells slots) {k0 : Nat} {v : Int32} (hd : decode bytes pc = .ok (.iload k0, 2)) (hl : Ls[k0]? = some (.val (.int v))) (hp : pc + 2 = pc') (k : Go p e below P (T.setTop (mkF m pc' Ls (.int v :: rest)))) : Go p e below P (T.setTop (mkF m pc Ls (rest))) := by
  subst hp; exact Go.on (fun t => XS.iload X.here B.1 rfl (hb B.2.1 hd) hl) k
theorem s_istoreN (B : Ctx p s m meth c Z own nm bytes maxL ret) (X : Stand p l e R s m args below meth c T locs cells slots) {k0 : Fin 4} {v : Int32} (hd : decode bytes pc = .ok (.istore_n k0, 1)) (hl : storeLocals Ls k0.val (.int v) = some Ls') (hp : pc + 1 = pc') (k : Go p e below P (T.setTop (mkF m pc' Ls' (rest)))) : Go p e below P (T.setTop (mkF m pc Ls (.int v :: rest))) := by
  subst hp; exact Go.on (fun t => XS.istoreN X.here B.1 rfl (hb B.2.1 hd) rfl hl) k
theorem s_istore (B : Ctx p s m meth c Z own nm bytes maxL ret) (X : Stand p l e R s m args below meth c T locs cells slots) {k0 : Nat} {v : Int32} (hd : decode bytes pc = .ok (.istore k0, 2)) (hl : storeLocals Ls k0 (.int v) = some Ls') (hp : pc + 2 = pc') (k : Go p e below P (T.setTop (mkF m pc' Ls' (rest)))) : Go p e below P (T.setTop (mkF m pc Ls (.int v :: rest))) := by
  subst hp; exact Go.on (fun t => XS.istore X.here B.1 rfl (hb B.2.1 hd) rfl hl) k
theorem s_lloadN (B : Ctx p s m meth c Z own nm bytes maxL ret) (X : Stand p l e R s m args below meth c T locs cells slots) {k0 : Fin 4} {v : Int64} (hd : decode bytes pc = .ok (.lload_n k0, 1)) (hl : Ls[k0.val]? = some (.val (.long v))) (hp : pc + 1 = pc') (k : Go p e below P (T.setTop (mkF m pc' Ls (.long v :: rest)))) : Go p e below P (T.setTop (mkF m pc Ls (rest))) := by
  subst hp; exact Go.on (fun t => XS.lloadN X.here B.1 rfl (hb B.2.1 hd) hl) k
theorem s_lload (B : Ctx p s m meth c Z own nm bytes maxL ret) (X : Stand p l e R s m args below meth c T locs cells slots) {k0 : Nat} {v : Int64} (hd : decode bytes pc = .ok (.lload k0, 2)) (hl : Ls[k0]? = some (.val (.long v))) (hp : pc + 2 = pc') (k : Go p e below P (T.setTop (mkF m pc' Ls (.long v :: rest)))) : Go p e below P (T.setTop (mkF m pc Ls (rest))) := by
  subst hp; exact Go.on (fun t => XS.lload X.here B.1 rfl (hb B.2.1 hd) hl) k
theorem s_lstoreN (B : Ctx p s m meth c Z own nm bytes maxL ret) (X : Stand p l e R s m args below meth c T locs cells slots) {k0 : Fin 4} {v : Int64} (hd : decode bytes pc = .ok (.lstore_n k0, 1)) (hl : storeLocals Ls k0.val (.long v) = some Ls') (hp : pc + 1 = pc') (k : Go p e below P (T.setTop (mkF m pc' Ls' (rest)))) : Go p e below P (T.setTop (mkF m pc Ls (.long v :: rest))) := by
  subst hp; exact Go.on (fun t => XS.lstoreN X.here B.1 rfl (hb B.2.1 hd) rfl hl) k
theorem s_lstore (B : Ctx p s m meth c Z own nm bytes maxL ret) (X : Stand p l e R s m args below meth c T locs cells slots) {k0 : Nat} {v : Int64} (hd : decode bytes pc = .ok (.lstore k0, 2)) (hl : storeLocals Ls k0 (.long v) = some Ls') (hp : pc + 2 = pc') (k : Go p e below P (T.setTop (mkF m pc' Ls' (rest)))) : Go p e below P (T.setTop (mkF m pc Ls (.long v :: rest))) := by
  subst hp; exact Go.on (fun t => XS.lstore X.here B.1 rfl (hb B.2.1 hd) rfl hl) k
theorem s_aloadN (B : Ctx p s m meth c Z own nm bytes maxL ret) (X : Stand p l e R s m args below meth c T locs cells slots) {k0 : Fin 4} {v : Value} (hd : decode bytes pc = .ok (.aload_n k0, 1)) (hl : Ls[k0.val]? = some (.val v)) (hv : v.isRef = true) (hp : pc + 1 = pc') (k : Go p e below P (T.setTop (mkF m pc' Ls (v :: rest)))) : Go p e below P (T.setTop (mkF m pc Ls (rest))) := by
  subst hp; exact Go.on (fun t => XS.aloadN X.here B.1 rfl (hb B.2.1 hd) hl hv) k
theorem s_aload (B : Ctx p s m meth c Z own nm bytes maxL ret) (X : Stand p l e R s m args below meth c T locs cells slots) {k0 : Nat} {v : Value} (hd : decode bytes pc = .ok (.aload k0, 2)) (hl : Ls[k0]? = some (.val v)) (hv : v.isRef = true) (hp : pc + 2 = pc') (k : Go p e below P (T.setTop (mkF m pc' Ls (v :: rest)))) : Go p e below P (T.setTop (mkF m pc Ls (rest))) := by
  subst hp; exact Go.on (fun t => XS.aload X.here B.1 rfl (hb B.2.1 hd) hl hv) k
theorem s_astoreN (B : Ctx p s m meth c Z own nm bytes maxL ret) (X : Stand p l e R s m args below meth c T locs cells slots) {k0 : Fin 4} {v : Value} (hd : decode bytes pc = .ok (.astore_n k0, 1)) (hv : v.isRef = true) (hl : storeLocals Ls k0.val v = some Ls') (hp : pc + 1 = pc') (k : Go p e below P (T.setTop (mkF m pc' Ls' (rest)))) : Go p e below P (T.setTop (mkF m pc Ls (v :: rest))) := by
  subst hp; exact Go.on (fun t => XS.astoreN X.here B.1 rfl (hb B.2.1 hd) rfl hv hl) k
theorem s_astore (B : Ctx p s m meth c Z own nm bytes maxL ret) (X : Stand p l e R s m args below meth c T locs cells slots) {k0 : Nat} {v : Value} (hd : decode bytes pc = .ok (.astore k0, 2)) (hv : v.isRef = true) (hl : storeLocals Ls k0 v = some Ls') (hp : pc + 2 = pc') (k : Go p e below P (T.setTop (mkF m pc' Ls' (rest)))) : Go p e below P (T.setTop (mkF m pc Ls (v :: rest))) := by
  subst hp; exact Go.on (fun t => XS.astore X.here B.1 rfl (hb B.2.1 hd) rfl hv hl) k
theorem s_iconst (B : Ctx p s m meth c Z own nm bytes maxL ret) (X : Stand p l e R s m args below meth c T locs cells slots) {i : Int} {v : Int32} (hd : decode bytes pc = .ok (.iconst i, 1)) (hv : Int32.ofInt i = v) (hp : pc + 1 = pc') (k : Go p e below P (T.setTop (mkF m pc' Ls (.int v :: rest)))) : Go p e below P (T.setTop (mkF m pc Ls (rest))) := by
  subst hp; subst hv; exact Go.on (fun t => XS.iconst X.here B.1 rfl (hb B.2.1 hd)) k
theorem s_bipush (B : Ctx p s m meth c Z own nm bytes maxL ret) (X : Stand p l e R s m args below meth c T locs cells slots) {i : Int} {v : Int32} (hd : decode bytes pc = .ok (.bipush i, 2)) (hv : (Int8.ofInt i).toInt32 = v) (hp : pc + 2 = pc') (k : Go p e below P (T.setTop (mkF m pc' Ls (.int v :: rest)))) : Go p e below P (T.setTop (mkF m pc Ls (rest))) := by
  subst hp; subst hv; exact Go.on (fun t => XS.bipush X.here B.1 rfl (hb B.2.1 hd)) k
theorem s_sipush (B : Ctx p s m meth c Z own nm bytes maxL ret) (X : Stand p l e R s m args below meth c T locs cells slots) {i : Int} {v : Int32} (hd : decode bytes pc = .ok (.sipush i, 3)) (hv : (Int16.ofInt i).toInt32 = v) (hp : pc + 3 = pc') (k : Go p e below P (T.setTop (mkF m pc' Ls (.int v :: rest)))) : Go p e below P (T.setTop (mkF m pc Ls (rest))) := by
  subst hp; subst hv; exact Go.on (fun t => XS.sipush X.here B.1 rfl (hb B.2.1 hd)) k
theorem s_lconst (B : Ctx p s m meth c Z own nm bytes maxL ret) (X : Stand p l e R s m args below meth c T locs cells slots) {i : Fin 2} {v : Int64} (hd : decode bytes pc = .ok (.lconst i, 1)) (hv : Int64.ofNat i = v) (hp : pc + 1 = pc') (k : Go p e below P (T.setTop (mkF m pc' Ls (.long v :: rest)))) : Go p e below P (T.setTop (mkF m pc Ls (rest))) := by
  subst hp; subst hv; exact Go.on (fun t => XS.lconst X.here B.1 rfl (hb B.2.1 hd)) k
theorem s_aconst_null (B : Ctx p s m meth c Z own nm bytes maxL ret) (X : Stand p l e R s m args below meth c T locs cells slots)  (hd : decode bytes pc = .ok (.aconst_null, 1))  (hp : pc + 1 = pc') (k : Go p e below P (T.setTop (mkF m pc' Ls (.null :: rest)))) : Go p e below P (T.setTop (mkF m pc Ls (rest))) := by
  subst hp; exact Go.on (fun t => XS.aconstNull X.here B.1 rfl (hb B.2.1 hd)) k
theorem s_iadd (B : Ctx p s m meth c Z own nm bytes maxL ret) (X : Stand p l e R s m args below meth c T locs cells slots) {x : Int32} {y : Int32} {v : Int32} (hd : decode bytes pc = .ok (.iadd, 1)) (hv : x + y = v)  (hp : pc + 1 = pc') (k : Go p e below P (T.setTop (mkF m pc' Ls (.int v :: rest)))) : Go p e below P (T.setTop (mkF m pc Ls (.int y :: .int x :: rest))) := by
  subst hp; subst hv; exact Go.on (fun t => XS.iadd X.here B.1 rfl (hb B.2.1 hd) rfl ) k
theorem s_isub (B : Ctx p s m meth c Z own nm bytes maxL ret) (X : Stand p l e R s m args below meth c T locs cells slots) {x : Int32} {y : Int32} {v : Int32} (hd : decode bytes pc = .ok (.isub, 1)) (hv : x - y = v)  (hp : pc + 1 = pc') (k : Go p e below P (T.setTop (mkF m pc' Ls (.int v :: rest)))) : Go p e below P (T.setTop (mkF m pc Ls (.int y :: .int x :: rest))) := by
  subst hp; subst hv; exact Go.on (fun t => XS.isub X.here B.1 rfl (hb B.2.1 hd) rfl ) k
theorem s_imul (B : Ctx p s m meth c Z own nm bytes maxL ret) (X : Stand p l e R s m args below meth c T locs cells slots) {x : Int32} {y : Int32} {v : Int32} (hd : decode bytes pc = .ok (.imul, 1)) (hv : x * y = v)  (hp : pc + 1 = pc') (k : Go p e below P (T.setTop (mkF m pc' Ls (.int v :: rest)))) : Go p e below P (T.setTop (mkF m pc Ls (.int y :: .int x :: rest))) := by
  subst hp; subst hv; exact Go.on (fun t => XS.imul X.here B.1 rfl (hb B.2.1 hd) rfl ) k
theorem s_iand (B : Ctx p s m meth c Z own nm bytes maxL ret) (X : Stand p l e R s m args below meth c T locs cells slots) {x : Int32} {y : Int32} {v : Int32} (hd : decode bytes pc = .ok (.iand, 1)) (hv : x &&& y = v)  (hp : pc + 1 = pc') (k : Go p e below P (T.setTop (mkF m pc' Ls (.int v :: rest)))) : Go p e below P (T.setTop (mkF m pc Ls (.int y :: .int x :: rest))) := by
  subst hp; subst hv; exact Go.on (fun t => XS.iand X.here B.1 rfl (hb B.2.1 hd) rfl ) k
theorem s_ior (B : Ctx p s m meth c Z own nm bytes maxL ret) (X : Stand p l e R s m args below meth c T locs cells slots) {x : Int32} {y : Int32} {v : Int32} (hd : decode bytes pc = .ok (.ior, 1)) (hv : x ||| y = v)  (hp : pc + 1 = pc') (k : Go p e below P (T.setTop (mkF m pc' Ls (.int v :: rest)))) : Go p e below P (T.setTop (mkF m pc Ls (.int y :: .int x :: rest))) := by
  subst hp; subst hv; exact Go.on (fun t => XS.ior X.here B.1 rfl (hb B.2.1 hd) rfl ) k
theorem s_ixor (B : Ctx p s m meth c Z own nm bytes maxL ret) (X : Stand p l e R s m args below meth c T locs cells slots) {x : Int32} {y : Int32} {v : Int32} (hd : decode bytes pc = .ok (.ixor, 1)) (hv : x ^^^ y = v)  (hp : pc + 1 = pc') (k : Go p e below P (T.setTop (mkF m pc' Ls (.int v :: rest)))) : Go p e below P (T.setTop (mkF m pc Ls (.int y :: .int x :: rest))) := by
  subst hp; subst hv; exact Go.on (fun t => XS.ixor X.here B.1 rfl (hb B.2.1 hd) rfl ) k
theorem s_ladd (B : Ctx p s m meth c Z own nm bytes maxL ret) (X : Stand p l e R s m args below meth c T locs cells slots) {x : Int64} {y : Int64} {v : Int64} (hd : decode bytes pc = .ok (.ladd, 1)) (hv : x + y = v)  (hp : pc + 1 = pc') (k : Go p e below P (T.setTop (mkF m pc' Ls (.long v :: rest)))) : Go p e below P (T.setTop (mkF m pc Ls (.long y :: .long x :: rest))) := by
  subst hp; subst hv; exact Go.on (fun t => XS.ladd X.here B.1 rfl (hb B.2.1 hd) rfl ) k
theorem s_lsub (B : Ctx p s m meth c Z own nm bytes maxL ret) (X : Stand p l e R s m args below meth c T locs cells slots) {x : Int64} {y : Int64} {v : Int64} (hd : decode bytes pc = .ok (.lsub, 1)) (hv : x - y = v)  (hp : pc + 1 = pc') (k : Go p e below P (T.setTop (mkF m pc' Ls (.long v :: rest)))) : Go p e below P (T.setTop (mkF m pc Ls (.long y :: .long x :: rest))) := by
  subst hp; subst hv; exact Go.on (fun t => XS.lsub X.here B.1 rfl (hb B.2.1 hd) rfl ) k
theorem s_lmul (B : Ctx p s m meth c Z own nm bytes maxL ret) (X : Stand p l e R s m args below meth c T locs cells slots) {x : Int64} {y : Int64} {v : Int64} (hd : decode bytes pc = .ok (.lmul, 1)) (hv : x * y = v)  (hp : pc + 1 = pc') (k : Go p e below P (T.setTop (mkF m pc' Ls (.long v :: rest)))) : Go p e below P (T.setTop (mkF m pc Ls (.long y :: .long x :: rest))) := by
  subst hp; subst hv; exact Go.on (fun t => XS.lmul X.here B.1 rfl (hb B.2.1 hd) rfl ) k
theorem s_land (B : Ctx p s m meth c Z own nm bytes maxL ret) (X : Stand p l e R s m args below meth c T locs cells slots) {x : Int64} {y : Int64} {v : Int64} (hd : decode bytes pc = .ok (.land, 1)) (hv : x &&& y = v)  (hp : pc + 1 = pc') (k : Go p e below P (T.setTop (mkF m pc' Ls (.long v :: rest)))) : Go p e below P (T.setTop (mkF m pc Ls (.long y :: .long x :: rest))) := by
  subst hp; subst hv; exact Go.on (fun t => XS.land X.here B.1 rfl (hb B.2.1 hd) rfl ) k
theorem s_lor (B : Ctx p s m meth c Z own nm bytes maxL ret) (X : Stand p l e R s m args below meth c T locs cells slots) {x : Int64} {y : Int64} {v : Int64} (hd : decode bytes pc = .ok (.lor, 1)) (hv : x ||| y = v)  (hp : pc + 1 = pc') (k : Go p e below P (T.setTop (mkF m pc' Ls (.long v :: rest)))) : Go p e below P (T.setTop (mkF m pc Ls (.long y :: .long x :: rest))) := by
  subst hp; subst hv; exact Go.on (fun t => XS.lor X.here B.1 rfl (hb B.2.1 hd) rfl ) k
theorem s_lxor (B : Ctx p s m meth c Z own nm bytes maxL ret) (X : Stand p l e R s m args below meth c T locs cells slots) {x : Int64} {y : Int64} {v : Int64} (hd : decode bytes pc = .ok (.lxor, 1)) (hv : x ^^^ y = v)  (hp : pc + 1 = pc') (k : Go p e below P (T.setTop (mkF m pc' Ls (.long v :: rest)))) : Go p e below P (T.setTop (mkF m pc Ls (.long y :: .long x :: rest))) := by
  subst hp; subst hv; exact Go.on (fun t => XS.lxor X.here B.1 rfl (hb B.2.1 hd) rfl ) k
theorem s_idiv (B : Ctx p s m meth c Z own nm bytes maxL ret) (X : Stand p l e R s m args below meth c T locs cells slots) {x : Int32} {y : Int32} {v : Int32} (hd : decode bytes pc = .ok (.idiv, 1)) (hv : x / y = v) (hy : y ≠ 0) (hp : pc + 1 = pc') (k : Go p e below P (T.setTop (mkF m pc' Ls (.int v :: rest)))) : Go p e below P (T.setTop (mkF m pc Ls (.int y :: .int x :: rest))) := by
  subst hp; subst hv; exact Go.on (fun t => XS.idiv X.here B.1 rfl (hb B.2.1 hd) rfl hy) k
theorem s_ldiv (B : Ctx p s m meth c Z own nm bytes maxL ret) (X : Stand p l e R s m args below meth c T locs cells slots) {x : Int64} {y : Int64} {v : Int64} (hd : decode bytes pc = .ok (.ldiv, 1)) (hv : x / y = v) (hy : y ≠ 0) (hp : pc + 1 = pc') (k : Go p e below P (T.setTop (mkF m pc' Ls (.long v :: rest)))) : Go p e below P (T.setTop (mkF m pc Ls (.long y :: .long x :: rest))) := by
  subst hp; subst hv; exact Go.on (fun t => XS.ldiv X.here B.1 rfl (hb B.2.1 hd) rfl hy) k
theorem s_irem (B : Ctx p s m meth c Z own nm bytes maxL ret) (X : Stand p l e R s m args below meth c T locs cells slots) {x y v : Int32} (hd : decode bytes pc = .ok (.irem, 1)) (hv : x % y = v) (hy : y ≠ 0) (hp : pc + 1 = pc') (k : Go p e below P (T.setTop (mkF m pc' Ls (.int v :: rest)))) : Go p e below P (T.setTop (mkF m pc Ls (.int y :: .int x :: rest))) := by
  subst hp; subst hv; exact Go.on (fun t => iremM X B.1 rfl (hb B.2.1 hd) rfl hy) k
theorem s_ishl (B : Ctx p s m meth c Z own nm bytes maxL ret) (X : Stand p l e R s m args below meth c T locs cells slots) {x : Int32} {y : Int32} {v : Int32} (hd : decode bytes pc = .ok (.ishl, 1)) (hv : x <<< (y &&& 31) = v)  (hp : pc + 1 = pc') (k : Go p e below P (T.setTop (mkF m pc' Ls (.int v :: rest)))) : Go p e below P (T.setTop (mkF m pc Ls (.int y :: .int x :: rest))) := by
  subst hp; subst hv; exact Go.on (fun t => XS.ishl X.here B.1 rfl (hb B.2.1 hd) rfl ) k
theorem s_ishr (B : Ctx p s m meth c Z own nm bytes maxL ret) (X : Stand p l e R s m args below meth c T locs cells slots) {x : Int32} {y : Int32} {v : Int32} (hd : decode bytes pc = .ok (.ishr, 1)) (hv : x >>> (y &&& 31) = v)  (hp : pc + 1 = pc') (k : Go p e below P (T.setTop (mkF m pc' Ls (.int v :: rest)))) : Go p e below P (T.setTop (mkF m pc Ls (.int y :: .int x :: rest))) := by
  subst hp; subst hv; exact Go.on (fun t => XS.ishr X.here B.1 rfl (hb B.2.1 hd) rfl ) k
theorem s_iushr (B : Ctx p s m meth c Z own nm bytes maxL ret) (X : Stand p l e R s m args below meth c T locs cells slots) {x : Int32} {y : Int32} {v : Int32} (hd : decode bytes pc = .ok (.iushr, 1)) (hv : (x.toUInt32 >>> (y &&& 31).toUInt32).toInt32 = v)  (hp : pc + 1 = pc') (k : Go p e below P (T.setTop (mkF m pc' Ls (.int v :: rest)))) : Go p e below P (T.setTop (mkF m pc Ls (.int y :: .int x :: rest))) := by
  subst hp; subst hv; exact Go.on (fun t => XS.iushr X.here B.1 rfl (hb B.2.1 hd) rfl ) k
theorem s_lshl (B : Ctx p s m meth c Z own nm bytes maxL ret) (X : Stand p l e R s m args below meth c T locs cells slots) {x : Int64} {y : Int32} {v : Int64} (hd : decode bytes pc = .ok (.lshl, 1)) (hv : x <<< (y &&& 0x3f).toInt64 = v)  (hp : pc + 1 = pc') (k : Go p e below P (T.setTop (mkF m pc' Ls (.long v :: rest)))) : Go p e below P (T.setTop (mkF m pc Ls (.int y :: .long x :: rest))) := by
  subst hp; subst hv; exact Go.on (fun t => XS.lshl X.here B.1 rfl (hb B.2.1 hd) rfl ) k
theorem s_lshr (B : Ctx p s m meth c Z own nm bytes maxL ret) (X : Stand p l e R s m args below meth c T locs cells slots) {x : Int64} {y : Int32} {v : Int64} (hd : decode bytes pc = .ok (.lshr, 1)) (hv : x >>> (y &&& 0x3f).toInt64 = v)  (hp : pc + 1 = pc') (k : Go p e below P (T.setTop (mkF m pc' Ls (.long v :: rest)))) : Go p e below P (T.setTop (mkF m pc Ls (.int y :: .long x :: rest))) := by
  subst hp; subst hv; exact Go.on (fun t => XS.lshr X.here B.1 rfl (hb B.2.1 hd) rfl ) k
theorem s_lushr (B : Ctx p s m meth c Z own nm bytes maxL ret) (X : Stand p l e R s m args below meth c T locs cells slots) {x : Int64} {y : Int32} {v : Int64} (hd : decode bytes pc = .ok (.lushr, 1)) (hv : (x.toUInt64 >>> (y &&& 0x3f).toInt64.toUInt64).toInt64 = v)  (hp : pc + 1 = pc') (k : Go p e below P (T.setTop (mkF m pc' Ls (.long v :: rest)))) : Go p e below P (T.setTop (mkF m pc Ls (.int y :: .long x :: rest))) := by
  subst hp; subst hv; exact Go.on (fun t => XS.lushr X.here B.1 rfl (hb B.2.1 hd) rfl ) k
theorem s_i2b (B : Ctx p s m meth c Z own nm bytes maxL ret) (X : Stand p l e R s m args below meth c T locs cells slots) {x : Int32} {v : Int32} (hd : decode bytes pc = .ok (.i2b, 1)) (hv : x.toInt8.toInt32 = v) (hp : pc + 1 = pc') (k : Go p e below P (T.setTop (mkF m pc' Ls (.int v :: rest)))) : Go p e below P (T.setTop (mkF m pc Ls (.int x :: rest))) := by
  subst hp; subst hv; exact Go.on (fun t => XS.i2b X.here B.1 rfl (hb B.2.1 hd) rfl) k
theorem s_i2c (B : Ctx p s m meth c Z own nm bytes maxL ret) (X : Stand p l e R s m args below meth c T locs cells slots) {x : Int32} {v : Int32} (hd : decode bytes pc = .ok (.i2c, 1)) (hv : x.toUInt32.toUInt16.toUInt32.toInt32 = v) (hp : pc + 1 = pc') (k : Go p e below P (T.setTop (mkF m pc' Ls (.int v :: rest)))) : Go p e below P (T.setTop (mkF m pc Ls (.int x :: rest))) := by
  subst hp; subst hv; exact Go.on (fun t => XS.i2c X.here B.1 rfl (hb B.2.1 hd) rfl) k
theorem s_i2s (B : Ctx p s m meth c Z own nm bytes maxL ret) (X : Stand p l e R s m args below meth c T locs cells slots) {x : Int32} {v : Int32} (hd : decode bytes pc = .ok (.i2s, 1)) (hv : x.toInt16.toInt32 = v) (hp : pc + 1 = pc') (k : Go p e below P (T.setTop (mkF m pc' Ls (.int v :: rest)))) : Go p e below P (T.setTop (mkF m pc Ls (.int x :: rest))) := by
  subst hp; subst hv; exact Go.on (fun t => XS.i2s X.here B.1 rfl (hb B.2.1 hd) rfl) k
theorem s_i2l (B : Ctx p s m meth c Z own nm bytes maxL ret) (X : Stand p l e R s m args below meth c T locs cells slots) {x : Int32} {v : Int64} (hd : decode bytes pc = .ok (.i2l, 1)) (hv : x.toInt64 = v) (hp : pc + 1 = pc') (k : Go p e below P (T.setTop (mkF m pc' Ls (.long v :: rest)))) : Go p e below P (T.setTop (mkF m pc Ls (.int x :: rest))) := by
  subst hp; subst hv; exact Go.on (fun t => XS.i2l X.here B.1 rfl (hb B.2.1 hd) rfl) k
theorem s_l2i (B : Ctx p s m meth c Z own nm bytes maxL ret) (X : Stand p l e R s m args below meth c T locs cells slots) {x : Int64} {v : Int32} (hd : decode bytes pc = .ok (.l2i, 1)) (hv : x.toInt32 = v) (hp : pc + 1 = pc') (k : Go p e below P (T.setTop (mkF m pc' Ls (.int v :: rest)))) : Go p e below P (T.setTop (mkF m pc Ls (.long x :: rest))) := by
  subst hp; subst hv; exact Go.on (fun t => XS.l2i X.here B.1 rfl (hb B.2.1 hd) rfl) k
theorem s_ineg (B : Ctx p s m meth c Z own nm bytes maxL ret) (X : Stand p l e R s m args below meth c T locs cells slots) {x : Int32} {v : Int32} (hd : decode bytes pc = .ok (.ineg, 1)) (hv : -x = v) (hp : pc + 1 = pc') (k : Go p e below P (T.setTop (mkF m pc' Ls (.int v :: rest)))) : Go p e below P (T.setTop (mkF m pc Ls (.int x :: rest))) := by
  subst hp; subst hv; exact Go.on (fun t => XS.ineg X.here B.1 rfl (hb B.2.1 hd) rfl) k
theorem s_lneg (B : Ctx p s m meth c Z own nm bytes maxL ret) (X : Stand p l e R s m args below meth c T locs cells slots) {x : Int64} {v : Int64} (hd : decode bytes pc = .ok (.lneg, 1)) (hv : -x = v) (hp : pc + 1 = pc') (k : Go p e below P (T.setTop (mkF m pc' Ls (.long v :: rest)))) : Go p e below P (T.setTop (mkF m pc Ls (.long x :: rest))) := by
  subst hp; subst hv; exact Go.on (fun t => XS.lneg X.here B.1 rfl (hb B.2.1 hd) rfl) k
theorem s_lcmp (B : Ctx p s m meth c Z own nm bytes maxL ret) (X : Stand p l e R s m args below meth c T locs cells slots) {x y : Int64} (hd : decode bytes pc = .ok (.lcmp, 1))  (hp : pc + 1 = pc') (k : Go p e below P (T.setTop (mkF m pc' Ls (.int (lcmpW x y) :: rest)))) : Go p e below P (T.setTop (mkF m pc Ls (.long y :: .long x :: rest))) := by
  subst hp; exact Go.on (fun t => XS.lcmp X.here B.1 rfl (hb B.2.1 hd) rfl) k
theorem s_dup (B : Ctx p s m meth c Z own nm bytes maxL ret) (X : Stand p l e R s m args below meth c T locs cells slots) {v : Value} (hd : decode bytes pc = .ok (.dup, 1)) (hc : v.category = 1) (hp : pc + 1 = pc') (k : Go p e below P (T.setTop (mkF m pc' Ls (v :: v :: rest)))) : Go p e below P (T.setTop (mkF m pc Ls (v :: rest))) := by
  subst hp; exact Go.on (fun t => XS.dup X.here B.1 rfl (hb B.2.1 hd) rfl hc) k
theorem s_pop (B : Ctx p s m meth c Z own nm bytes maxL ret) (X : Stand p l e R s m args below meth c T locs cells slots) {v : Value} (hd : decode bytes pc = .ok (.pop, 1)) (hc : v.category = 1) (hp : pc + 1 = pc') (k : Go p e below P (T.setTop (mkF m pc' Ls (rest)))) : Go p e below P (T.setTop (mkF m pc Ls (v :: rest))) := by
  subst hp; exact Go.on (fun t => XS.pop X.here B.1 rfl (hb B.2.1 hd) rfl hc) k
theorem s_swap (B : Ctx p s m meth c Z own nm bytes maxL ret) (X : Stand p l e R s m args below meth c T locs cells slots) {v w : Value} (hd : decode bytes pc = .ok (.swap, 1)) (hc : v.category = 1) (hc2 : w.category = 1) (hp : pc + 1 = pc') (k : Go p e below P (T.setTop (mkF m pc' Ls (w :: v :: rest)))) : Go p e below P (T.setTop (mkF m pc Ls (v :: w :: rest))) := by
  subst hp; exact Go.on (fun t => XS.swap X.here B.1 rfl (hb B.2.1 hd) rfl hc hc2) k
theorem s_dup_x1 (B : Ctx p s m meth c Z own nm bytes maxL ret) (X : Stand p l e R s m args below meth c T locs cells slots) {v w : Value} (hd : decode bytes pc = .ok (.dup_x1, 1)) (hc : v.category = 1) (hc2 : w.category = 1) (hp : pc + 1 = pc') (k : Go p e below P (T.setTop (mkF m pc' Ls (v :: w :: v :: rest)))) : Go p e below P (T.setTop (mkF m pc Ls (v :: w :: rest))) := by
  subst hp; exact Go.on (fun t => XS.dupX1 X.here B.1 rfl (hb B.2.1 hd) rfl hc hc2) k
theorem s_dup2 (B : Ctx p s m meth c Z own nm bytes maxL ret) (X : Stand p l e R s m args below meth c T locs cells slots) {v w : Value} (hd : decode bytes pc = .ok (.dup2, 1)) (hc : v.category = 1) (hc2 : w.category = 1) (hp : pc + 1 = pc') (k : Go p e below P (T.setTop (mkF m pc' Ls (v :: w :: v :: w :: rest)))) : Go p e below P (T.setTop (mkF m pc Ls (v :: w :: rest))) := by
  subst hp; exact Go.on (fun t => XT.dup2 X.here B.1 rfl (hb B.2.1 hd) rfl hc hc2) k
theorem s_iinc (B : Ctx p s m meth c Z own nm bytes maxL ret) (X : Stand p l e R s m args below meth c T locs cells slots) {k0 : Nat} {i : Int} {x v : Int32} (hd : decode bytes pc = .ok (.iinc k0 i, 3)) (hl : Ls[k0]? = some (.val (.int x))) (hv : x + Int32.ofInt i = v) (hl' : storeLocals Ls k0 (.int v) = some Ls') (hp : pc + 3 = pc') (k : Go p e below P (T.setTop (mkF m pc' Ls' (rest)))) : Go p e below P (T.setTop (mkF m pc Ls (rest))) := by
  subst hp; subst hv; exact Go.on (fun t => XS.iinc X.here B.1 rfl (hb B.2.1 hd) hl hl') k
theorem s_goto (B : Ctx p s m meth c Z own nm bytes maxL ret) (X : Stand p l e R s m args below meth c T locs cells slots)  {o : Int} (hd : decode bytes pc = .ok (.goto o, 3))  (ho : 0 ≤ (pc : Int) + o) (hp : ((pc : Int) + o).toNat = pc') (k : Go p e below P (T.setTop (mkF m pc' Ls (rest)))) : Go p e below P (T.setTop (mkF m pc Ls (rest))) := Go.on (fun t => XS.goto X.here B.1 rfl rfl (hb B.2.1 hd) ho hp) k
theorem s_ifY (B : Ctx p s m meth c Z own nm bytes maxL ret) (X : Stand p l e R s m args below meth c T locs cells slots) {cd : ClassFile.Cond} {x : Int32} {o : Int} (hd : decode bytes pc = .ok (.ifCond cd o, 3)) (hc : ifCond.holds cd x = true) (ho : 0 ≤ (pc : Int) + o) (hp : ((pc : Int) + o).toNat = pc') (k : Go p e below P (T.setTop (mkF m pc' Ls (rest)))) : Go p e below P (T.setTop (mkF m pc Ls (.int x :: rest))) := Go.on (fun t => XS.ifYes X.here B.1 rfl rfl (hb B.2.1 hd) rfl hc ho hp) k
theorem s_ifN (B : Ctx p s m meth c Z own nm bytes maxL ret) (X : Stand p l e R s m args below meth c T locs cells slots) {cd : ClassFile.Cond} {x : Int32} {o : Int} (hd : decode bytes pc = .ok (.ifCond cd o, 3)) (hc : ifCond.holds cd x = false) (hp : pc + 3 = pc') (k : Go p e below P (T.setTop (mkF m pc' Ls (rest)))) : Go p e below P (T.setTop (mkF m pc Ls (.int x :: rest))) := by
  subst hp; exact Go.on (fun t => XS.ifNo X.here B.1 rfl (hb B.2.1 hd) rfl hc) k
theorem s_icmpY (B : Ctx p s m meth c Z own nm bytes maxL ret) (X : Stand p l e R s m args below meth c T locs cells slots) {cd : ClassFile.Cond} {x y : Int32} {o : Int} (hd : decode bytes pc = .ok (.if_icmp cd o, 3)) (hc : if_icmp.holds cd x y = true) (ho : 0 ≤ (pc : Int) + o) (hp : ((pc : Int) + o).toNat = pc') (k : Go p e below P (T.setTop (mkF m pc' Ls (rest)))) : Go p e below P (T.setTop (mkF m pc Ls (.int y :: .int x :: rest))) := Go.on (fun t => XS.icmpYes X.here B.1 rfl rfl (hb B.2.1 hd) rfl hc ho hp) k
theorem s_icmpN (B : Ctx p s m meth c Z own nm bytes maxL ret) (X : Stand p l e R s m args below meth c T locs cells slots) {cd : ClassFile.Cond} {x y : Int32} {o : Int} (hd : decode bytes pc = .ok (.if_icmp cd o, 3)) (hc : if_icmp.holds cd x y = false) (hp : pc + 3 = pc') (k : Go p e below P (T.setTop (mkF m pc' Ls (rest)))) : Go p e below P (T.setTop (mkF m pc Ls (.int y :: .int x :: rest))) := by
  subst hp; exact Go.on (fun t => XS.icmpNo X.here B.1 rfl (hb B.2.1 hd) rfl hc) k
theorem s_ifnullY (B : Ctx p s m meth c Z own nm bytes maxL ret) (X : Stand p l e R s m args below meth c T locs cells slots)  {o : Int} (hd : decode bytes pc = .ok (.ifnull o, 3))  (ho : 0 ≤ (pc : Int) + o) (hp : ((pc : Int) + o).toNat = pc') (k : Go p e below P (T.setTop (mkF m pc' Ls (rest)))) : Go p e below P (T.setTop (mkF m pc Ls (.null :: rest))) := Go.on (fun t => XS.ifnullYes X.here B.1 rfl rfl (hb B.2.1 hd) rfl ho hp) k
theorem s_ifnullN (B : Ctx p s m meth c Z own nm bytes maxL ret) (X : Stand p l e R s m args below meth c T locs cells slots) {b : Addr} {o : Int} (hd : decode bytes pc = .ok (.ifnull o, 3))  (hp : pc + 3 = pc') (k : Go p e below P (T.setTop (mkF m pc' Ls (rest)))) : Go p e below P (T.setTop (mkF m pc Ls (.ref b :: rest))) := by
  subst hp; exact Go.on (fun t => XS.ifnullNo X.here B.1 rfl (hb B.2.1 hd) rfl) k
theorem s_ifnonnullY (B : Ctx p s m meth c Z own nm bytes maxL ret) (X : Stand p l e R s m args below meth c T locs cells slots) {b : Addr} {o : Int} (hd : decode bytes pc = .ok (.ifnonnull o, 3))  (ho : 0 ≤ (pc : Int) + o) (hp : ((pc : Int) + o).toNat = pc') (k : Go p e below P (T.setTop (mkF m pc' Ls (rest)))) : Go p e below P (T.setTop (mkF m pc Ls (.ref b :: rest))) := Go.on (fun t => XS.ifnonnullYes X.here B.1 rfl rfl (hb B.2.1 hd) rfl ho hp) k
theorem s_ifnonnullN (B : Ctx p s m meth c Z own nm bytes maxL ret) (X : Stand p l e R s m args below meth c T locs cells slots)  {o : Int} (hd : decode bytes pc = .ok (.ifnonnull o, 3))  (hp : pc + 3 = pc') (k : Go p e below P (T.setTop (mkF m pc' Ls (rest)))) : Go p e below P (T.setTop (mkF m pc Ls (.null :: rest))) := by
  subst hp; exact Go.on (fun t => XS.ifnonnullNo X.here B.1 rfl (hb B.2.1 hd) rfl) k
theorem b_icmp_eq (B : Ctx p s m meth c Z own nm bytes maxL ret) (X : Stand p l e R s m args below meth c T locs cells slots) {x y : Int32} {o : Int} {py pn : Nat} (hd : decode bytes pc = .ok (.if_icmp .eq o, 3)) (ho : 0 ≤ (pc : Int) + o) (hy : ((pc : Int) + o).toNat = py) (hn : pc + 3 = pn) (k1 : x = y → Go p e below P (T.setTop (mkF m py Ls (rest)))) (k2 : ¬ x = y → Go p e below P (T.setTop (mkF m pn Ls (rest)))) : Go p e below P (T.setTop (mkF m pc Ls (.int y :: .int x :: rest))) := by
  by_cases q : x = y
  · exact s_icmpY B X hd (teq q).1 ho hy (k1 q)
  · exact s_icmpN B X hd (feq q).1 hn (k2 q)
theorem b_if_eq (B : Ctx p s m meth c Z own nm bytes maxL ret) (X : Stand p l e R s m args below meth c T locs cells slots) {x : Int32} {o : Int} {py pn : Nat} (hd : decode bytes pc = .ok (.ifCond .eq o, 3)) (ho : 0 ≤ (pc : Int) + o) (hy : ((pc : Int) + o).toNat = py) (hn : pc + 3 = pn) (k1 : x = 0 → Go p e below P (T.setTop (mkF m py Ls (rest)))) (k2 : ¬ x = 0 → Go p e below P (T.setTop (mkF m pn Ls (rest)))) : Go p e below P (T.setTop (mkF m pc Ls (.int x :: rest))) := by
  by_cases q : x = 0
  · exact s_ifY B X hd ((if0 _ _).trans (teq q).1) ho hy (k1 q)
  · exact s_ifN B X hd ((if0 _ _).trans (feq q).1) hn (k2 q)
theorem b_icmp_ne (B : Ctx p s m meth c Z own nm bytes maxL ret) (X : Stand p l e R s m args below meth c T locs cells slots) {x y : Int32} {o : Int} {py pn : Nat} (hd : decode bytes pc = .ok (.if_icmp .ne o, 3)) (ho : 0 ≤ (pc : Int) + o) (hy : ((pc : Int) + o).toNat = py) (hn : pc + 3 = pn) (k1 : ¬ x = y → Go p e below P (T.setTop (mkF m py Ls (rest)))) (k2 : x = y → Go p e below P (T.setTop (mkF m pn Ls (rest)))) : Go p e below P (T.setTop (mkF m pc Ls (.int y :: .int x :: rest))) := by
  by_cases q : x = y
  · exact s_icmpN B X hd (teq q).2 hn (k2 q)
  · exact s_icmpY B X hd (feq q).2 ho hy (k1 q)
theorem b_if_ne (B : Ctx p s m meth c Z own nm bytes maxL ret) (X : Stand p l e R s m args below meth c T locs cells slots) {x : Int32} {o : Int} {py pn : Nat} (hd : decode bytes pc = .ok (.ifCond .ne o, 3)) (ho : 0 ≤ (pc : Int) + o) (hy : ((pc : Int) + o).toNat = py) (hn : pc + 3 = pn) (k1 : ¬ x = 0 → Go p e below P (T.setTop (mkF m py Ls (rest)))) (k2 : x = 0 → Go p e below P (T.setTop (mkF m pn Ls (rest)))) : Go p e below P (T.setTop (mkF m pc Ls (.int x :: rest))) := by
  by_cases q : x = 0
  · exact s_ifN B X hd ((if0 _ _).trans (teq q).2) hn (k2 q)
  · exact s_ifY B X hd ((if0 _ _).trans (feq q).2) ho hy (k1 q)
theorem b_icmp_lt (B : Ctx p s m meth c Z own nm bytes maxL ret) (X : Stand p l e R s m args below meth c T locs cells slots) {x y : Int32} {o : Int} {py pn : Nat} (hd : decode bytes pc = .ok (.if_icmp .lt o, 3)) (ho : 0 ≤ (pc : Int) + o) (hy : ((pc : Int) + o).toNat = py) (hn : pc + 3 = pn) (k1 : x < y → Go p e below P (T.setTop (mkF m py Ls (rest)))) (k2 : ¬ x < y → Go p e below P (T.setTop (mkF m pn Ls (rest)))) : Go p e below P (T.setTop (mkF m pc Ls (.int y :: .int x :: rest))) := by
  by_cases q : x < y
  · exact s_icmpY B X hd (tlt q).1 ho hy (k1 q)
  · exact s_icmpN B X hd (flt q).1 hn (k2 q)
theorem b_if_lt (B : Ctx p s m meth c Z own nm bytes maxL ret) (X : Stand p l e R s m args below meth c T locs cells slots) {x : Int32} {o : Int} {py pn : Nat} (hd : decode bytes pc = .ok (.ifCond .lt o, 3)) (ho : 0 ≤ (pc : Int) + o) (hy : ((pc : Int) + o).toNat = py) (hn : pc + 3 = pn) (k1 : x < 0 → Go p e below P (T.setTop (mkF m py Ls (rest)))) (k2 : ¬ x < 0 → Go p e below P (T.setTop (mkF m pn Ls (rest)))) : Go p e below P (T.setTop (mkF m pc Ls (.int x :: rest))) := by
  by_cases q : x < 0
  · exact s_ifY B X hd ((if0 _ _).trans (tlt q).1) ho hy (k1 q)
  · exact s_ifN B X hd ((if0 _ _).trans (flt q).1) hn (k2 q)
theorem b_icmp_ge (B : Ctx p s m meth c Z own nm bytes maxL ret) (X : Stand p l e R s m args below meth c T locs cells slots) {x y : Int32} {o : Int} {py pn : Nat} (hd : decode bytes pc = .ok (.if_icmp .ge o, 3)) (ho : 0 ≤ (pc : Int) + o) (hy : ((pc : Int) + o).toNat = py) (hn : pc + 3 = pn) (k1 : ¬ x < y → Go p e below P (T.setTop (mkF m py Ls (rest)))) (k2 : x < y → Go p e below P (T.setTop (mkF m pn Ls (rest)))) : Go p e below P (T.setTop (mkF m pc Ls (.int y :: .int x :: rest))) := by
  by_cases q : x < y
  · exact s_icmpN B X hd (tlt q).2.1 hn (k2 q)
  · exact s_icmpY B X hd (flt q).2.1 ho hy (k1 q)
theorem b_if_ge (B : Ctx p s m meth c Z own nm bytes maxL ret) (X : Stand p l e R s m args below meth c T locs cells slots) {x : Int32} {o : Int} {py pn : Nat} (hd : decode bytes pc = .ok (.ifCond .ge o, 3)) (ho : 0 ≤ (pc : Int) + o) (hy : ((pc : Int) + o).toNat = py) (hn : pc + 3 = pn) (k1 : ¬ x < 0 → Go p e below P (T.setTop (mkF m py Ls (rest)))) (k2 : x < 0 → Go p e below P (T.setTop (mkF m pn Ls (rest)))) : Go p e below P (T.setTop (mkF m pc Ls (.int x :: rest))) := by
  by_cases q : x < 0
  · exact s_ifN B X hd ((if0 _ _).trans (tlt q).2.1) hn (k2 q)
  · exact s_ifY B X hd ((if0 _ _).trans (flt q).2.1) ho hy (k1 q)
theorem b_icmp_gt (B : Ctx p s m meth c Z own nm bytes maxL ret) (X : Stand p l e R s m args below meth c T locs cells slots) {x y : Int32} {o : Int} {py pn : Nat} (hd : decode bytes pc = .ok (.if_icmp .gt o, 3)) (ho : 0 ≤ (pc : Int) + o) (hy : ((pc : Int) + o).toNat = py) (hn : pc + 3 = pn) (k1 : y < x → Go p e below P (T.setTop (mkF m py Ls (rest)))) (k2 : ¬ y < x → Go p e below P (T.setTop (mkF m pn Ls (rest)))) : Go p e below P (T.setTop (mkF m pc Ls (.int y :: .int x :: rest))) := by
  by_cases q : y < x
  · exact s_icmpY B X hd (tlt q).2.2.1 ho hy (k1 q)
  · exact s_icmpN B X hd (flt q).2.2.1 hn (k2 q)
theorem b_if_gt (B : Ctx p s m meth c Z own nm bytes maxL ret) (X : Stand p l e R s m args below meth c T locs cells slots) {x : Int32} {o : Int} {py pn : Nat} (hd : decode bytes pc = .ok (.ifCond .gt o, 3)) (ho : 0 ≤ (pc : Int) + o) (hy : ((pc : Int) + o).toNat = py) (hn : pc + 3 = pn) (k1 : 0 < x → Go p e below P (T.setTop (mkF m py Ls (rest)))) (k2 : ¬ 0 < x → Go p e below P (T.setTop (mkF m pn Ls (rest)))) : Go p e below P (T.setTop (mkF m pc Ls (.int x :: rest))) := by
  by_cases q : 0 < x
  · exact s_ifY B X hd ((if0 _ _).trans (tlt q).2.2.1) ho hy (k1 q)
  · exact s_ifN B X hd ((if0 _ _).trans (flt q).2.2.1) hn (k2 q)
theorem b_icmp_le (B : Ctx p s m meth c Z own nm bytes maxL ret) (X : Stand p l e R s m args below meth c T locs cells slots) {x y : Int32} {o : Int} {py pn : Nat} (hd : decode bytes pc = .ok (.if_icmp .le o, 3)) (ho : 0 ≤ (pc : Int) + o) (hy : ((pc : Int) + o).toNat = py) (hn : pc + 3 = pn) (k1 : ¬ y < x → Go p e below P (T.setTop (mkF m py Ls (rest)))) (k2 : y < x → Go p e below P (T.setTop (mkF m pn Ls (rest)))) : Go p e below P (T.setTop (mkF m pc Ls (.int y :: .int x :: rest))) := by
  by_cases q : y < x
  · exact s_icmpN B X hd (tlt q).2.2.2 hn (k2 q)
  · exact s_icmpY B X hd (flt q).2.2.2 ho hy (k1 q)
theorem b_if_le (B : Ctx p s m meth c Z own nm bytes maxL ret) (X : Stand p l e R s m args below meth c T locs cells slots) {x : Int32} {o : Int} {py pn : Nat} (hd : decode bytes pc = .ok (.ifCond .le o, 3)) (ho : 0 ≤ (pc : Int) + o) (hy : ((pc : Int) + o).toNat = py) (hn : pc + 3 = pn) (k1 : ¬ 0 < x → Go p e below P (T.setTop (mkF m py Ls (rest)))) (k2 : 0 < x → Go p e below P (T.setTop (mkF m pn Ls (rest)))) : Go p e below P (T.setTop (mkF m pc Ls (.int x :: rest))) := by
  by_cases q : 0 < x
  · exact s_ifN B X hd ((if0 _ _).trans (tlt q).2.2.2) hn (k2 q)
  · exact s_ifY B X hd ((if0 _ _).trans (flt q).2.2.2) ho hy (k1 q)
theorem b_lcmp_eq (B : Ctx p s m meth c Z own nm bytes maxL ret) (X : Stand p l e R s m args below meth c T locs cells slots) {x y : Int64} {pc0 : Nat} {o : Int} {py pn : Nat} (hd0 : decode bytes pc0 = .ok (.lcmp, 1)) (hp0 : pc0 + 1 = pc) (hd : decode bytes pc = .ok (.ifCond .eq o, 3)) (ho : 0 ≤ (pc : Int) + o) (hy : ((pc : Int) + o).toNat = py) (hn : pc + 3 = pn) (k1 : x = y → Go p e below P (T.setTop (mkF m py Ls (rest)))) (k2 : ¬ x = y → Go p e below P (T.setTop (mkF m pn Ls (rest)))) : Go p e below P (T.setTop (mkF m pc0 Ls (.long y :: .long x :: rest))) := by
  by_cases q : x = y
  · exact s_lcmp B X hd0 hp0 (s_ifY B X hd ((if0 _ _).trans (teq ((lw_eq x y).mpr q)).1) ho hy (k1 q))
  · exact s_lcmp B X hd0 hp0 (s_ifN B X hd ((if0 _ _).trans (feq (fun z => q ((lw_eq x y).mp z))).1) hn (k2 q))
theorem b_lcmp_ne (B : Ctx p s m meth c Z own nm bytes maxL ret) (X : Stand p l e R s m args below meth c T locs cells slots) {x y : Int64} {pc0 : Nat} {o : Int} {py pn : Nat} (hd0 : decode bytes pc0 = .ok (.lcmp, 1)) (hp0 : pc0 + 1 = pc) (hd : decode bytes pc = .ok (.ifCond .ne o, 3)) (ho : 0 ≤ (pc : Int) + o) (hy : ((pc : Int) + o).toNat = py) (hn : pc + 3 = pn) (k1 : ¬ x = y → Go p e below P (T.setTop (mkF m py Ls (rest)))) (k2 : x = y → Go p e below P (T.setTop (mkF m pn Ls (rest)))) : Go p e below P (T.setTop (mkF m pc0 Ls (.long y :: .long x :: rest))) := by
  by_cases q : x = y
  · exact s_lcmp B X hd0 hp0 (s_ifN B X hd ((if0 _ _).trans (teq ((lw_eq x y).mpr q)).2) hn (k2 q))
  · exact s_lcmp B X hd0 hp0 (s_ifY B X hd ((if0 _ _).trans (feq (fun z => q ((lw_eq x y).mp z))).2) ho hy (k1 q))
theorem b_lcmp_lt (B : Ctx p s m meth c Z own nm bytes maxL ret) (X : Stand p l e R s m args below meth c T locs cells slots) {x y : Int64} {pc0 : Nat} {o : Int} {py pn : Nat} (hd0 : decode bytes pc0 = .ok (.lcmp, 1)) (hp0 : pc0 + 1 = pc) (hd : decode bytes pc = .ok (.ifCond .lt o, 3)) (ho : 0 ≤ (pc : Int) + o) (hy : ((pc : Int) + o).toNat = py) (hn : pc + 3 = pn) (k1 : x < y → Go p e below P (T.setTop (mkF m py Ls (rest)))) (k2 : ¬ x < y → Go p e below P (T.setTop (mkF m pn Ls (rest)))) : Go p e below P (T.setTop (mkF m pc0 Ls (.long y :: .long x :: rest))) := by
  by_cases q : x < y
  · exact s_lcmp B X hd0 hp0 (s_ifY B X hd ((if0 _ _).trans (tlt ((lw_lt x y).mpr q)).1) ho hy (k1 q))
  · exact s_lcmp B X hd0 hp0 (s_ifN B X hd ((if0 _ _).trans (flt (fun z => q ((lw_lt x y).mp z))).1) hn (k2 q))
theorem b_lcmp_ge (B : Ctx p s m meth c Z own nm bytes maxL ret) (X : Stand p l e R s m args below meth c T locs cells slots) {x y : Int64} {pc0 : Nat} {o : Int} {py pn : Nat} (hd0 : decode bytes pc0 = .ok (.lcmp, 1)) (hp0 : pc0 + 1 = pc) (hd : decode bytes pc = .ok (.ifCond .ge o, 3)) (ho : 0 ≤ (pc : Int) + o) (hy : ((pc : Int) + o).toNat = py) (hn : pc + 3 = pn) (k1 : ¬ x < y → Go p e below P (T.setTop (mkF m py Ls (rest)))) (k2 : x < y → Go p e below P (T.setTop (mkF m pn Ls (rest)))) : Go p e below P (T.setTop (mkF m pc0 Ls (.long y :: .long x :: rest))) := by
  by_cases q : x < y
  · exact s_lcmp B X hd0 hp0 (s_ifN B X hd ((if0 _ _).trans (tlt ((lw_lt x y).mpr q)).2.1) hn (k2 q))
  · exact s_lcmp B X hd0 hp0 (s_ifY B X hd ((if0 _ _).trans (flt (fun z => q ((lw_lt x y).mp z))).2.1) ho hy (k1 q))
theorem b_lcmp_gt (B : Ctx p s m meth c Z own nm bytes maxL ret) (X : Stand p l e R s m args below meth c T locs cells slots) {x y : Int64} {pc0 : Nat} {o : Int} {py pn : Nat} (hd0 : decode bytes pc0 = .ok (.lcmp, 1)) (hp0 : pc0 + 1 = pc) (hd : decode bytes pc = .ok (.ifCond .gt o, 3)) (ho : 0 ≤ (pc : Int) + o) (hy : ((pc : Int) + o).toNat = py) (hn : pc + 3 = pn) (k1 : y < x → Go p e below P (T.setTop (mkF m py Ls (rest)))) (k2 : ¬ y < x → Go p e below P (T.setTop (mkF m pn Ls (rest)))) : Go p e below P (T.setTop (mkF m pc0 Ls (.long y :: .long x :: rest))) := by
  by_cases q : y < x
  · exact s_lcmp B X hd0 hp0 (s_ifY B X hd ((if0 _ _).trans (tlt ((lw_gt x y).mpr q)).2.2.1) ho hy (k1 q))
  · exact s_lcmp B X hd0 hp0 (s_ifN B X hd ((if0 _ _).trans (flt (fun z => q ((lw_gt x y).mp z))).2.2.1) hn (k2 q))
theorem b_lcmp_le (B : Ctx p s m meth c Z own nm bytes maxL ret) (X : Stand p l e R s m args below meth c T locs cells slots) {x y : Int64} {pc0 : Nat} {o : Int} {py pn : Nat} (hd0 : decode bytes pc0 = .ok (.lcmp, 1)) (hp0 : pc0 + 1 = pc) (hd : decode bytes pc = .ok (.ifCond .le o, 3)) (ho : 0 ≤ (pc : Int) + o) (hy : ((pc : Int) + o).toNat = py) (hn : pc + 3 = pn) (k1 : ¬ y < x → Go p e below P (T.setTop (mkF m py Ls (rest)))) (k2 : y < x → Go p e below P (T.setTop (mkF m pn Ls (rest)))) : Go p e below P (T.setTop (mkF m pc0 Ls (.long y :: .long x :: rest))) := by
  by_cases q : y < x
  · exact s_lcmp B X hd0 hp0 (s_ifN B X hd ((if0 _ _).trans (tlt ((lw_gt x y).mpr q)).2.2.2) hn (k2 q))
  · exact s_lcmp B X hd0 hp0 (s_ifY B X hd ((if0 _ _).trans (flt (fun z => q ((lw_gt x y).mp z))).2.2.2) ho hy (k1 q))
theorem b_acmp_eq (B : Ctx p s m meth c Z own nm bytes maxL ret) (X : Stand p l e R s m args below meth c T locs cells slots) {a b : Addr} {o : Int} {py pn : Nat} (hd : decode bytes pc = .ok (.if_acmp .eq o, 3)) (ho : 0 ≤ (pc : Int) + o) (hy : ((pc : Int) + o).toNat = py) (hn : pc + 3 = pn) (k1 : a = b → Go p e below P (T.setTop (mkF m py Ls (rest)))) (k2 : ¬ a = b → Go p e below P (T.setTop (mkF m pn Ls (rest)))) : Go p e below P (T.setTop (mkF m pc Ls (.ref b :: .ref a :: rest))) := by
  by_cases q : a = b
  · exact Go.on (fun t => Jvm.RoadKit.acmp X B.1 rfl rfl rfl (same := true) rfl (hb B.2.1 hd) rfl (decide_eq_true (congrArg Value.ref q)) ho (by simp [acV, hy])) (k1 q)
  · exact Go.on (fun t => Jvm.RoadKit.acmp X B.1 rfl rfl rfl (same := false) rfl (hb B.2.1 hd) rfl (decide_eq_false fun z => q (Value.ref.inj z)) ho (by simp [acV, hn])) (k2 q)
theorem b_acmp_ne (B : Ctx p s m meth c Z own nm bytes maxL ret) (X : Stand p l e R s m args below meth c T locs cells slots) {a b : Addr} {o : Int} {py pn : Nat} (hd : decode bytes pc = .ok (.if_acmp .ne o, 3)) (ho : 0 ≤ (pc : Int) + o) (hy : ((pc : Int) + o).toNat = py) (hn : pc + 3 = pn) (k1 : ¬ a = b → Go p e below P (T.setTop (mkF m py Ls (rest)))) (k2 : a = b → Go p e below P (T.setTop (mkF m pn Ls (rest)))) : Go p e below P (T.setTop (mkF m pc Ls (.ref b :: .ref a :: rest))) := by
  by_cases q : a = b
  · exact Go.on (fun t => Jvm.RoadKit.acmp X B.1 rfl rfl rfl (same := true) rfl (hb B.2.1 hd) rfl (decide_eq_true (congrArg Value.ref q)) ho (by simp [acV, hn])) (k2 q)
  · exact Go.on (fun t => Jvm.RoadKit.acmp X B.1 rfl rfl rfl (same := false) rfl (hb B.2.1 hd) rfl (decide_eq_false fun z => q (Value.ref.inj z)) ho (by simp [acV, hy])) (k1 q)
theorem b_ifnull (B : Ctx p s m meth c Z own nm bytes maxL ret) (X : Stand p l e R s m args below meth c T locs cells slots) {v : Value} {o : Int} {py pn : Nat} (hv : v.isRef = true) (hd : decode bytes pc = .ok (.ifnull o, 3)) (ho : 0 ≤ (pc : Int) + o) (hy : ((pc : Int) + o).toNat = py) (hn : pc + 3 = pn) (k1 : v = .null → Go p e below P (T.setTop (mkF m py Ls (rest)))) (k2 : ¬ v = .null → Go p e below P (T.setTop (mkF m pn Ls (rest)))) : Go p e below P (T.setTop (mkF m pc Ls (v :: rest))) := by
  rcases ref_cases hv with rfl | ⟨a, rfl⟩
  · exact s_ifnullY B X hd ho hy (k1 rfl)
  · exact s_ifnullN B X hd hn (k2 nofun)
theorem b_ifnonnull (B : Ctx p s m meth c Z own nm bytes maxL ret) (X : Stand p l e R s m args below meth c T locs cells slots) {v : Value} {o : Int} {py pn : Nat} (hv : v.isRef = true) (hd : decode bytes pc = .ok (.ifnonnull o, 3)) (ho : 0 ≤ (pc : Int) + o) (hy : ((pc : Int) + o).toNat = py) (hn : pc + 3 = pn) (k1 : ¬ v = .null → Go p e below P (T.setTop (mkF m py Ls (rest)))) (k2 : v = .null → Go p e below P (T.setTop (mkF m pn Ls (rest)))) : Go p e below P (T.setTop (mkF m pc Ls (v :: rest))) := by
  rcases ref_cases hv with rfl | ⟨a, rfl⟩
  · exact s_ifnonnullN B X hd hn (k2 rfl)
  · exact s_ifnonnullY B X hd ho hy (k1 nofun)
theorem s_ldc (B : Ctx p s m meth c Z own nm bytes maxL ret) (X : Stand p l e R s m args below meth c T locs cells slots) {i : Nat} {v : Int32} (w : (Jvm.Cond.constant own i v).before a0 Z = true) (hd : decode bytes pc = .ok (.ldc i, 2)) (hp : pc + 2 = pc') (k : Go p e below P (T.setTop (mkF m pc' Ls (.int v :: rest)))) : Go p e below P (T.setTop (mkF m pc Ls (rest))) := by
  subst hp; exact Go.on (fun t => X.ldcI B.1 B.2.2.2.1 (mv B.2.2.2.2.2.2.2 w) rfl (hb B.2.1 hd)) k
theorem s_ldc2 (B : Ctx p s m meth c Z own nm bytes maxL ret) (X : Stand p l e R s m args below meth c T locs cells slots) {i : Nat} {v : Int64} (w : (Jvm.Cond.constantLong own i v).before a0 Z = true) (hd : decode bytes pc = .ok (.ldc2_w i, 3)) (hp : pc + 3 = pc') (k : Go p e below P (T.setTop (mkF m pc' Ls (.long v :: rest)))) : Go p e below P (T.setTop (mkF m pc Ls (rest))) := by
  subst hp; exact Go.on (fun t => X.ldc2J B.1 B.2.2.2.1 (mv B.2.2.2.2.2.2.2 w) rfl (hb B.2.1 hd)) k
theorem s_getS (B : Ctx p s m meth c Z own nm bytes maxL ret) (X : Stand p l e R s m args below meth c T locs cells slots) {i : Nat} {R0 O n d : String} {v : Value} (eT : T.heap = h) (w : (Jvm.Cond.fieldLink own i R0 n d).before a0 Z = true) (via : Via Z R0 O n d) (F : Sta Z h O n d v) (hd : decode bytes pc = .ok (.getstatic i, 3)) (hp : pc + 3 = pc') (k : ∀ T', Stand p l e R s m args below meth c T' locs cells slots → T'.heap = h → Go p e below P (T'.setTop (mkF m pc' Ls (v :: rest)))) : Go p e below P (T.setTop (mkF m pc Ls (rest))) := by
  subst hp
  obtain ⟨T', X', e', st⟩ := getS X B.1 B.2.2.2.2.2.2.2 (host := "") B.2.2.2.1 w via eT F (g := mkF m pc Ls rest) rfl (hb B.2.1 hd)
  exact Go.on st (k T' X' e')
theorem s_getF (B : Ctx p s m meth c Z own nm bytes maxL ret) (X : Stand p l e R s m args below meth c T locs cells slots) {i : Nat} {R0 O n d host : String} {a : Addr} {v : Value} (eT : T.heap = h) (w : (Jvm.Cond.fieldLink own i R0 n d).before a0 Z = true ∨ (Jvm.Cond.fieldLinkNest own i R0 n d host).before a0 Z = true) (via : Via Z R0 O n d) (F : Fld Z h a O n d v) (hd : decode bytes pc = .ok (.getfield i, 3)) (hp : pc + 3 = pc') (k : ∀ T', Stand p l e R s m args below meth c T' locs cells slots → T'.heap = h → Go p e below P (T'.setTop (mkF m pc' Ls (v :: rest)))) : Go p e below P (T.setTop (mkF m pc Ls (.ref a :: rest))) := by
  subst hp
  obtain ⟨T', X', e', st⟩ := getF X B.1 B.2.2.2.2.2.2.2 B.2.2.2.1 w via eT F (g := mkF m pc Ls (.ref a :: rest)) rfl rfl (hb B.2.1 hd)
  exact Go.on st (k T' X' e')
theorem r_nar (B : Ctx p s m meth c Z own nm bytes maxL ret) (X : Stand p l e R s m args below meth c T locs cells slots) {Q : Option Value → Heap → List Loc → Prop} {kc kn : Nat} {z : Int32} {t : FieldType} (ht : t = .boolean ∨ t = .byte ∨ t = .char ∨ t = .short) (hr : ret = some t) (hd : decode bytes pc = .ok (.ireturn, 1)) (hq : Q (some (.int (nar t z))) T.heap locs) (hc : cells ≤ kc) (hs : slots ≤ kn) : Go p e below (Ends s Q kc kn) (T.setTop (mkF m pc Ls (.int z :: rest))) := by
  obtain ⟨fs, hl, hrun, hended, hW, hsame⟩ := X.leave (v := (some (.int (nar t z)))) (fun h => by rw [B.2.2.2.2.2.1, hr] at h; first | rfl | cases h) B.2.2.2.2.2.2.1
  exact ⟨_, _, retN X B.1 (by rw [B.2.2.2.2.2.1, hr]) ht (hb B.2.1 hd) hl, hrun, hended, _, _, rfl, hq, ⟨_, rfl⟩, hW, hsame.mono hc hs⟩
theorem r_int (B : Ctx p s m meth c Z own nm bytes maxL ret) (X : Stand p l e R s m args below meth c T locs cells slots) {Q : Option Value → Heap → List Loc → Prop} {kc kn : Nat} {z : Int32} (hr : ret = some .int) (hd : decode bytes pc = .ok (.ireturn, 1)) (hq : Q (some (.int z)) T.heap locs) (hc : cells ≤ kc) (hs : slots ≤ kn) : Go p e below (Ends s Q kc kn) (T.setTop (mkF m pc Ls (.int z :: rest))) := by
  obtain ⟨fs, hl, hrun, hended, hW, hsame⟩ := X.leave (v := (some (.int z))) (fun h => by rw [B.2.2.2.2.2.1, hr] at h; first | rfl | cases h) B.2.2.2.2.2.2.1
  exact ⟨_, _, retOut X B.1 (t := .int) (by rw [B.2.2.2.2.2.1, hr]) rfl (Or.inl ⟨rfl, Or.inl rfl, _, rfl⟩) (hb B.2.1 hd) hl, hrun, hended, _, _, rfl, hq, ⟨_, rfl⟩, hW, hsame.mono hc hs⟩
theorem r_long (B : Ctx p s m meth c Z own nm bytes maxL ret) (X : Stand p l e R s m args below meth c T locs cells slots) {Q : Option Value → Heap → List Loc → Prop} {kc kn : Nat} {z : Int64} (hr : ret = some .long) (hd : decode bytes pc = .ok (.lreturn, 1)) (hq : Q (some (.long z)) T.heap locs) (hc : cells ≤ kc) (hs : slots ≤ kn) : Go p e below (Ends s Q kc kn) (T.setTop (mkF m pc Ls (.long z :: rest))) := by
  obtain ⟨fs, hl, hrun, hended, hW, hsame⟩ := X.leave (v := (some (.long z))) (fun h => by rw [B.2.2.2.2.2.1, hr] at h; first | rfl | cases h) B.2.2.2.2.2.2.1
  exact ⟨_, _, retOut X B.1 (t := .long) (by rw [B.2.2.2.2.2.1, hr]) rfl (Or.inr (Or.inl ⟨rfl, rfl, _, rfl⟩)) (hb B.2.1 hd) hl, hrun, hended, _, _, rfl, hq, ⟨_, rfl⟩, hW, hsame.mono hc hs⟩
theorem r_ref (B : Ctx p s m meth c Z own nm bytes maxL ret) (X : Stand p l e R s m args below meth c T locs cells slots) {Q : Option Value → Heap → List Loc → Prop} {kc kn : Nat} {v : Value} {t : FieldType} (ht : t.isReference = true) (hn : narrow t v = v) (hv : v.isRef = true) (hr : ret = some t) (hd : decode bytes pc = .ok (.areturn, 1)) (hq : Q (some v) T.heap locs) (hc : cells ≤ kc) (hs : slots ≤ kn) : Go p e below (Ends s Q kc kn) (T.setTop (mkF m pc Ls (v :: rest))) := by
  obtain ⟨fs, hl, hrun, hended, hW, hsame⟩ := X.leave (v := (some v)) (fun h => by rw [B.2.2.2.2.2.1, hr] at h; first | rfl | cases h) B.2.2.2.2.2.2.1
  exact ⟨_, _, retOut X B.1 (t := t) (by rw [B.2.2.2.2.2.1, hr]) hn (Or.inr (Or.inr (Or.inr (Or.inr ⟨rfl, ht, hv⟩)))) (hb B.2.1 hd) hl, hrun, hended, _, _, rfl, hq, ⟨_, rfl⟩, hW, hsame.mono hc hs⟩
theorem r_void (B : Ctx p s m meth c Z own nm bytes maxL ret) (X : Stand p l e R s m args below meth c T locs cells slots) {Q : Option Value → Heap → List Loc → Prop} {kc kn : Nat} (hr : ret = none) (hd : decode bytes pc = .ok (.return_, 1)) (hq : Q none T.heap locs) (hc : cells ≤ kc) (hs : slots ≤ kn) : Go p e below (Ends s Q kc kn) (T.setTop (mkF m pc Ls [])) := by
  obtain ⟨fs, hl, hrun, hended, hW, hsame⟩ := X.leave (v := none) (fun _ => rfl) B.2.2.2.2.2.2.1
  exact ⟨_, _, X.returnOut B.1 (by rw [B.2.2.2.2.2.1, hr]) (hb B.2.1 hd) hl, hrun, hended, _, _, rfl, hq, ⟨_, rfl⟩, hW, hsame.mono hc hs⟩
theorem c_virtual (B : Ctx p s m meth c Z own nm bytes maxL ret) (X : Stand p l e R s m args below meth c T locs cells slots) {y : MethodName} {bs : ByteArray} {mx : Nat} {rt : Option FieldType} {rm : Room} {i W : Nat} {argsL under : List Value} {Q : Option Value → Heap → List Loc → Prop} {st : List Value} {C : String} {b : Addr} (eT : T.heap = h) (w1 : (Jvm.Cond.methodLink own i y).before a0 Z = true) (w2 : (Jvm.Cond.declares y).before a0 Z = true) (w3 : (Jvm.Cond.selects C y y).before a0 Z = true) (w4 : (Jvm.Cond.instanceMethod y).before a0 Z = true) (wc : (Jvm.Cond.code y bs mx rt).before a0 Z = true) (wz : (Jvm.Cond.initialized y.cls).before a0 Z = true) (hy : y.cls ≠ "java/lang/invoke/MethodHandle" ∧ y.cls ≠ "java/lang/invoke/VarHandle") (hM : OMeets l Z y bs mx rt [] rm (.ref b :: argsL).toArray h Q) (E : Exa Z h b C) (hlen : ∀ sig, parseMethodDescriptor y.desc = some sig → argsL.length = sig.parameters.length) (hst : st = argsL.reverse ++ .ref b :: under) (hW : (under.map fun v => v.category).sum = W) (hf : rm.frames + 1 ≤ R.frames) (hlo : W + (mx + 11) + rm.locals ≤ R.locals) (hce : cells + rm.cells ≤ R.cells) (hsl : slots + rm.slots ≤ R.slots) (hsz : Ls.size = maxL) (hd : decode bytes pc = .ok (.invokevirtual i, 3)) (hp : pc + 3 = pc') (k : ∀ v T' L, Stand p l e R s m args below meth c T' (locs ++ L) (cells + rm.cells) (slots + rm.slots) → Q v T'.heap L → Go p e below P (T'.setTop (mkF m pc' Ls (v.toList ++ under)))) : Go p e below P (T.setTop (mkF m pc Ls st)) := by
  subst hp hst
  obtain ⟨cq, kq, qa, qb, qc⟩ := isOf B.2.2.2.2.2.2.2 eT E
  obtain ⟨v, _, ⟨T', L', k', n'⟩, -, X', ⟨Lc, hQ, l', y', z'⟩, st'⟩ := X.virtualBack B.1 (y := y) B.2.2.2.1 (mvT B.2.2.2.2.2.2.2 w1) (mvT B.2.2.2.2.2.2.2 w2) (notFace_of_selects (args := #[]) (mvT B.2.2.2.2.2.2.2 w3)) (mvT B.2.2.2.2.2.2.2 w3) (mvT B.2.2.2.2.2.2.2 w4) hy (z := y) (backOf (W := W) hM B.2.2.2.2.2.2.2 wc wz hf hlo) qa qc (g := mkF m pc Ls (argsL.reverse ++ .ref b :: under)) rfl (by rw [B.2.2.1]; exact hsz) (Steps.refl _) (argsL := argsL) (rest := under) hlen rfl (by show 2 * 0 + _ ≤ _; rw [Nat.mul_zero, Nat.zero_add]; exact Nat.le_of_eq hW) (hb B.2.1 hd) (fun _ _ => ⟨rfl, eT, hce, hsl⟩)
  dsimp only [Pt.U, Pt.locs, Pt.cells, Pt.slots] at X' l' y' z' st' hQ
  subst l' y' z'
  exact Go.on (fun t q => st'.trans q) (k v T' Lc X' hQ)
theorem c_static (B : Ctx p s m meth c Z own nm bytes maxL ret) (X : Stand p l e R s m args below meth c T locs cells slots) {y : MethodName} {bs : ByteArray} {mx : Nat} {rt : Option FieldType} {rm : Room} {i W : Nat} {argsL under : List Value} {Q : Option Value → Heap → List Loc → Prop} {st : List Value} (eT : T.heap = h) (w1 : (Jvm.Cond.methodLink own i y).before a0 Z = true) (w2 : (Jvm.Cond.static y).before a0 Z = true) (wc : (Jvm.Cond.code y bs mx rt).before a0 Z = true) (wz : (Jvm.Cond.initialized y.cls).before a0 Z = true) (hy : y.cls ≠ "java/lang/invoke/MethodHandle" ∧ y.cls ≠ "java/lang/invoke/VarHandle") (hM : OMeets l Z y bs mx rt [] rm argsL.toArray h Q) (hlen : ∀ sig, parseMethodDescriptor y.desc = some sig → argsL.length = sig.parameters.length) (hst : st = argsL.reverse ++ under) (hW : (under.map fun v => v.category).sum = W) (hf : rm.frames + 1 ≤ R.frames) (hlo : W + (mx + 11) + rm.locals ≤ R.locals) (hce : cells + rm.cells ≤ R.cells) (hsl : slots + rm.slots ≤ R.slots) (hsz : Ls.size = maxL) (hd : decode bytes pc = .ok (.invokestatic i, 3)) (hp : pc + 3 = pc') (k : ∀ v T' L, Stand p l e R s m args below meth c T' (locs ++ L) (cells + rm.cells) (slots + rm.slots) → Q v T'.heap L → Go p e below P (T'.setTop (mkF m pc' Ls (v.toList ++ under)))) : Go p e below P (T.setTop (mkF m pc Ls st)) := by
  subst hp hst
  obtain ⟨v, _, ⟨T', L', k', n'⟩, -, X', ⟨Lc, hQ, l', y', z'⟩, st'⟩ := Jvm.LawKit.callS X B.1 (y := y) B.2.2.2.1 (mvT B.2.2.2.2.2.2.2 w1) (mvT B.2.2.2.2.2.2.2 w2) (mvT B.2.2.2.2.2.2.2 wz) (mvT B.2.2.2.2.2.2.2 wc) hy (backOf (W := W) hM B.2.2.2.2.2.2.2 wc wz hf hlo) (g := mkF m pc Ls (argsL.reverse ++ under)) rfl (by rw [B.2.2.1]; exact hsz) (argsL := argsL) (rest := under) hlen rfl (by show 2 * 0 + _ ≤ _; rw [Nat.mul_zero, Nat.zero_add]; exact Nat.le_of_eq hW) (hb B.2.1 hd) (fun _ _ => ⟨rfl, eT, hce, hsl⟩)
  dsimp only [Pt.U, Pt.locs, Pt.cells, Pt.slots] at X' l' y' z' st' hQ
  subst l' y' z'
  exact Go.on st' (k v T' Lc X' hQ)
theorem c_init (B : Ctx p s m meth c Z own nm bytes maxL ret) (X : Stand p l e R s m args below meth c T locs cells slots) {y : MethodName} {bs : ByteArray} {mx : Nat} {rm : Room} {i W : Nat} {argsL under : List Value} {Q : Option Value → Heap → List Loc → Prop} {st : List Value} {b : Addr} (eT : T.heap = h) (hy1 : y.name = "<init>") (w1 : (Jvm.Cond.methodLink own i y).before a0 Z = true) (w2 : (Jvm.Cond.instanceMethod y).before a0 Z = true) (wc : (Jvm.Cond.code y bs mx none).before a0 Z = true) (wz : (Jvm.Cond.initialized y.cls).before a0 Z = true) (hy : y.cls ≠ "java/lang/invoke/MethodHandle" ∧ y.cls ≠ "java/lang/invoke/VarHandle") (hM : OMeets l Z y bs mx none [] rm (.ref b :: argsL).toArray h Q) (hlen : ∀ sig, parseMethodDescriptor y.desc = some sig → argsL.length = sig.parameters.length) (hst : st = argsL.reverse ++ .ref b :: under) (hW : (under.map fun v => v.category).sum = W) (hf : rm.frames + 1 ≤ R.frames) (hlo : W + (mx + 11) + rm.locals ≤ R.locals) (hce : cells + rm.cells ≤ R.cells) (hsl : slots + rm.slots ≤ R.slots) (hsz : Ls.size = maxL) (hd : decode bytes pc = .ok (.invokespecial i, 3)) (hp : pc + 3 = pc') (k : ∀ v T' L, Stand p l e R s m args below meth c T' (locs ++ L) (cells + rm.cells) (slots + rm.slots) → Q v T'.heap L → Go p e below P (T'.setTop (mkF m pc' Ls (v.toList ++ under)))) : Go p e below P (T.setTop (mkF m pc Ls st)) := by
  subst hp hst
  obtain ⟨v, _, ⟨T', L', k', n'⟩, -, X', ⟨Lc, hQ, l', y', z'⟩, st'⟩ := X.specialBack B.1 (y := y) hy1 B.2.2.2.1 (mvT B.2.2.2.2.2.2.2 w1) (mvT B.2.2.2.2.2.2.2 w2) (mvT B.2.2.2.2.2.2.2 wc) hy (backOf (W := W) hM B.2.2.2.2.2.2.2 wc wz hf hlo) (g := mkF m pc Ls (argsL.reverse ++ .ref b :: under)) rfl (by rw [B.2.2.1]; exact hsz) (Steps.refl _) (a := b) (argsL := argsL) (rest := under) hlen rfl (by show 2 * 0 + _ ≤ _; rw [Nat.mul_zero, Nat.zero_add]; exact Nat.le_of_eq hW) (hb B.2.1 hd) (fun _ _ => ⟨rfl, eT, hce, hsl⟩)
  dsimp only [Pt.U, Pt.locs, Pt.cells, Pt.slots] at X' l' y' z' st' hQ
  subst l' y' z'
  exact Go.on (fun t q => st'.trans q) (k v T' Lc X' hQ)
theorem p_virtual (B : Ctx p s m meth c Z own nm bytes maxL ret) (X : Stand p l e R s m args below meth c T locs cells slots) {y : MethodName} {bs : ByteArray} {mx : Nat} {rt : Option FieldType} {rm : Room} {i W : Nat} {argsL under : List Value} {st : List Value} {C : String} {b : Addr} {r : Option Value} (eT : T.heap = h) (w1 : (Jvm.Cond.methodLink own i y).before a0 Z = true) (w2 : (Jvm.Cond.declares y).before a0 Z = true) (w3 : (Jvm.Cond.selects C y y).before a0 Z = true) (w4 : (Jvm.Cond.instanceMethod y).before a0 Z = true) (wc : (Jvm.Cond.code y bs mx rt).before a0 Z = true) (wz : (Jvm.Cond.initialized y.cls).before a0 Z = true) (hy : y.cls ≠ "java/lang/invoke/MethodHandle" ∧ y.cls ≠ "java/lang/invoke/VarHandle") (hM : OMeets l Z y bs mx rt [] rm (.ref b :: argsL).toArray h (PureQ r h)) (E : Exa Z h b C) (hlen : ∀ sig, parseMethodDescriptor y.desc = some sig → argsL.length = sig.parameters.length) (hst : st = argsL.reverse ++ .ref b :: under) (hW : (under.map fun v => v.category).sum = W) (hf : rm.frames + 1 ≤ R.frames) (hlo : W + (mx + 11) + rm.locals ≤ R.locals) (hce : rm.cells = 0) (hsl : rm.slots = 0) (hc0 : cells ≤ R.cells) (hs0 : slots ≤ R.slots) (hsz : Ls.size = maxL) (hd : decode bytes pc = .ok (.invokevirtual i, 3)) (hp : pc + 3 = pc') (k : ∀ T', Stand p l e R s m args below meth c T' locs cells slots → T'.heap = h → Go p e below P (T'.setTop (mkF m pc' Ls (r.toList ++ under)))) : Go p e below P (T.setTop (mkF m pc Ls st)) := by
  refine c_virtual B X eT w1 w2 w3 w4 wc wz hy hM E hlen hst hW hf hlo (by omega) (by omega) hsz hd hp ?_
  intro v T' L X' hQ
  obtain ⟨rfl, rfl, e'⟩ := hQ
  rw [hce, hsl, List.append_nil] at X'
  exact k T' X' e'
theorem p_static (B : Ctx p s m meth c Z own nm bytes maxL ret) (X : Stand p l e R s m args below meth c T locs cells slots) {y : MethodName} {bs : ByteArray} {mx : Nat} {rt : Option FieldType} {rm : Room} {i W : Nat} {argsL under : List Value} {st : List Value}  {r : Option Value} (eT : T.heap = h) (w1 : (Jvm.Cond.methodLink own i y).before a0 Z = true) (w2 : (Jvm.Cond.static y).before a0 Z = true) (wc : (Jvm.Cond.code y bs mx rt).before a0 Z = true) (wz : (Jvm.Cond.initialized y.cls).before a0 Z = true) (hy : y.cls ≠ "java/lang/invoke/MethodHandle" ∧ y.cls ≠ "java/lang/invoke/VarHandle") (hM : OMeets l Z y bs mx rt [] rm argsL.toArray h (PureQ r h))  (hlen : ∀ sig, parseMethodDescriptor y.desc = some sig → argsL.length = sig.parameters.length) (hst : st = argsL.reverse ++ under) (hW : (under.map fun v => v.category).sum = W) (hf : rm.frames + 1 ≤ R.frames) (hlo : W + (mx + 11) + rm.locals ≤ R.locals) (hce : rm.cells = 0) (hsl : rm.slots = 0) (hc0 : cells ≤ R.cells) (hs0 : slots ≤ R.slots) (hsz : Ls.size = maxL) (hd : decode bytes pc = .ok (.invokestatic i, 3)) (hp : pc + 3 = pc') (k : ∀ T', Stand p l e R s m args below meth c T' locs cells slots → T'.heap = h → Go p e below P (T'.setTop (mkF m pc' Ls (r.toList ++ under)))) : Go p e below P (T.setTop (mkF m pc Ls st)) := by
  refine c_static B X eT w1 w2 wc wz hy hM hlen hst hW hf hlo (by omega) (by omega) hsz hd hp ?_
  intro v T' L X' hQ
  obtain ⟨rfl, rfl, e'⟩ := hQ
  rw [hce, hsl, List.append_nil] at X'
  exact k T' X' e'
theorem p_init (B : Ctx p s m meth c Z own nm bytes maxL ret) (X : Stand p l e R s m args below meth c T locs cells slots) {y : MethodName} {bs : ByteArray} {mx : Nat} {rm : Room} {i W : Nat} {argsL under : List Value} {st : List Value} {b : Addr} (eT : T.heap = h) (hy1 : y.name = "<init>") (w1 : (Jvm.Cond.methodLink own i y).before a0 Z = true) (w2 : (Jvm.Cond.instanceMethod y).before a0 Z = true) (wc : (Jvm.Cond.code y bs mx none).before a0 Z = true) (wz : (Jvm.Cond.initialized y.cls).before a0 Z = true) (hy : y.cls ≠ "java/lang/invoke/MethodHandle" ∧ y.cls ≠ "java/lang/invoke/VarHandle") (hM : OMeets l Z y bs mx none [] rm (.ref b :: argsL).toArray h (PureQ none h)) (hlen : ∀ sig, parseMethodDescriptor y.desc = some sig → argsL.length = sig.parameters.length) (hst : st = argsL.reverse ++ .ref b :: under) (hW : (under.map fun v => v.category).sum = W) (hf : rm.frames + 1 ≤ R.frames) (hlo : W + (mx + 11) + rm.locals ≤ R.locals) (hce : rm.cells = 0) (hsl : rm.slots = 0) (hc0 : cells ≤ R.cells) (hs0 : slots ≤ R.slots) (hsz : Ls.size = maxL) (hd : decode bytes pc = .ok (.invokespecial i, 3)) (hp : pc + 3 = pc') (k : ∀ T', Stand p l e R s m args below meth c T' locs cells slots → T'.heap = h → Go p e below P (T'.setTop (mkF m pc' Ls under))) : Go p e below P (T.setTop (mkF m pc Ls st)) := by
  refine c_init B X eT hy1 w1 w2 wc wz hy hM hlen hst hW hf hlo (by omega) (by omega) hsz hd hp ?_
  intro v T' L X' hQ
  obtain ⟨rfl, rfl, e'⟩ := hQ
  rw [hce, hsl, List.append_nil] at X'
  exact k T' X' e'
theorem c_virtualUp (B : Ctx p s m meth c Z own nm bytes maxL ret) (X : Stand p l e R s m args below meth c T locs cells slots) {y z : MethodName} {bs : ByteArray} {mx : Nat} {rt : Option FieldType} {rm : Room} {i W : Nat} {argsL under : List Value} {Q : Option Value → Heap → List Loc → Prop} {st : List Value} {C owner : String} {b : Addr} (eT : T.heap = h) (w1 : (Jvm.Cond.methodLink own i y).before a0 Z = true) (ws : (Jvm.Cond.sameMethod y.cls owner y.name y.desc).before a0 Z = true) (w2 : (Jvm.Cond.declares ⟨owner, y.name, y.desc⟩).before a0 Z = true) (w3 : (Jvm.Cond.selects C y z).before a0 Z = true) (w4 : (Jvm.Cond.instanceMethod z).before a0 Z = true) (wc : (Jvm.Cond.code z bs mx rt).before a0 Z = true) (wz : (Jvm.Cond.initialized z.cls).before a0 Z = true) (hy : owner ≠ "java/lang/invoke/MethodHandle" ∧ owner ≠ "java/lang/invoke/VarHandle") (hM : OMeets l Z z bs mx rt [] rm (.ref b :: argsL).toArray h Q) (E : Exa Z h b C) (hlen : ∀ sig, parseMethodDescriptor y.desc = some sig → argsL.length = sig.parameters.length) (hst : st = argsL.reverse ++ .ref b :: under) (hW : (under.map fun v => v.category).sum = W) (hf : rm.frames + 1 ≤ R.frames) (hlo : W + (mx + 11) + rm.locals ≤ R.locals) (hce : cells + rm.cells ≤ R.cells) (hsl : slots + rm.slots ≤ R.slots) (hsz : Ls.size = maxL) (hd : decode bytes pc = .ok (.invokevirtual i, 3)) (hp : pc + 3 = pc') (k : ∀ v T' L, Stand p l e R s m args below meth c T' (locs ++ L) (cells + rm.cells) (slots + rm.slots) → Q v T'.heap L → Go p e below P (T'.setTop (mkF m pc' Ls (v.toList ++ under)))) : Go p e below P (T.setTop (mkF m pc Ls st)) := by
  subst hp hst
  obtain ⟨cq, kq, qa, qb, qc⟩ := isOf B.2.2.2.2.2.2.2 eT E
  obtain ⟨v, _, ⟨T', L', k', n'⟩, -, X', ⟨Lc, hQ, l', y', z'⟩, st'⟩ := X.virtualBackUp B.1 (x := y) (y := z) B.2.2.2.1 (mvT B.2.2.2.2.2.2.2 w1) (mvT B.2.2.2.2.2.2.2 ws) (mvT B.2.2.2.2.2.2.2 w2) hy (mvT B.2.2.2.2.2.2.2 w3) (mvT B.2.2.2.2.2.2.2 w4) (backOf (W := W) hM B.2.2.2.2.2.2.2 wc wz hf hlo) qa qc (g := mkF m pc Ls (argsL.reverse ++ .ref b :: under)) rfl (by rw [B.2.2.1]; exact hsz) (Steps.refl _) (argsL := argsL) (rest := under) hlen rfl (by show 2 * 0 + _ ≤ _; rw [Nat.mul_zero, Nat.zero_add]; exact Nat.le_of_eq hW) (hb B.2.1 hd) (fun _ _ => ⟨rfl, eT, hce, hsl⟩)
  dsimp only [Pt.U, Pt.locs, Pt.cells, Pt.slots] at X' l' y' z' st' hQ
  subst l' y' z'
  exact Go.on (fun t q => st'.trans q) (k v T' Lc X' hQ)
theorem p_virtualUp (B : Ctx p s m meth c Z own nm bytes maxL ret) (X : Stand p l e R s m args below meth c T locs cells slots) {y z : MethodName} {bs : ByteArray} {mx : Nat} {rt : Option FieldType} {rm : Room} {i W : Nat} {argsL under : List Value} {st : List Value} {C owner : String} {b : Addr} {r : Option Value} (eT : T.heap = h) (w1 : (Jvm.Cond.methodLink own i y).before a0 Z = true) (ws : (Jvm.Cond.sameMethod y.cls owner y.name y.desc).before a0 Z = true) (w2 : (Jvm.Cond.declares ⟨owner, y.name, y.desc⟩).before a0 Z = true) (w3 : (Jvm.Cond.selects C y z).before a0 Z = true) (w4 : (Jvm.Cond.instanceMethod z).before a0 Z = true) (wc : (Jvm.Cond.code z bs mx rt).before a0 Z = true) (wz : (Jvm.Cond.initialized z.cls).before a0 Z = true) (hy : owner ≠ "java/lang/invoke/MethodHandle" ∧ owner ≠ "java/lang/invoke/VarHandle") (hM : OMeets l Z z bs mx rt [] rm (.ref b :: argsL).toArray h (PureQ r h)) (E : Exa Z h b C) (hlen : ∀ sig, parseMethodDescriptor y.desc = some sig → argsL.length = sig.parameters.length) (hst : st = argsL.reverse ++ .ref b :: under) (hW : (under.map fun v => v.category).sum = W) (hf : rm.frames + 1 ≤ R.frames) (hlo : W + (mx + 11) + rm.locals ≤ R.locals) (hce : rm.cells = 0) (hsl : rm.slots = 0) (hc0 : cells ≤ R.cells) (hs0 : slots ≤ R.slots) (hsz : Ls.size = maxL) (hd : decode bytes pc = .ok (.invokevirtual i, 3)) (hp : pc + 3 = pc') (k : ∀ T', Stand p l e R s m args below meth c T' locs cells slots → T'.heap = h → Go p e below P (T'.setTop (mkF m pc' Ls (r.toList ++ under)))) : Go p e below P (T.setTop (mkF m pc Ls st)) := by
  refine c_virtualUp B X eT w1 ws w2 w3 w4 wc wz hy hM E hlen hst hW hf hlo (by omega) (by omega) hsz hd hp ?_
  intro v T' L X' hQ
  obtain ⟨rfl, rfl, e'⟩ := hQ
  rw [hce, hsl, List.append_nil] at X'
  exact k T' X' e'
end Kit
end Jvm.OwnKit

namespace Jvm.OwnKit
open Sem ClassFile Op Lib Jvm.Stand Jvm.Free Jvm.LawKit Jvm.RoadKit
section Heap
variable {p : Program} {l : Launch} {e : Env} {R : Room} {s : State} {m : MethodId} {args : Array Value} {below : List Frame} {meth : Method} {c : Code} {T : State} {locs : List Loc} {cells slots : Nat} {Z : State} {a0 : Array Value} {h h' : Heap} {own nm : String} {bytes : ByteArray} {maxL : Nat} {ret : Option FieldType} {P : Outcome → State → Prop} {pc pc' : Nat} {Ls Ls' : Array Slot} {rest : List Value} {a b : Addr} {k : ClassId} {ty : FieldType} {n i : Nat} {f g : Nat → Value} {v w : Value} {sl : Nat} {ws : List Addr}
/-- an array at a: n places, place i holds f i -/
def Ary (Z : State) (h : Heap) (a : Addr) (k : ClassId) (ty : FieldType) (n : Nat) (f : Nat → Value) : Prop := ∃ c : Cell, Arr Z h a c ty ∧ c.cls = k ∧ c.slots.size = n ∧ n < 2 ^ 31 ∧ ∀ i, i < n → c.slots[i]? = some (f i)
def upd (f : Nat → Value) (j : Nat) (v : Value) : Nat → Value := fun i => if i = j then v else f i
def lst (L : List Value) (d : Value) : Nat → Value := fun i => L.getD i d
theorem Ary.lt (F : Ary Z h a k ty n f) : a < h.size := by obtain ⟨c, A, -⟩ := F; exact A.lt
theorem Ary.ext (E : Ext h h') (F : Ary Z h a k ty n f) : Ary Z h' a k ty n f := by obtain ⟨c, A, r⟩ := F; exact ⟨c, A.ext E, r⟩
theorem Ary.other (W : Wr h h' b sl v) (F : Ary Z h a k ty n f) (q : a ≠ b) : Ary Z h' a k ty n f := by obtain ⟨c, A, r⟩ := F; exact ⟨c, A.other W q, r⟩
theorem Ary.keep (F : Ary Z h a k ty n f) (K : Keep h h' ws) (q : a ∉ ws) : Ary Z h' a k ty n f := by obtain ⟨c, A, r⟩ := F; exact ⟨c, ⟨K.2.1 a c A.1 q, A.2⟩, r⟩
theorem Ary.congr (F : Ary Z h a k ty n f) (q : ∀ i, i < n → f i = g i) : Ary Z h a k ty n g := by obtain ⟨c, A, r1, r2, r3, r4⟩ := F; exact ⟨c, A, r1, r2, r3, fun i hi => by rw [r4 i hi, q i hi]⟩
theorem upd_lst {L : List Value} {d v : Value} {j : Nat} (hj : j < L.length) {L' : List Value} (e : L.set j v = L') : upd (lst L d) j v = lst L' d := by
  subst e; funext i
  simp only [upd, lst, List.getD_eq_getElem?_getD, List.getElem?_set]
  by_cases q : i = j
  · subst q; simp [hj]
  · simp [q, Ne.symm q]
theorem Ary.same {j : Nat} (W : Wr h h' a j v) (F : Ary Z h a k ty n f) : Ary Z h' a k ty n (upd f j v) := by
  obtain ⟨c, A, r1, r2, r3, r4⟩ := F
  obtain ⟨cell, w1, w2, w3, -⟩ := id W
  cases w1.symm.trans A.1
  refine ⟨_, A.same W, r1, by rw [sz_set]; exact r2, r3, fun i hi => ?_⟩
  by_cases q : i = j
  · subst q; simp [Cell.setSlot, upd, w3]
  · simp only [Cell.setSlot, upd, if_neg q]; rw [Array.getElem?_setIfInBounds_ne (Ne.symm q)]; exact r4 i hi
theorem Ary.of_new {x : Int32} {N : Nat} (A : Arr Z h a (newA k ty x) ty) (hx : ¬ x < 0) (hN : x.toNatClampNeg = N) : Ary Z h a k ty N (fun _ => defaultValue ty) := by
  subst hN
  refine ⟨_, A, rfl, sz_new _ _ _, (back32 hx).2, fun i hi => ?_⟩
  simp [newA, hi]
theorem Ary.of_rep (F : Ary Z h a k ty n (fun _ => v)) {L : List Value} (q : ∀ i, i < n → L.getD i v = v) : Ary Z h a k ty n (lst L v) := F.congr fun i hi => (q i hi).symm

theorem Ary.sto {C : String} {y : Addr} (F : Ary Z h a k ty n f) (O : Ovr Z k C) (I : Ins Z h y C true) : Sto Z h a (.ref y) := by obtain ⟨c, A, r, -⟩ := F; exact Sto.of A (r ▸ O) I
theorem Ary.full {L : List Value} {j : Nat} {L' : List Value} (F : Ary Z h a k ty n (upd (lst L w) j v)) (hj : j < L.length) (e : L.set j v = L') : Ary Z h a k ty n (lst L' w) := by rw [← upd_lst (d := w) hj e]; exact F
theorem Ary.stoA {C : String} {y : Addr} {t0 : FieldType} (F : Ary Z h a k ty n f) (O : OvrA Z k t0 C) (I : Ins Z h y C true) : Sto Z h a (.ref y) := by obtain ⟨c, A, r, -⟩ := F; exact Sto.ofVA A r O I
theorem old_le {n0 : Nat} (O : Old Z n0 h) : n0 ≤ h.size := O.1 ▸ O.2.1
theorem s_new (B : Ctx p s m meth c Z own nm bytes maxL ret) (X : Stand p l e R s m args below meth c T locs cells slots) {C : String} {i0 n0 : Nat} (eT : T.heap = h) (w : (Jvm.Cond.classLink own i0 C).before a0 Z = true) (wi : (Jvm.Cond.instantiable C n0).before a0 Z = true) (wz : (Jvm.Cond.initialized C).before a0 Z = true) (hc : cells + 1 ≤ R.cells) (hl : slots + n0 ≤ R.slots) (hd : decode bytes pc = .ok (.new i0, 3)) (hp : pc + 3 = pc') (k : ∀ T' h' a, a = h.size → Stand p l e R s m args below meth c T' locs (cells + 1) (slots + n0) → T'.heap = h' → Ext h h' → Exa Z h' a C → (∀ {O nm d : String} {ty : FieldType}, Laid Z a0 C O nm d → parseFieldDescriptor d = some ty → Fld Z h' a O nm d (defaultValue ty)) → Go p e below P (T'.setTop (mkF m pc' Ls (.ref a :: rest)))) : Go p e below P (T.setTop (mkF m pc Ls (rest))) := by
  subst hp
  obtain ⟨T', h', X', e', E, A, D, -, st⟩ := newO X B.1 B.2.2.2.2.2.2.2 B.2.2.2.1 w wi wz eT (g := mkF m pc Ls rest) rfl (hb B.2.1 hd) hc hl
  exact Go.on st (k T' h' _ rfl X' e' E A D)
theorem s_initO (B : Ctx p s m meth c Z own nm bytes maxL ret) (X : Stand p l e R s m args below meth c T locs cells slots) {i0 W : Nat} {a : Addr} (eT : T.heap = h) (w1 : (Jvm.Cond.methodLink own i0 Lib.objectInit).before a0 Z = true) (w2 : (Jvm.Cond.instanceMethod Lib.objectInit).before a0 Z = true) (w3 : (Jvm.Cond.code Lib.objectInit ⟨#[0xb1]⟩ 1 none).before a0 Z = true) (hW : (rest.map fun v => v.category).sum = W) (hf : 1 ≤ R.frames) (hl : W + 12 ≤ R.locals) (hsz : Ls.size = maxL) (hd : decode bytes pc = .ok (.invokespecial i0, 3)) (hp : pc + 3 = pc') (k : ∀ T', Stand p l e R s m args below meth c T' locs cells slots → T'.heap = h → Go p e below P (T'.setTop (mkF m pc' Ls (rest)))) : Go p e below P (T.setTop (mkF m pc Ls (.ref a :: rest))) := by
  subst hp
  obtain ⟨T', X', e', st⟩ := initO X B.1 B.2.2.2.2.2.2.2 B.2.2.2.1 w1 w2 w3 eT (g := mkF m pc Ls (.ref a :: rest)) rfl (by rw [B.2.2.1]; exact hsz) rfl (hb B.2.1 hd) hf (W := W) (by show 2 * 0 + _ ≤ _; rw [Nat.mul_zero, Nat.zero_add]; exact Nat.le_of_eq hW) hl
  exact Go.on st (k T' X' e')
theorem s_putF (B : Ctx p s m meth c Z own nm bytes maxL ret) (X : Stand p l e R s m args below meth c T locs cells slots) {i0 kk : Nat} {R0 O n d host C : String} {ty : FieldType} {a : Addr} {v old : Value} (eT : T.heap = h) (w : (Jvm.Cond.fieldLink own i0 R0 n d).before a0 Z = true ∨ (Jvm.Cond.fieldLinkNest own i0 R0 n d host).before a0 Z = true) (via : Via Z R0 O n d) (F : Fld Z h a O n d old) (E : Exa Z h a C) (L : (Jvm.Cond.lays C O n d).before a0 Z = true ∨ ((Jvm.Cond.laysFinal C O n d).before a0 Z = true ∧ own = O ∧ nm = "<init>")) (wi : (Jvm.Cond.instantiable C kk).before a0 Z = true) (hty : parseFieldDescriptor d = some ty) (hn : narrow ty v = v) (hf : fits ty v = true) (hd : decode bytes pc = .ok (.putfield i0, 3)) (hp : pc + 3 = pc') (k : ∀ T' h', Stand p l e R s m args below meth c T' (locs ++ [⟨a, Jvm.RoadKit.slotOf Z O n d⟩]) cells slots → T'.heap = h' → Wr h h' a (Jvm.RoadKit.slotOf Z O n d) v → Go p e below P (T'.setTop (mkF m pc' Ls (rest)))) : Go p e below P (T.setTop (mkF m pc Ls (v :: .ref a :: rest))) := by
  subst hp
  obtain ⟨T', h', X', e', W, st⟩ := putF X B.1 B.2.2.2.2.2.2.2 B.2.2.2.1 w via eT F E (L.imp id fun q => ⟨q.1, q.2.1, by rw [B.2.2.2.2.1]; exact q.2.2⟩) wi hty hn hf (g := mkF m pc Ls (v :: .ref a :: rest)) rfl rfl (hb B.2.1 hd)
  exact Go.on st (k T' h' X' e' W)
theorem s_putFN (B : Ctx p s m meth c Z own nm bytes maxL ret) (X : Stand p l e R s m args below meth c T locs cells slots) {i0 kk : Nat} {R0 O n d C : String} {ty : FieldType} {a : Addr} {v v' old : Value} (eT : T.heap = h) (w : (Jvm.Cond.fieldLink own i0 R0 n d).before a0 Z = true) (via : Via Z R0 O n d) (F : Fld Z h a O n d old) (E : Exa Z h a C) (L : (Jvm.Cond.lays C O n d).before a0 Z = true ∨ ((Jvm.Cond.laysFinal C O n d).before a0 Z = true ∧ own = O ∧ nm = "<init>")) (wi : (Jvm.Cond.instantiable C kk).before a0 Z = true) (hty : parseFieldDescriptor d = some ty) (hn : narrow ty v = v') (hf : fits ty v' = true) (hd : decode bytes pc = .ok (.putfield i0, 3)) (hp : pc + 3 = pc') (k : ∀ T' h', Stand p l e R s m args below meth c T' (locs ++ [⟨a, Jvm.RoadKit.slotOf Z O n d⟩]) cells slots → T'.heap = h' → Wr h h' a (Jvm.RoadKit.slotOf Z O n d) v' → Go p e below P (T'.setTop (mkF m pc' Ls (rest)))) : Go p e below P (T.setTop (mkF m pc Ls (v :: .ref a :: rest))) := by
  subst hp
  obtain ⟨T', h', X', e', W, st⟩ := putFN X B.1 B.2.2.2.2.2.2.2 B.2.2.2.1 w via eT F E (L.imp id fun q => ⟨q.1, q.2.1, by rw [B.2.2.2.2.1]; exact q.2.2⟩) wi hty hn hf (g := mkF m pc Ls (v :: .ref a :: rest)) rfl rfl (hb B.2.1 hd)
  exact Go.on st (k T' h' X' e' W)
theorem s_newP (B : Ctx p s m meth c Z own nm bytes maxL ret) (X : Stand p l e R s m args below meth c T locs cells slots) {aty : ArrayType} {x : Int32} {N : Nat} (eT : T.heap = h) (w : (Jvm.Cond.arrayClass (newarray.typeOf aty)).before a0 Z = true) (hn : ¬ x < 0) (hN : x.toNatClampNeg = N) {cap : Nat} (hcap : N ≤ cap) (hb8 : cap * 8 ≤ 536870912) (hc : cells + 1 ≤ R.cells) (hl : slots + cap ≤ R.slots) (hd : decode bytes pc = .ok (.newarray aty, 2)) (hp : pc + 2 = pc') (k : ∀ T' h' a kA, a = h.size → Stand p l e R s m args below meth c T' locs (cells + 1) (slots + cap) → T'.heap = h' → Ext h h' → Ary Z h' a kA (newarray.typeOf aty) N (fun _ => defaultValue (newarray.typeOf aty)) → Go p e below P (T'.setTop (mkF m pc' Ls (.ref a :: rest)))) : Go p e below P (T.setTop (mkF m pc Ls (.int x :: rest))) := by
  subst hp
  obtain ⟨T', h', cA, X', e', E, A, st⟩ := newP X B.1 B.2.2.2.2.2.2.2 w eT (g := mkF m pc Ls (.int x :: rest)) rfl (hb B.2.1 hd) rfl hn (cap := cap) (hN ▸ hcap) hb8 hc hl
  exact Go.on st (k T' h' _ cA rfl X' e' E (Ary.of_new A hn hN))
theorem s_newR (B : Ctx p s m meth c Z own nm bytes maxL ret) (X : Stand p l e R s m args below meth c T locs cells slots) {i0 : Nat} {C : String} {x : Int32} {N : Nat} (eT : T.heap = h) (w1 : (Jvm.Cond.classLink own i0 C).before a0 Z = true) (w2 : (Jvm.Cond.arrayOver (.object C)).before a0 Z = true) (hn : ¬ x < 0) (hN : x.toNatClampNeg = N) {cap : Nat} (hcap : N ≤ cap) (hb8 : cap * 8 ≤ 536870912) (hc : cells + 1 ≤ R.cells) (hl : slots + cap ≤ R.slots) (hd : decode bytes pc = .ok (.anewarray i0, 3)) (hp : pc + 3 = pc') (k : ∀ T' h' a kA, a = h.size → Stand p l e R s m args below meth c T' locs (cells + 1) (slots + cap) → T'.heap = h' → Ext h h' → Ary Z h' a kA (.object C) N (fun _ => .null) → Ovr Z kA C → Go p e below P (T'.setTop (mkF m pc' Ls (.ref a :: rest)))) : Go p e below P (T.setTop (mkF m pc Ls (.int x :: rest))) := by
  subst hp
  obtain ⟨T', h', cA, X', e', E, A, O, st⟩ := newR X B.1 B.2.2.2.2.2.2.2 B.2.2.2.1 w1 w2 eT (g := mkF m pc Ls (.int x :: rest)) rfl (hb B.2.1 hd) rfl hn (cap := cap) (hN ▸ hcap) hb8 hc hl
  exact Go.on st (k T' h' _ cA rfl X' e' E (Ary.of_new A hn hN) O)
theorem s_newRA (B : Ctx p s m meth c Z own nm bytes maxL ret) (X : Stand p l e R s m args below meth c T locs cells slots) {i0 : Nat} {C : String} {ty : FieldType} {x : Int32} {N : Nat} (eT : T.heap = h) (hC : (FieldType.array ty).toString = C) (w1 : (Jvm.Cond.classLink own i0 C).before a0 Z = true) (w2 : (Jvm.Cond.arrayOver (.array ty)).before a0 Z = true) (hn : ¬ x < 0) (hN : x.toNatClampNeg = N) {cap : Nat} (hcap : N ≤ cap) (hb8 : cap * 8 ≤ 536870912) (hc : cells + 1 ≤ R.cells) (hl : slots + cap ≤ R.slots) (hd : decode bytes pc = .ok (.anewarray i0, 3)) (hp : pc + 3 = pc') (k : ∀ T' h' a kA, a = h.size → Stand p l e R s m args below meth c T' locs (cells + 1) (slots + cap) → T'.heap = h' → Ext h h' → Ary Z h' a kA (.array ty) N (fun _ => .null) → OvrA Z kA ty C → Go p e below P (T'.setTop (mkF m pc' Ls (.ref a :: rest)))) : Go p e below P (T.setTop (mkF m pc Ls (.int x :: rest))) := by
  subst hp
  obtain ⟨T', h', cA, X', e', E, A, -, O, st⟩ := newRA X B.1 B.2.2.2.2.2.2.2 B.2.2.2.1 hC w1 w2 eT (g := mkF m pc Ls (.int x :: rest)) rfl (hb B.2.1 hd) rfl hn (cap := cap) (hN ▸ hcap) hb8 hc hl rfl
  exact Go.on st (k T' h' _ cA rfl X' e' E (Ary.of_new A hn hN) O)
theorem s_stI (B : Ctx p s m meth c Z own nm bytes maxL ret) (X : Stand p l e R s m args below meth c T locs cells slots) {a : Addr} {x : Int32} {j : Int32} {jn N : Nat} {f : Nat → Value} {kA : ClassId} (eT : T.heap = h) (A : Ary Z h a kA .int N f) (hj : ¬ j < 0) (hjn : j.toNatClampNeg = jn) (hlt : jn < N) (hd : decode bytes pc = .ok (.iastore, 1)) (hp : pc + 1 = pc') (k : ∀ T' h', Stand p l e R s m args below meth c T' (locs ++ [⟨a, jn⟩]) cells slots → T'.heap = h' → Wr h h' a jn (.int x) → Ary Z h' a kA .int N (upd f jn (.int x)) → Go p e below P (T'.setTop (mkF m pc' Ls (rest)))) : Go p e below P (T.setTop (mkF m pc Ls (.int x :: .int j :: .ref a :: rest))) := by
  subst hp
  subst hjn
  obtain ⟨cl, A1, q1, q2, q3, q4⟩ := id A
  obtain ⟨T', h', X', e', W, st⟩ := stI X B.1 B.2.2.2.2.2.2.2 eT A1 (j := j) (by rw [q2]; intro z; rcases z with z | z; exact hj z; omega) (g := mkF m pc Ls (.int x :: .int j :: .ref a :: rest)) rfl rfl (hb B.2.1 hd)
  exact Go.on st (k T' h' X' e' W (A.same W))
theorem s_stJ (B : Ctx p s m meth c Z own nm bytes maxL ret) (X : Stand p l e R s m args below meth c T locs cells slots) {a : Addr} {x : Int64} {j : Int32} {jn N : Nat} {f : Nat → Value} {kA : ClassId} (eT : T.heap = h) (A : Ary Z h a kA .long N f) (hj : ¬ j < 0) (hjn : j.toNatClampNeg = jn) (hlt : jn < N) (hd : decode bytes pc = .ok (.lastore, 1)) (hp : pc + 1 = pc') (k : ∀ T' h', Stand p l e R s m args below meth c T' (locs ++ [⟨a, jn⟩]) cells slots → T'.heap = h' → Wr h h' a jn (.long x) → Ary Z h' a kA .long N (upd f jn (.long x)) → Go p e below P (T'.setTop (mkF m pc' Ls (rest)))) : Go p e below P (T.setTop (mkF m pc Ls (.long x :: .int j :: .ref a :: rest))) := by
  subst hp
  subst hjn
  obtain ⟨cl, A1, q1, q2, q3, q4⟩ := id A
  obtain ⟨T', h', X', e', W, st⟩ := stJ X B.1 B.2.2.2.2.2.2.2 eT A1 (j := j) (by rw [q2]; intro z; rcases z with z | z; exact hj z; omega) (g := mkF m pc Ls (.long x :: .int j :: .ref a :: rest)) rfl rfl (hb B.2.1 hd)
  exact Go.on st (k T' h' X' e' W (A.same W))
theorem s_stB (B : Ctx p s m meth c Z own nm bytes maxL ret) (X : Stand p l e R s m args below meth c T locs cells slots) {a : Addr} {x : Int32} {j : Int32} {jn N : Nat} {f : Nat → Value} {kA : ClassId} (eT : T.heap = h) (A : Ary Z h a kA .byte N f) (hj : ¬ j < 0) (hjn : j.toNatClampNeg = jn) (hlt : jn < N) (hd : decode bytes pc = .ok (.bastore, 1)) (hp : pc + 1 = pc') (k : ∀ T' h', Stand p l e R s m args below meth c T' (locs ++ [⟨a, jn⟩]) cells slots → T'.heap = h' → Wr h h' a jn (.int (nar .byte x)) → Ary Z h' a kA .byte N (upd f jn (.int (nar .byte x))) → Go p e below P (T'.setTop (mkF m pc' Ls (rest)))) : Go p e below P (T.setTop (mkF m pc Ls (.int x :: .int j :: .ref a :: rest))) := by
  subst hp
  subst hjn
  obtain ⟨cl, A1, q1, q2, q3, q4⟩ := id A
  obtain ⟨T', h', X', e', W, st⟩ := stB X B.1 B.2.2.2.2.2.2.2 eT A1 (j := j) (by rw [q2]; intro z; rcases z with z | z; exact hj z; omega) (g := mkF m pc Ls (.int x :: .int j :: .ref a :: rest)) rfl rfl (hb B.2.1 hd)
  exact Go.on st (k T' h' X' e' W (A.same W))
theorem s_stZ (B : Ctx p s m meth c Z own nm bytes maxL ret) (X : Stand p l e R s m args below meth c T locs cells slots) {a : Addr} {x : Int32} {j : Int32} {jn N : Nat} {f : Nat → Value} {kA : ClassId} (eT : T.heap = h) (A : Ary Z h a kA .boolean N f) (hj : ¬ j < 0) (hjn : j.toNatClampNeg = jn) (hlt : jn < N) (hd : decode bytes pc = .ok (.bastore, 1)) (hp : pc + 1 = pc') (k : ∀ T' h', Stand p l e R s m args below meth c T' (locs ++ [⟨a, jn⟩]) cells slots → T'.heap = h' → Wr h h' a jn (.int (nar .boolean x)) → Ary Z h' a kA .boolean N (upd f jn (.int (nar .boolean x))) → Go p e below P (T'.setTop (mkF m pc' Ls (rest)))) : Go p e below P (T.setTop (mkF m pc Ls (.int x :: .int j :: .ref a :: rest))) := by
  subst hp
  subst hjn
  obtain ⟨cl, A1, q1, q2, q3, q4⟩ := id A
  obtain ⟨T', h', X', e', W, st⟩ := stZ X B.1 B.2.2.2.2.2.2.2 eT A1 (j := j) (by rw [q2]; intro z; rcases z with z | z; exact hj z; omega) (g := mkF m pc Ls (.int x :: .int j :: .ref a :: rest)) rfl rfl (hb B.2.1 hd)
  exact Go.on st (k T' h' X' e' W (A.same W))
theorem s_stC (B : Ctx p s m meth c Z own nm bytes maxL ret) (X : Stand p l e R s m args below meth c T locs cells slots) {a : Addr} {x : Int32} {j : Int32} {jn N : Nat} {f : Nat → Value} {kA : ClassId} (eT : T.heap = h) (A : Ary Z h a kA .char N f) (hj : ¬ j < 0) (hjn : j.toNatClampNeg = jn) (hlt : jn < N) (hd : decode bytes pc = .ok (.castore, 1)) (hp : pc + 1 = pc') (k : ∀ T' h', Stand p l e R s m args below meth c T' (locs ++ [⟨a, jn⟩]) cells slots → T'.heap = h' → Wr h h' a jn (.int (nar .char x)) → Ary Z h' a kA .char N (upd f jn (.int (nar .char x))) → Go p e below P (T'.setTop (mkF m pc' Ls (rest)))) : Go p e below P (T.setTop (mkF m pc Ls (.int x :: .int j :: .ref a :: rest))) := by
  subst hp
  subst hjn
  obtain ⟨cl, A1, q1, q2, q3, q4⟩ := id A
  obtain ⟨T', h', X', e', W, st⟩ := stC X B.1 B.2.2.2.2.2.2.2 eT A1 (j := j) (by rw [q2]; intro z; rcases z with z | z; exact hj z; omega) (g := mkF m pc Ls (.int x :: .int j :: .ref a :: rest)) rfl rfl (hb B.2.1 hd)
  exact Go.on st (k T' h' X' e' W (A.same W))
theorem s_stR (B : Ctx p s m meth c Z own nm bytes maxL ret) (X : Stand p l e R s m args below meth c T locs cells slots) {a : Addr} {v : Value} {ty : FieldType} {j : Int32} {jn N : Nat} {f : Nat → Value} {kA : ClassId} (eT : T.heap = h) (A : Ary Z h a kA ty N f) (hty : ty.isReference = true) (S : Sto Z h a v) (hj : ¬ j < 0) (hjn : j.toNatClampNeg = jn) (hlt : jn < N) (hd : decode bytes pc = .ok (.aastore, 1)) (hp : pc + 1 = pc') (k : ∀ T' h', Stand p l e R s m args below meth c T' (locs ++ [⟨a, jn⟩]) cells slots → T'.heap = h' → Wr h h' a jn v → Ary Z h' a kA ty N (upd f jn v) → Go p e below P (T'.setTop (mkF m pc' Ls (rest)))) : Go p e below P (T.setTop (mkF m pc Ls (v :: .int j :: .ref a :: rest))) := by
  subst hp
  subst hjn
  obtain ⟨cl, A1, q1, q2, q3, q4⟩ := id A
  obtain ⟨T', h', X', e', W, st⟩ := stR X B.1 B.2.2.2.2.2.2.2 eT A1 (j := j) (by rw [q2]; intro z; rcases z with z | z; exact hj z; omega) hty S (g := mkF m pc Ls (v :: .int j :: .ref a :: rest)) rfl rfl (hb B.2.1 hd)
  exact Go.on st (k T' h' X' e' W (A.same W))
theorem s_ldI (B : Ctx p s m meth c Z own nm bytes maxL ret) (X : Stand p l e R s m args below meth c T locs cells slots) {a : Addr} {v : Value} {j : Int32} {jn N : Nat} {f : Nat → Value} {kA : ClassId} (eT : T.heap = h) (A : Ary Z h a kA .int N f) (hj : ¬ j < 0) (hjn : j.toNatClampNeg = jn) (hlt : jn < N) (hv : f jn = v) (hd : decode bytes pc = .ok (.iaload, 1)) (hp : pc + 1 = pc') (k : Go p e below P (T.setTop (mkF m pc' Ls (v :: rest)))) : Go p e below P (T.setTop (mkF m pc Ls (.int j :: .ref a :: rest))) := by
  subst hp hjn hv
  obtain ⟨cl, A1, q1, q2, q3, q4⟩ := A
  exact Go.on (X.iaload B.1 (j := j) (by rw [eT]; exact A1.1) (State.isArrayOf_alike B.2.2.2.2.2.2.2.alike A1.2.1) A1.2.2 (by rw [q2]; intro z; rcases z with z | z; exact hj z; omega) (q4 _ hlt) (g := mkF m pc Ls (.int j :: .ref a :: rest)) rfl rfl (hb B.2.1 hd)) k
theorem s_ldJ (B : Ctx p s m meth c Z own nm bytes maxL ret) (X : Stand p l e R s m args below meth c T locs cells slots) {a : Addr} {v : Value} {j : Int32} {jn N : Nat} {f : Nat → Value} {kA : ClassId} (eT : T.heap = h) (A : Ary Z h a kA .long N f) (hj : ¬ j < 0) (hjn : j.toNatClampNeg = jn) (hlt : jn < N) (hv : f jn = v) (hd : decode bytes pc = .ok (.laload, 1)) (hp : pc + 1 = pc') (k : Go p e below P (T.setTop (mkF m pc' Ls (v :: rest)))) : Go p e below P (T.setTop (mkF m pc Ls (.int j :: .ref a :: rest))) := by
  subst hp hjn hv
  obtain ⟨cl, A1, q1, q2, q3, q4⟩ := A
  exact Go.on (X.laload B.1 (j := j) (by rw [eT]; exact A1.1) (State.isArrayOf_alike B.2.2.2.2.2.2.2.alike A1.2.1) A1.2.2 (by rw [q2]; intro z; rcases z with z | z; exact hj z; omega) (q4 _ hlt) (g := mkF m pc Ls (.int j :: .ref a :: rest)) rfl rfl (hb B.2.1 hd)) k
theorem s_ldB (B : Ctx p s m meth c Z own nm bytes maxL ret) (X : Stand p l e R s m args below meth c T locs cells slots) {a : Addr} {v : Value} {j : Int32} {jn N : Nat} {f : Nat → Value} {kA : ClassId} (eT : T.heap = h) (A : Ary Z h a kA .byte N f) (hj : ¬ j < 0) (hjn : j.toNatClampNeg = jn) (hlt : jn < N) (hv : f jn = v) (hd : decode bytes pc = .ok (.baload, 1)) (hp : pc + 1 = pc') (k : Go p e below P (T.setTop (mkF m pc' Ls (v :: rest)))) : Go p e below P (T.setTop (mkF m pc Ls (.int j :: .ref a :: rest))) := by
  subst hp hjn hv
  obtain ⟨cl, A1, q1, q2, q3, q4⟩ := A
  exact Go.on (X.baloadBytes B.1 (j := j) (by rw [eT]; exact A1.1) (State.isArrayOf_alike B.2.2.2.2.2.2.2.alike A1.2.1) A1.2.2 (by rw [q2]; intro z; rcases z with z | z; exact hj z; omega) (q4 _ hlt) (g := mkF m pc Ls (.int j :: .ref a :: rest)) rfl rfl (hb B.2.1 hd)) k
theorem s_ldZ (B : Ctx p s m meth c Z own nm bytes maxL ret) (X : Stand p l e R s m args below meth c T locs cells slots) {a : Addr} {v : Value} {j : Int32} {jn N : Nat} {f : Nat → Value} {kA : ClassId} (eT : T.heap = h) (A : Ary Z h a kA .boolean N f) (hj : ¬ j < 0) (hjn : j.toNatClampNeg = jn) (hlt : jn < N) (hv : f jn = v) (hd : decode bytes pc = .ok (.baload, 1)) (hp : pc + 1 = pc') (k : Go p e below P (T.setTop (mkF m pc' Ls (v :: rest)))) : Go p e below P (T.setTop (mkF m pc Ls (.int j :: .ref a :: rest))) := by
  subst hp hjn hv
  obtain ⟨cl, A1, q1, q2, q3, q4⟩ := A
  exact Go.on (X.baloadBooleans B.1 (j := j) (by rw [eT]; exact A1.1) (State.isArrayOf_alike B.2.2.2.2.2.2.2.alike A1.2.1) A1.2.2 (by rw [q2]; intro z; rcases z with z | z; exact hj z; omega) (q4 _ hlt) (g := mkF m pc Ls (.int j :: .ref a :: rest)) rfl rfl (hb B.2.1 hd)) k
theorem s_ldC (B : Ctx p s m meth c Z own nm bytes maxL ret) (X : Stand p l e R s m args below meth c T locs cells slots) {a : Addr} {v : Value} {j : Int32} {jn N : Nat} {f : Nat → Value} {kA : ClassId} (eT : T.heap = h) (A : Ary Z h a kA .char N f) (hj : ¬ j < 0) (hjn : j.toNatClampNeg = jn) (hlt : jn < N) (hv : f jn = v) (hd : decode bytes pc = .ok (.caload, 1)) (hp : pc + 1 = pc') (k : Go p e below P (T.setTop (mkF m pc' Ls (v :: rest)))) : Go p e below P (T.setTop (mkF m pc Ls (.int j :: .ref a :: rest))) := by
  subst hp hjn hv
  obtain ⟨cl, A1, q1, q2, q3, q4⟩ := A
  exact Go.on (X.caload B.1 (j := j) (by rw [eT]; exact A1.1) (State.isArrayOf_alike B.2.2.2.2.2.2.2.alike A1.2.1) A1.2.2 (by rw [q2]; intro z; rcases z with z | z; exact hj z; omega) (q4 _ hlt) (g := mkF m pc Ls (.int j :: .ref a :: rest)) rfl rfl (hb B.2.1 hd)) k
theorem s_ldR (B : Ctx p s m meth c Z own nm bytes maxL ret) (X : Stand p l e R s m args below meth c T locs cells slots) {a : Addr} {v : Value} {ty : FieldType} {j : Int32} {jn N : Nat} {f : Nat → Value} {kA : ClassId} (eT : T.heap = h) (A : Ary Z h a kA ty N f) (hty : ty.isReference = true) (hj : ¬ j < 0) (hjn : j.toNatClampNeg = jn) (hlt : jn < N) (hv : f jn = v) (hd : decode bytes pc = .ok (.aaload, 1)) (hp : pc + 1 = pc') (k : Go p e below P (T.setTop (mkF m pc' Ls (v :: rest)))) : Go p e below P (T.setTop (mkF m pc Ls (.int j :: .ref a :: rest))) := by
  subst hp hjn hv
  obtain ⟨cl, A1, q1, q2, q3, q4⟩ := A
  exact Go.on (X.aaload B.1 (j := j) (by rw [eT]; exact A1.1) (State.isArrayOf_alike B.2.2.2.2.2.2.2.alike A1.2.1) hty A1.2.2 (by rw [q2]; intro z; rcases z with z | z; exact hj z; omega) (q4 _ hlt) (g := mkF m pc Ls (.int j :: .ref a :: rest)) rfl rfl (hb B.2.1 hd)) k
theorem s_len (B : Ctx p s m meth c Z own nm bytes maxL ret) (X : Stand p l e R s m args below meth c T locs cells slots) {a : Addr} {v : Int32} {ty : FieldType} {N : Nat} {f : Nat → Value} {kA : ClassId} (eT : T.heap = h) (A : Ary Z h a kA ty N f) (hv : N.toInt32 = v) (hd : decode bytes pc = .ok (.arraylength, 1)) (hp : pc + 1 = pc') (k : Go p e below P (T.setTop (mkF m pc' Ls (.int v :: rest)))) : Go p e below P (T.setTop (mkF m pc Ls (.ref a :: rest))) := by
  subst hp hv
  obtain ⟨cl, A1, q1, q2, q3, q4⟩ := A
  subst q2
  exact Go.on (X.arraylength B.1 (by rw [eT]; exact A1.1) (State.isArrayOf_alike B.2.2.2.2.2.2.2.alike A1.2.1) (g := mkF m pc Ls (.ref a :: rest)) rfl rfl (hb B.2.1 hd)) k
theorem s_castY (B : Ctx p s m meth c Z own nm bytes maxL ret) (X : Stand p l e R s m args below meth c T locs cells slots) {i0 : Nat} {K : String} {a : Addr} (eT : T.heap = h) (w : (Jvm.Cond.classLink own i0 K).before a0 Z = true) (F : Ins Z h a K true) (hd : decode bytes pc = .ok (.checkcast i0, 3)) (hp : pc + 3 = pc') (k : ∀ T', Stand p l e R s m args below meth c T' locs cells slots → T'.heap = h → Go p e below P (T'.setTop (mkF m pc' Ls (.ref a :: rest)))) : Go p e below P (T.setTop (mkF m pc Ls (.ref a :: rest))) := by
  subst hp
  obtain ⟨T', X', e', st⟩ := castY X B.1 B.2.2.2.2.2.2.2 B.2.2.2.1 w eT F (g := mkF m pc Ls (.ref a :: rest)) rfl rfl (hb B.2.1 hd)
  exact Go.on st (k T' X' e')
theorem s_instY (B : Ctx p s m meth c Z own nm bytes maxL ret) (X : Stand p l e R s m args below meth c T locs cells slots) {i0 : Nat} {K : String} {a : Addr} (eT : T.heap = h) (w : (Jvm.Cond.classLink own i0 K).before a0 Z = true) (F : Ins Z h a K true) (hd : decode bytes pc = .ok (.instanceof i0, 3)) (hp : pc + 3 = pc') (k : ∀ T', Stand p l e R s m args below meth c T' locs cells slots → T'.heap = h → Go p e below P (T'.setTop (mkF m pc' Ls (.int 1 :: rest)))) : Go p e below P (T.setTop (mkF m pc Ls (.ref a :: rest))) := by
  subst hp
  obtain ⟨T', X', e', st⟩ := instY X B.1 B.2.2.2.2.2.2.2 B.2.2.2.1 w eT F (g := mkF m pc Ls (.ref a :: rest)) rfl rfl (hb B.2.1 hd)
  exact Go.on st (k T' X' e')
theorem s_tswIn (B : Ctx p s m meth c Z own nm bytes maxL ret) (X : Stand p l e R s m args below meth c T locs cells slots) {df lo hi : Int} {offs : Array Int} {len : Nat} {o : Int} {x : Int32} (hd : decode bytes pc = .ok (.tableswitch df lo hi offs, len)) (hin : ¬ (x.toInt < lo ∨ x.toInt > hi)) (hoff : offs[(x.toInt - lo).toNat]? = some o) (ho : 0 ≤ (pc : Int) + o) (hp : ((pc : Int) + o).toNat = pc') (k : Go p e below P (T.setTop (mkF m pc' Ls (rest)))) : Go p e below P (T.setTop (mkF m pc Ls (.int x :: rest))) := Go.on (fun t => XS.tswIn (g := mkF m pc Ls (.int x :: rest)) X.here B.1 rfl (pc0 := pc) rfl (hb B.2.1 hd) (i := x) (rest := rest) rfl hin hoff ho hp) k
theorem s_tswOut (B : Ctx p s m meth c Z own nm bytes maxL ret) (X : Stand p l e R s m args below meth c T locs cells slots) {df lo hi : Int} {offs : Array Int} {len : Nat} {x : Int32} (hd : decode bytes pc = .ok (.tableswitch df lo hi offs, len)) (hout : x.toInt < lo ∨ x.toInt > hi) (ho : 0 ≤ (pc : Int) + df) (hp : ((pc : Int) + df).toNat = pc') (k : Go p e below P (T.setTop (mkF m pc' Ls (rest)))) : Go p e below P (T.setTop (mkF m pc Ls (.int x :: rest))) := Go.on (fun t => XS.tswOut (g := mkF m pc Ls (.int x :: rest)) X.here B.1 rfl (pc0 := pc) rfl (hb B.2.1 hd) (i := x) (rest := rest) rfl hout ho hp) k
end Heap
end Jvm.OwnKit

namespace Jvm.OwnKit
open Sem ClassFile Op Lib Jvm.Stand Jvm.Free Jvm.LawKit Jvm.RoadKit
section Start
variable {args : Array Value} {s : State} {t u : Term}
theorem eqI_v {k : Int32} (h : (Jvm.Cond.eq t (.int k)).value args s none s [] = some true) : t.eval args s none [] s = some (.int k) := by
  cases ht : t.eval args s none [] s with
  | none => simp [Cond.value, ht] at h
  | some x => cases x <;> simp [Cond.value, ht, Term.eval] at h ⊢; exact h
theorem eqJ_v {k : Int64} (h : (Jvm.Cond.eq t (.long k)).value args s none s [] = some true) : t.eval args s none [] s = some (.long k) := by
  cases ht : t.eval args s none [] s with
  | none => simp [Cond.value, ht] at h
  | some x => cases x <;> simp [Cond.value, ht, Term.eval] at h ⊢; exact h
theorem eqR_v {a : Addr} (hu : u.eval args s none [] s = some (.ref a)) (h : (Jvm.Cond.eq t u).value args s none s [] = some true) : t.eval args s none [] s = some (.ref a) := by
  cases ht : t.eval args s none [] s with
  | none => simp [Cond.value, ht] at h
  | some x => cases x <;> simp [Cond.value, ht, hu] at h ⊢; exact h
end Start
end Jvm.OwnKit

namespace Jvm.Pilot.@@N@@
open Jvm Jvm.ClassFile Sem Op Lib Jvm.Free Jvm.Stand Jvm.LawKit Jvm.RoadKit Jvm.OwnKit Bundle Jvm.Pilot.@@N@@.Jvm.D
theorem tw0 {Z : State} {a0 : Array Value} (hw : ∀ d ∈ tables_1, d.before a0 Z = true) : (Jvm.Cond.constant "com/example/stroll/stroll/LayoutEndPinLaw" (25 : Nat) (2147483647 : Int32)).before a0 Z = true := hw _ (List.mem_of_getElem? (i := 0) rfl)
theorem tw1 {Z : State} {a0 : Array Value} (hw : ∀ d ∈ tables_1, d.before a0 Z = true) : (Jvm.Cond.constant "com/example/stroll/stroll/LayoutEndPinLaw" (28 : Nat) (65536 : Int32)).before a0 Z = true := hw _ (List.mem_of_getElem? (i := 1) rfl)
theorem tw2 {Z : State} {a0 : Array Value} (hw : ∀ d ∈ tables_1, d.before a0 Z = true) : (Jvm.Cond.methodLink "com/example/stroll/stroll/LayoutEndPinLaw" (29 : Nat) ({ cls := "com/example/stroll/stroll/LayoutEndPinLaw", name := "pick", desc := "(I)Lcom/example/stroll/stroll/ExplicitMetric$Layout;" } : Jvm.MethodName)).before a0 Z = true := hw _ (List.mem_of_getElem? (i := 2) rfl)
theorem tw3 {Z : State} {a0 : Array Value} (hw : ∀ d ∈ tables_1, d.before a0 Z = true) : (Jvm.Cond.static ({ cls := "com/example/stroll/stroll/LayoutEndPinLaw", name := "pick", desc := "(I)Lcom/example/stroll/stroll/ExplicitMetric$Layout;" } : Jvm.MethodName)).before a0 Z = true := hw _ (List.mem_of_getElem? (i := 3) rfl)
theorem tw4 {Z : State} {a0 : Array Value} (hw : ∀ d ∈ tables_1, d.before a0 Z = true) : (Jvm.Cond.initialized "com/example/stroll/stroll/LayoutEndPinLaw").before a0 Z = true := hw _ (List.mem_of_getElem? (i := 4) rfl)
theorem tw5 {Z : State} {a0 : Array Value} (hw : ∀ d ∈ tables_1, d.before a0 Z = true) : (Jvm.Cond.code ({ cls := "com/example/stroll/stroll/LayoutEndPinLaw", name := "pick", desc := "(I)Lcom/example/stroll/stroll/ExplicitMetric$Layout;" } : Jvm.MethodName) method_2_code (1 : Nat) (Option.some (Jvm.ClassFile.FieldType.object "com/example/stroll/stroll/ExplicitMetric$Layout"))).before a0 Z = true := hw _ (List.mem_of_getElem? (i := 5) rfl)
theorem tw6 {Z : State} {a0 : Array Value} (hw : ∀ d ∈ tables_1, d.before a0 Z = true) : (Jvm.Cond.fieldLink "com/example/stroll/stroll/LayoutEndPinLaw" (7 : Nat) "com/example/stroll/stroll/ExplicitMetric$Layout" "FULL_MATRIX" "Lcom/example/stroll/stroll/ExplicitMetric$Layout;").before a0 Z = true := hw _ (List.mem_of_getElem? (i := 6) rfl)
theorem tw7 {Z : State} {a0 : Array Value} (hw : ∀ d ∈ tables_1, d.before a0 Z = true) : (Jvm.Cond.initialized "com/example/stroll/stroll/ExplicitMetric$Layout").before a0 Z = true := hw _ (List.mem_of_getElem? (i := 7) rfl)
theorem tw8 {Z : State} {a0 : Array Value} (hw : ∀ d ∈ tables_1, d.before a0 Z = true) : (Jvm.Cond.laysStatic "com/example/stroll/stroll/ExplicitMetric$Layout" "FULL_MATRIX" "Lcom/example/stroll/stroll/ExplicitMetric$Layout;").before a0 Z = true := hw _ (List.mem_of_getElem? (i := 8) rfl)
theorem tw9 {Z : State} {a0 : Array Value} (hw : ∀ d ∈ tables_1, d.before a0 Z = true) : (Jvm.Cond.methodLink "com/example/stroll/stroll/LayoutEndPinLaw" (35 : Nat) ({ cls := "com/example/stroll/stroll/ExplicitMetric$Layout", name := "end", desc := "(II)I" } : Jvm.MethodName)).before a0 Z = true := hw _ (List.mem_of_getElem? (i := 9) rfl)
theorem tw10 {Z : State} {a0 : Array Value} (hw : ∀ d ∈ tables_1, d.before a0 Z = true) : (Jvm.Cond.declares ({ cls := "com/example/stroll/stroll/ExplicitMetric$Layout", name := "end", desc := "(II)I" } : Jvm.MethodName)).before a0 Z = true := hw _ (List.mem_of_getElem? (i := 10) rfl)
theorem tw11 {Z : State} {a0 : Array Value} (hw : ∀ d ∈ tables_1, d.before a0 Z = true) : (Jvm.Cond.instanceMethod ({ cls := "com/example/stroll/stroll/ExplicitMetric$Layout", name := "end", desc := "(II)I" } : Jvm.MethodName)).before a0 Z = true := hw _ (List.mem_of_getElem? (i := 11) rfl)
theorem tw12 {Z : State} {a0 : Array Value} (hw : ∀ d ∈ tables_1, d.before a0 Z = true) : (Jvm.Cond.selects "com/example/stroll/stroll/ExplicitMetric$Layout" ({ cls := "com/example/stroll/stroll/ExplicitMetric$Layout", name := "end", desc := "(II)I" } : Jvm.MethodName) ({ cls := "com/example/stroll/stroll/ExplicitMetric$Layout", name := "end", desc := "(II)I" } : Jvm.MethodName)).before a0 Z = true := hw _ (List.mem_of_getElem? (i := 12) rfl)
theorem tw13 {Z : State} {a0 : Array Value} (hw : ∀ d ∈ tables_1, d.before a0 Z = true) : (Jvm.Cond.code ({ cls := "com/example/stroll/stroll/ExplicitMetric$Layout", name := "end", desc := "(II)I" } : Jvm.MethodName) prog_27_method_5_code (3 : Nat) (Option.some Jvm.ClassFile.FieldType.int)).before a0 Z = true := hw _ (List.mem_of_getElem? (i := 13) rfl)
theorem tw14 {Z : State} {a0 : Array Value} (hw : ∀ d ∈ tables_1, d.before a0 Z = true) : (Jvm.Cond.fieldLink "com/example/stroll/stroll/ExplicitMetric$Layout" (45 : Nat) "com/example/stroll/stroll/ExplicitMetric$Layout" "upper" "Z").before a0 Z = true := hw _ (List.mem_of_getElem? (i := 14) rfl)
theorem tw16 {Z : State} {a0 : Array Value} (hw : ∀ d ∈ tables_1, d.before a0 Z = true) : (Jvm.Cond.methodLink "com/example/stroll/stroll/LayoutEndPinLaw" (39 : Nat) ({ cls := "com/example/stroll/stroll/ExplicitMetric$Layout", name := "first", desc := "(I)I" } : Jvm.MethodName)).before a0 Z = true := hw _ (List.mem_of_getElem? (i := 16) rfl)
theorem tw17 {Z : State} {a0 : Array Value} (hw : ∀ d ∈ tables_1, d.before a0 Z = true) : (Jvm.Cond.declares ({ cls := "com/example/stroll/stroll/ExplicitMetric$Layout", name := "first", desc := "(I)I" } : Jvm.MethodName)).before a0 Z = true := hw _ (List.mem_of_getElem? (i := 17) rfl)
theorem tw18 {Z : State} {a0 : Array Value} (hw : ∀ d ∈ tables_1, d.before a0 Z = true) : (Jvm.Cond.instanceMethod ({ cls := "com/example/stroll/stroll/ExplicitMetric$Layout", name := "first", desc := "(I)I" } : Jvm.MethodName)).before a0 Z = true := hw _ (List.mem_of_getElem? (i := 18) rfl)
theorem tw19 {Z : State} {a0 : Array Value} (hw : ∀ d ∈ tables_1, d.before a0 Z = true) : (Jvm.Cond.selects "com/example/stroll/stroll/ExplicitMetric$Layout" ({ cls := "com/example/stroll/stroll/ExplicitMetric$Layout", name := "first", desc := "(I)I" } : Jvm.MethodName) ({ cls := "com/example/stroll/stroll/ExplicitMetric$Layout", name := "first", desc := "(I)I" } : Jvm.MethodName)).before a0 Z = true := hw _ (List.mem_of_getElem? (i := 19) rfl)
theorem tw20 {Z : State} {a0 : Array Value} (hw : ∀ d ∈ tables_1, d.before a0 Z = true) : (Jvm.Cond.code ({ cls := "com/example/stroll/stroll/ExplicitMetric$Layout", name := "first", desc := "(I)I" } : Jvm.MethodName) prog_27_method_4_code (2 : Nat) (Option.some Jvm.ClassFile.FieldType.int)).before a0 Z = true := hw _ (List.mem_of_getElem? (i := 20) rfl)
theorem tw21 {Z : State} {a0 : Array Value} (hw : ∀ d ∈ tables_1, d.before a0 Z = true) : (Jvm.Cond.fieldLink "com/example/stroll/stroll/ExplicitMetric$Layout" (38 : Nat) "com/example/stroll/stroll/ExplicitMetric$Layout" "lower" "Z").before a0 Z = true := hw _ (List.mem_of_getElem? (i := 21) rfl)
theorem tw23 {Z : State} {a0 : Array Value} (hw : ∀ d ∈ tables_1, d.before a0 Z = true) : (Jvm.Cond.fieldLink "com/example/stroll/stroll/LayoutEndPinLaw" (16 : Nat) "com/example/stroll/stroll/ExplicitMetric$Layout" "UPPER_DIAG_ROW" "Lcom/example/stroll/stroll/ExplicitMetric$Layout;").before a0 Z = true := hw _ (List.mem_of_getElem? (i := 23) rfl)
theorem tw24 {Z : State} {a0 : Array Value} (hw : ∀ d ∈ tables_1, d.before a0 Z = true) : (Jvm.Cond.laysStatic "com/example/stroll/stroll/ExplicitMetric$Layout" "UPPER_DIAG_ROW" "Lcom/example/stroll/stroll/ExplicitMetric$Layout;").before a0 Z = true := hw _ (List.mem_of_getElem? (i := 24) rfl)
theorem tw25 {Z : State} {a0 : Array Value} (hw : ∀ d ∈ tables_1, d.before a0 Z = true) : (Jvm.Cond.fieldLink "com/example/stroll/stroll/ExplicitMetric$Layout" (42 : Nat) "com/example/stroll/stroll/ExplicitMetric$Layout" "diagonal" "Z").before a0 Z = true := hw _ (List.mem_of_getElem? (i := 25) rfl)
theorem tw27 {Z : State} {a0 : Array Value} (hw : ∀ d ∈ tables_1, d.before a0 Z = true) : (Jvm.Cond.fieldLink "com/example/stroll/stroll/LayoutEndPinLaw" (22 : Nat) "com/example/stroll/stroll/ExplicitMetric$Layout" "LOWER_DIAG_ROW" "Lcom/example/stroll/stroll/ExplicitMetric$Layout;").before a0 Z = true := hw _ (List.mem_of_getElem? (i := 27) rfl)
theorem tw28 {Z : State} {a0 : Array Value} (hw : ∀ d ∈ tables_1, d.before a0 Z = true) : (Jvm.Cond.laysStatic "com/example/stroll/stroll/ExplicitMetric$Layout" "LOWER_DIAG_ROW" "Lcom/example/stroll/stroll/ExplicitMetric$Layout;").before a0 Z = true := hw _ (List.mem_of_getElem? (i := 28) rfl)
theorem tw29 {Z : State} {a0 : Array Value} (hw : ∀ d ∈ tables_1, d.before a0 Z = true) : (Jvm.Cond.fieldLink "com/example/stroll/stroll/LayoutEndPinLaw" (13 : Nat) "com/example/stroll/stroll/ExplicitMetric$Layout" "UPPER_ROW" "Lcom/example/stroll/stroll/ExplicitMetric$Layout;").before a0 Z = true := hw _ (List.mem_of_getElem? (i := 29) rfl)
theorem tw30 {Z : State} {a0 : Array Value} (hw : ∀ d ∈ tables_1, d.before a0 Z = true) : (Jvm.Cond.laysStatic "com/example/stroll/stroll/ExplicitMetric$Layout" "UPPER_ROW" "Lcom/example/stroll/stroll/ExplicitMetric$Layout;").before a0 Z = true := hw _ (List.mem_of_getElem? (i := 30) rfl)
theorem tw31 {Z : State} {a0 : Array Value} (hw : ∀ d ∈ tables_1, d.before a0 Z = true) : (Jvm.Cond.fieldLink "com/example/stroll/stroll/LayoutEndPinLaw" (19 : Nat) "com/example/stroll/stroll/ExplicitMetric$Layout" "LOWER_ROW" "Lcom/example/stroll/stroll/ExplicitMetric$Layout;").before a0 Z = true := hw _ (List.mem_of_getElem? (i := 31) rfl)
theorem tw32 {Z : State} {a0 : Array Value} (hw : ∀ d ∈ tables_1, d.before a0 Z = true) : (Jvm.Cond.laysStatic "com/example/stroll/stroll/ExplicitMetric$Layout" "LOWER_ROW" "Lcom/example/stroll/stroll/ExplicitMetric$Layout;").before a0 Z = true := hw _ (List.mem_of_getElem? (i := 32) rfl)
abbrev mn0 : MethodName := ⟨"com/example/stroll/stroll/LayoutEndPinLaw", "pick", "(I)Lcom/example/stroll/stroll/ExplicitMetric$Layout;"⟩
abbrev mn1 : MethodName := ⟨"com/example/stroll/stroll/ExplicitMetric$Layout", "end", "(II)I"⟩
abbrev mn2 : MethodName := ⟨"com/example/stroll/stroll/ExplicitMetric$Layout", "first", "(I)I"⟩
theorem pd_2 : parseMethodDescriptor "(I)I" = some ⟨[.int], some .int⟩ := by decide +kernel
theorem pd_1 : parseMethodDescriptor "(II)I" = some ⟨[.int, .int], some .int⟩ := by decide +kernel
theorem pd_0 : parseMethodDescriptor "(I)Lcom/example/stroll/stroll/ExplicitMetric$Layout;" = some ⟨[.int], some (.object "com/example/stroll/stroll/ExplicitMetric$Layout")⟩ := by decide +kernel
def OwnF (Z : State) (h : Heap) (w_FULL_MATRIX w_UPPER_DIAG_ROW w_LOWER_DIAG_ROW w_UPPER_ROW w_LOWER_ROW : Addr) : Prop := Sta Z h "com/example/stroll/stroll/ExplicitMetric$Layout" "FULL_MATRIX" "Lcom/example/stroll/stroll/ExplicitMetric$Layout;" (.ref w_FULL_MATRIX) ∧
  Exa Z h w_FULL_MATRIX "com/example/stroll/stroll/ExplicitMetric$Layout" ∧
  Sta Z h "com/example/stroll/stroll/ExplicitMetric$Layout" "UPPER_DIAG_ROW" "Lcom/example/stroll/stroll/ExplicitMetric$Layout;" (.ref w_UPPER_DIAG_ROW) ∧
  Exa Z h w_UPPER_DIAG_ROW "com/example/stroll/stroll/ExplicitMetric$Layout" ∧
  Sta Z h "com/example/stroll/stroll/ExplicitMetric$Layout" "LOWER_DIAG_ROW" "Lcom/example/stroll/stroll/ExplicitMetric$Layout;" (.ref w_LOWER_DIAG_ROW) ∧
  Exa Z h w_LOWER_DIAG_ROW "com/example/stroll/stroll/ExplicitMetric$Layout" ∧
  Sta Z h "com/example/stroll/stroll/ExplicitMetric$Layout" "UPPER_ROW" "Lcom/example/stroll/stroll/ExplicitMetric$Layout;" (.ref w_UPPER_ROW) ∧
  Exa Z h w_UPPER_ROW "com/example/stroll/stroll/ExplicitMetric$Layout" ∧
  Sta Z h "com/example/stroll/stroll/ExplicitMetric$Layout" "LOWER_ROW" "Lcom/example/stroll/stroll/ExplicitMetric$Layout;" (.ref w_LOWER_ROW) ∧
  Exa Z h w_LOWER_ROW "com/example/stroll/stroll/ExplicitMetric$Layout" ∧
  Fld Z h w_FULL_MATRIX "com/example/stroll/stroll/ExplicitMetric$Layout" "upper" "Z" (.int (1 : Int32)) ∧
  Fld Z h w_FULL_MATRIX "com/example/stroll/stroll/ExplicitMetric$Layout" "lower" "Z" (.int (1 : Int32)) ∧
  Fld Z h w_UPPER_DIAG_ROW "com/example/stroll/stroll/ExplicitMetric$Layout" "upper" "Z" (.int (1 : Int32)) ∧
  Fld Z h w_UPPER_DIAG_ROW "com/example/stroll/stroll/ExplicitMetric$Layout" "lower" "Z" (.int (0 : Int32)) ∧
  Fld Z h w_UPPER_DIAG_ROW "com/example/stroll/stroll/ExplicitMetric$Layout" "diagonal" "Z" (.int (1 : Int32)) ∧
  Fld Z h w_LOWER_DIAG_ROW "com/example/stroll/stroll/ExplicitMetric$Layout" "upper" "Z" (.int (0 : Int32)) ∧
  Fld Z h w_LOWER_DIAG_ROW "com/example/stroll/stroll/ExplicitMetric$Layout" "diagonal" "Z" (.int (1 : Int32)) ∧
  Fld Z h w_LOWER_DIAG_ROW "com/example/stroll/stroll/ExplicitMetric$Layout" "lower" "Z" (.int (1 : Int32)) ∧
  Fld Z h w_UPPER_ROW "com/example/stroll/stroll/ExplicitMetric$Layout" "upper" "Z" (.int (1 : Int32)) ∧
  Fld Z h w_UPPER_ROW "com/example/stroll/stroll/ExplicitMetric$Layout" "lower" "Z" (.int (0 : Int32)) ∧
  Fld Z h w_UPPER_ROW "com/example/stroll/stroll/ExplicitMetric$Layout" "diagonal" "Z" (.int (0 : Int32)) ∧
  Fld Z h w_LOWER_ROW "com/example/stroll/stroll/ExplicitMetric$Layout" "upper" "Z" (.int (0 : Int32)) ∧
  Fld Z h w_LOWER_ROW "com/example/stroll/stroll/ExplicitMetric$Layout" "diagonal" "Z" (.int (0 : Int32)) ∧
  Fld Z h w_LOWER_ROW "com/example/stroll/stroll/ExplicitMetric$Layout" "lower" "Z" (.int (1 : Int32)) ∧
  Fld Z h w_FULL_MATRIX "com/example/stroll/stroll/ExplicitMetric$Layout" "diagonal" "Z" (.int (1 : Int32))
theorem OwnF.ext {Z : State} {h h' : Heap} {w_FULL_MATRIX w_UPPER_DIAG_ROW w_LOWER_DIAG_ROW w_UPPER_ROW w_LOWER_ROW : Addr} (E : Ext h h') (F : OwnF Z h w_FULL_MATRIX w_UPPER_DIAG_ROW w_LOWER_DIAG_ROW w_UPPER_ROW w_LOWER_ROW) : OwnF Z h' w_FULL_MATRIX w_UPPER_DIAG_ROW w_LOWER_DIAG_ROW w_UPPER_ROW w_LOWER_ROW := by
  obtain ⟨S_FULL_MATRIX, E_FULL_MATRIX, S_UPPER_DIAG_ROW, E_UPPER_DIAG_ROW, S_LOWER_DIAG_ROW, E_LOWER_DIAG_ROW, S_UPPER_ROW, E_UPPER_ROW, S_LOWER_ROW, E_LOWER_ROW, F_FULL_MATRIX_upper, F_FULL_MATRIX_lower, F_UPPER_DIAG_ROW_upper, F_UPPER_DIAG_ROW_lower, F_UPPER_DIAG_ROW_diagonal, F_LOWER_DIAG_ROW_upper, F_LOWER_DIAG_ROW_diagonal, F_LOWER_DIAG_ROW_lower, F_UPPER_ROW_upper, F_UPPER_ROW_lower, F_UPPER_ROW_diagonal, F_LOWER_ROW_upper, F_LOWER_ROW_diagonal, F_LOWER_ROW_lower, F_FULL_MATRIX_diagonal⟩ := F
  exact ⟨S_FULL_MATRIX.ext E, E_FULL_MATRIX.ext E, S_UPPER_DIAG_ROW.ext E, E_UPPER_DIAG_ROW.ext E, S_LOWER_DIAG_ROW.ext E, E_LOWER_DIAG_ROW.ext E, S_UPPER_ROW.ext E, E_UPPER_ROW.ext E, S_LOWER_ROW.ext E, E_LOWER_ROW.ext E, F_FULL_MATRIX_upper.ext E, F_FULL_MATRIX_lower.ext E, F_UPPER_DIAG_ROW_upper.ext E, F_UPPER_DIAG_ROW_lower.ext E, F_UPPER_DIAG_ROW_diagonal.ext E, F_LOWER_DIAG_ROW_upper.ext E, F_LOWER_DIAG_ROW_diagonal.ext E, F_LOWER_DIAG_ROW_lower.ext E, F_UPPER_ROW_upper.ext E, F_UPPER_ROW_lower.ext E, F_UPPER_ROW_diagonal.ext E, F_LOWER_ROW_upper.ext E, F_LOWER_ROW_diagonal.ext E, F_LOWER_ROW_lower.ext E, F_FULL_MATRIX_diagonal.ext E⟩
theorem own_rng5 {v : Int32} (h0 : 0 ≤ v.toInt) (h1 : v.toInt < 5) : v = 0 ∨ v = 1 ∨ v = 2 ∨ v = 3 ∨ v = 4 := by
  rcases (by omega : v.toInt = 0 ∨ v.toInt = 1 ∨ v.toInt = 2 ∨ v.toInt = 3 ∨ v.toInt = 4) with h | h | h | h | h
  · exact Or.inl (Int32.toInt_inj.mp (h.trans (by decide)))
  · exact Or.inr (Or.inl (Int32.toInt_inj.mp (h.trans (by decide))))
  · exact Or.inr (Or.inr (Or.inl (Int32.toInt_inj.mp (h.trans (by decide)))))
  · exact Or.inr (Or.inr (Or.inr (Or.inl (Int32.toInt_inj.mp (h.trans (by decide))))))
  · exact Or.inr (Or.inr (Or.inr (Or.inr ((Int32.toInt_inj.mp (h.trans (by decide)))))))
theorem own_rem5 (x : Int32) : (x &&& 2147483647) % 5 = 0 ∨ (x &&& 2147483647) % 5 = 1 ∨ (x &&& 2147483647) % 5 = 2 ∨ (x &&& 2147483647) % 5 = 3 ∨ (x &&& 2147483647) % 5 = 4 := by
  have e := c_mask x 2147483647 31 (by decide) (by decide)
  have e2 := (c_irem (x &&& 2147483647) 5 5 (by decide)).1 (by rw [e]; omega)
  exact own_rng5 (by rw [e2]; omega) (by rw [e2]; omega)
theorem own_size (x : Int32) : ∃ S : Int32, (x &&& 2147483647) % 65536 + 1 = S ∧ 1 ≤ S.toInt ∧ S.toInt ≤ 65536 := by
  refine ⟨_, rfl, ?_⟩
  have e := c_mask x 2147483647 31 (by decide) (by decide)
  have e2 := (c_irem (x &&& 2147483647) 65536 65536 (by decide)).1 (by rw [e]; omega)
  have e3 := c_iadd ((x &&& 2147483647) % 65536) 1; have r := rng32 ((x &&& 2147483647) % 65536 + 1); have z : (1 : Int32).toInt = 1 := by decide
  omega
theorem own_mod (x S : Int32) (h : 1 ≤ S.toInt) : ∃ R : Int32, (x &&& 2147483647) % S = R ∧ 0 ≤ R.toInt ∧ R.toInt < S.toInt := by
  refine ⟨_, rfl, ?_⟩
  have e := c_mask x 2147483647 31 (by decide) (by decide)
  have e2 := (c_iremV (x &&& 2147483647) S).1 (by rw [e]; omega) (by omega)
  omega
theorem own_inc {R S : Int32} (h : R.toInt < S.toInt) (h2 : S.toInt ≤ 65536) (h0 : 0 ≤ R.toInt) : (R + 1).toInt = R.toInt + 1 := by
  have e3 := c_iadd R 1; have r := rng32 (R + 1); have z : (1 : Int32).toInt = 1 := by decide
  omega
theorem d1_0 : decode method_2_code 0 = .ok (.iload_n 0, 1) := by decide +kernel
theorem d1_1 : decode method_2_code 1 = .ok (.ifCond .ne 7, 3) := by decide +kernel
theorem d1_4 : decode method_2_code 4 = .ok (.getstatic 7, 3) := by decide +kernel
theorem d1_7 : decode method_2_code 7 = .ok (.areturn, 1) := by decide +kernel
theorem pn_rm1_0 : plainName "com/example/stroll/stroll/LayoutEndPinLaw" = true := by first | (simp [plainName, overriddenIn]; done) | decide +kernel
set_option maxRecDepth 65536 in
set_option maxHeartbeats 40000000 in
theorem rm1_0 (l : Launch) (Z : State) (a0 : Array Value) (hw : ∀ d ∈ tables_1, d.before a0 Z = true)  (w_FULL_MATRIX w_UPPER_DIAG_ROW w_LOWER_DIAG_ROW w_UPPER_ROW w_LOWER_ROW : Addr) (h0 : Heap) (F0 : OwnF Z h0 w_FULL_MATRIX w_UPPER_DIAG_ROW w_LOWER_DIAG_ROW w_UPPER_ROW w_LOWER_ROW)  :
    OMeets l Z mn0 method_2_code 1 (some (.object "com/example/stroll/stroll/ExplicitMetric$Layout")) [] ({ frames := 0, cells := 0, slots := 0, locals := 0 } : Room) #[(.int (0 : Int32))] h0 (PureQ (some (.ref w_FULL_MATRIX)) h0) := by
  refine OMeets.of pn_rm1_0 #[.val (.int (0 : Int32))] (fun m => by first | rfl | (simp [entryFrame, mkF, argsToLocals, Value.category, maxLocals]; done)) ?_
  intro p e s m below meth c s₁ B X0 e0
  have F := F0
  obtain ⟨S_FULL_MATRIX, E_FULL_MATRIX, S_UPPER_DIAG_ROW, E_UPPER_DIAG_ROW, S_LOWER_DIAG_ROW, E_LOWER_DIAG_ROW, S_UPPER_ROW, E_UPPER_ROW, S_LOWER_ROW, E_LOWER_ROW, F_FULL_MATRIX_upper, F_FULL_MATRIX_lower, F_UPPER_DIAG_ROW_upper, F_UPPER_DIAG_ROW_lower, F_UPPER_DIAG_ROW_diagonal, F_LOWER_DIAG_ROW_upper, F_LOWER_DIAG_ROW_diagonal, F_LOWER_DIAG_ROW_lower, F_UPPER_ROW_upper, F_UPPER_ROW_lower, F_UPPER_ROW_diagonal, F_LOWER_ROW_upper, F_LOWER_ROW_diagonal, F_LOWER_ROW_lower, F_FULL_MATRIX_diagonal⟩ := F
  refine s_iloadN B X0 (pc' := 1) d1_0 rfl rfl ?_
  refine s_ifN B X0 (pc' := 4) d1_1 (by decide) rfl ?_
  refine s_getS B X0 (pc' := 7) e0 (tw6 hw) Via.refl S_FULL_MATRIX d1_4 rfl (fun T1 X1 e1 => ?_)
  exact r_ref B X1 (t := (.object "com/example/stroll/stroll/ExplicitMetric$Layout")) rfl rfl rfl rfl d1_7 ⟨rfl, rfl, e1⟩ (by decide) (by decide)
theorem d2_0 : decode prog_27_method_5_code 0 = .ok (.aload_n 0, 1) := by decide +kernel
theorem d2_1 : decode prog_27_method_5_code 1 = .ok (.getfield 45, 3) := by decide +kernel
theorem d2_4 : decode prog_27_method_5_code 4 = .ok (.ifCond .eq 5, 3) := by decide +kernel
theorem d2_7 : decode prog_27_method_5_code 7 = .ok (.iload_n 2, 1) := by decide +kernel
theorem d2_8 : decode prog_27_method_5_code 8 = .ok (.ireturn, 1) := by decide +kernel
theorem pn_rm2_1 : plainName "com/example/stroll/stroll/ExplicitMetric$Layout" = true := by first | (simp [plainName, overriddenIn]; done) | decide +kernel
set_option maxRecDepth 65536 in
set_option maxHeartbeats 40000000 in
theorem rm2_1 (l : Launch) (Z : State) (a0 : Array Value) (hw : ∀ d ∈ tables_1, d.before a0 Z = true) (q1 : Int32) (q2 : Int32) (w_FULL_MATRIX w_UPPER_DIAG_ROW w_LOWER_DIAG_ROW w_UPPER_ROW w_LOWER_ROW : Addr) (h0 : Heap) (F0 : OwnF Z h0 w_FULL_MATRIX w_UPPER_DIAG_ROW w_LOWER_DIAG_ROW w_UPPER_ROW w_LOWER_ROW)  :
    OMeets l Z mn1 prog_27_method_5_code 3 (some .int) [] ({ frames := 0, cells := 0, slots := 0, locals := 0 } : Room) #[(.ref w_FULL_MATRIX), (.int q1), (.int q2)] h0 (PureQ (some (.int q2)) h0) := by
  refine OMeets.of pn_rm2_1 #[.val (.ref w_FULL_MATRIX), .val (.int q1), .val (.int q2)] (fun m => by first | rfl | (simp [entryFrame, mkF, argsToLocals, Value.category, maxLocals]; done)) ?_
  intro p e s m below meth c s₁ B X0 e0
  have F := F0
  obtain ⟨S_FULL_MATRIX, E_FULL_MATRIX, S_UPPER_DIAG_ROW, E_UPPER_DIAG_ROW, S_LOWER_DIAG_ROW, E_LOWER_DIAG_ROW, S_UPPER_ROW, E_UPPER_ROW, S_LOWER_ROW, E_LOWER_ROW, F_FULL_MATRIX_upper, F_FULL_MATRIX_lower, F_UPPER_DIAG_ROW_upper, F_UPPER_DIAG_ROW_lower, F_UPPER_DIAG_ROW_diagonal, F_LOWER_DIAG_ROW_upper, F_LOWER_DIAG_ROW_diagonal, F_LOWER_DIAG_ROW_lower, F_UPPER_ROW_upper, F_UPPER_ROW_lower, F_UPPER_ROW_diagonal, F_LOWER_ROW_upper, F_LOWER_ROW_diagonal, F_LOWER_ROW_lower, F_FULL_MATRIX_diagonal⟩ := F
  refine s_aloadN B X0 (pc' := 1) d2_0 rfl rfl rfl ?_
  refine s_getF B X0 (pc' := 4) e0 (host := "") (Or.inl (tw14 hw)) Via.refl F_FULL_MATRIX_upper d2_1 rfl (fun T1 X1 e1 => ?_)
  refine s_ifN B X1 (pc' := 7) d2_4 (by decide) rfl ?_
  refine s_iloadN B X1 (pc' := 8) d2_7 rfl rfl ?_
  exact r_int B X1 rfl d2_8 ⟨rfl, rfl, e1⟩ (by decide) (by decide)
theorem d3_0 : decode prog_27_method_4_code 0 = .ok (.aload_n 0, 1) := by decide +kernel
theorem d3_1 : decode prog_27_method_4_code 1 = .ok (.getfield 38, 3) := by decide +kernel
theorem d3_4 : decode prog_27_method_4_code 4 = .ok (.ifCond .eq 5, 3) := by decide +kernel
theorem d3_7 : decode prog_27_method_4_code 7 = .ok (.iconst 0, 1) := by decide +kernel
theorem d3_8 : decode prog_27_method_4_code 8 = .ok (.ireturn, 1) := by decide +kernel
theorem pn_rm3_2 : plainName "com/example/stroll/stroll/ExplicitMetric$Layout" = true := by first | (simp [plainName, overriddenIn]; done) | decide +kernel
set_option maxRecDepth 65536 in
set_option maxHeartbeats 40000000 in
theorem rm3_2 (l : Launch) (Z : State) (a0 : Array Value) (hw : ∀ d ∈ tables_1, d.before a0 Z = true) (q1 : Int32) (w_FULL_MATRIX w_UPPER_DIAG_ROW w_LOWER_DIAG_ROW w_UPPER_ROW w_LOWER_ROW : Addr) (h0 : Heap) (F0 : OwnF Z h0 w_FULL_MATRIX w_UPPER_DIAG_ROW w_LOWER_DIAG_ROW w_UPPER_ROW w_LOWER_ROW)  :
    OMeets l Z mn2 prog_27_method_4_code 2 (some .int) [] ({ frames := 0, cells := 0, slots := 0, locals := 0 } : Room) #[(.ref w_FULL_MATRIX), (.int q1)] h0 (PureQ (some (.int (0 : Int32))) h0) := by
  refine OMeets.of pn_rm3_2 #[.val (.ref w_FULL_MATRIX), .val (.int q1)] (fun m => by first | rfl | (simp [entryFrame, mkF, argsToLocals, Value.category, maxLocals]; done)) ?_
  intro p e s m below meth c s₁ B X0 e0
  have F := F0
  obtain ⟨S_FULL_MATRIX, E_FULL_MATRIX, S_UPPER_DIAG_ROW, E_UPPER_DIAG_ROW, S_LOWER_DIAG_ROW, E_LOWER_DIAG_ROW, S_UPPER_ROW, E_UPPER_ROW, S_LOWER_ROW, E_LOWER_ROW, F_FULL_MATRIX_upper, F_FULL_MATRIX_lower, F_UPPER_DIAG_ROW_upper, F_UPPER_DIAG_ROW_lower, F_UPPER_DIAG_ROW_diagonal, F_LOWER_DIAG_ROW_upper, F_LOWER_DIAG_ROW_diagonal, F_LOWER_DIAG_ROW_lower, F_UPPER_ROW_upper, F_UPPER_ROW_lower, F_UPPER_ROW_diagonal, F_LOWER_ROW_upper, F_LOWER_ROW_diagonal, F_LOWER_ROW_lower, F_FULL_MATRIX_diagonal⟩ := F
  refine s_aloadN B X0 (pc' := 1) d3_0 rfl rfl rfl ?_
  refine s_getF B X0 (pc' := 4) e0 (host := "") (Or.inl (tw21 hw)) Via.refl F_FULL_MATRIX_lower d3_1 rfl (fun T1 X1 e1 => ?_)
  refine s_ifN B X1 (pc' := 7) d3_4 (by decide) rfl ?_
  refine s_iconst B X1 (pc' := 8) (v := (0 : Int32)) d3_7 rfl rfl ?_
  exact r_int B X1 rfl d3_8 ⟨rfl, rfl, e1⟩ (by decide) (by decide)
theorem d1_8 : decode method_2_code 8 = .ok (.iload_n 0, 1) := by decide +kernel
theorem d1_9 : decode method_2_code 9 = .ok (.iconst 1, 1) := by decide +kernel
theorem d1_10 : decode method_2_code 10 = .ok (.if_icmp .ne 7, 3) := by decide +kernel
theorem d1_13 : decode method_2_code 13 = .ok (.getstatic 13, 3) := by decide +kernel
theorem d1_16 : decode method_2_code 16 = .ok (.areturn, 1) := by decide +kernel
theorem pn_rm1_3 : plainName "com/example/stroll/stroll/LayoutEndPinLaw" = true := by first | (simp [plainName, overriddenIn]; done) | decide +kernel
set_option maxRecDepth 65536 in
set_option maxHeartbeats 40000000 in
theorem rm1_3 (l : Launch) (Z : State) (a0 : Array Value) (hw : ∀ d ∈ tables_1, d.before a0 Z = true)  (w_FULL_MATRIX w_UPPER_DIAG_ROW w_LOWER_DIAG_ROW w_UPPER_ROW w_LOWER_ROW : Addr) (h0 : Heap) (F0 : OwnF Z h0 w_FULL_MATRIX w_UPPER_DIAG_ROW w_LOWER_DIAG_ROW w_UPPER_ROW w_LOWER_ROW)  :
    OMeets l Z mn0 method_2_code 1 (some (.object "com/example/stroll/stroll/ExplicitMetric$Layout")) [] ({ frames := 0, cells := 0, slots := 0, locals := 0 } : Room) #[(.int (1 : Int32))] h0 (PureQ (some (.ref w_UPPER_ROW)) h0) := by
  refine OMeets.of pn_rm1_3 #[.val (.int (1 : Int32))] (fun m => by first | rfl | (simp [entryFrame, mkF, argsToLocals, Value.category, maxLocals]; done)) ?_
  intro p e s m below meth c s₁ B X0 e0
  have F := F0
  obtain ⟨S_FULL_MATRIX, E_FULL_MATRIX, S_UPPER_DIAG_ROW, E_UPPER_DIAG_ROW, S_LOWER_DIAG_ROW, E_LOWER_DIAG_ROW, S_UPPER_ROW, E_UPPER_ROW, S_LOWER_ROW, E_LOWER_ROW, F_FULL_MATRIX_upper, F_FULL_MATRIX_lower, F_UPPER_DIAG_ROW_upper, F_UPPER_DIAG_ROW_lower, F_UPPER_DIAG_ROW_diagonal, F_LOWER_DIAG_ROW_upper, F_LOWER_DIAG_ROW_diagonal, F_LOWER_DIAG_ROW_lower, F_UPPER_ROW_upper, F_UPPER_ROW_lower, F_UPPER_ROW_diagonal, F_LOWER_ROW_upper, F_LOWER_ROW_diagonal, F_LOWER_ROW_lower, F_FULL_MATRIX_diagonal⟩ := F
  refine s_iloadN B X0 (pc' := 1) d1_0 rfl rfl ?_
  refine s_ifY B X0 (pc' := 8) d1_1 (by decide) (by decide) (by decide) ?_
  refine s_iloadN B X0 (pc' := 9) d1_8 rfl rfl ?_
  refine s_iconst B X0 (pc' := 10) (v := (1 : Int32)) d1_9 rfl rfl ?_
  refine s_icmpN B X0 (pc' := 13) d1_10 (by decide) rfl ?_
  refine s_getS B X0 (pc' := 16) e0 (tw29 hw) Via.refl S_UPPER_ROW d1_13 rfl (fun T1 X1 e1 => ?_)
  exact r_ref B X1 (t := (.object "com/example/stroll/stroll/ExplicitMetric$Layout")) rfl rfl rfl rfl d1_16 ⟨rfl, rfl, e1⟩ (by decide) (by decide)

theorem pn_rm2_4 : plainName "com/example/stroll/stroll/ExplicitMetric$Layout" = true := by first | (simp [plainName, overriddenIn]; done) | decide +kernel
set_option maxRecDepth 65536 in
set_option maxHeartbeats 40000000 in
theorem rm2_4 (l : Launch) (Z : State) (a0 : Array Value) (hw : ∀ d ∈ tables_1, d.before a0 Z = true) (q1 : Int32) (q2 : Int32) (w_FULL_MATRIX w_UPPER_DIAG_ROW w_LOWER_DIAG_ROW w_UPPER_ROW w_LOWER_ROW : Addr) (h0 : Heap) (F0 : OwnF Z h0 w_FULL_MATRIX w_UPPER_DIAG_ROW w_LOWER_DIAG_ROW w_UPPER_ROW w_LOWER_ROW)  :
    OMeets l Z mn1 prog_27_method_5_code 3 (some .int) [] ({ frames := 0, cells := 0, slots := 0, locals := 0 } : Room) #[(.ref w_UPPER_ROW), (.int q1), (.int q2)] h0 (PureQ (some (.int q2)) h0) := by
  refine OMeets.of pn_rm2_4 #[.val (.ref w_UPPER_ROW), .val (.int q1), .val (.int q2)] (fun m => by first | rfl | (simp [entryFrame, mkF, argsToLocals, Value.category, maxLocals]; done)) ?_
  intro p e s m below meth c s₁ B X0 e0
  have F := F0
  obtain ⟨S_FULL_MATRIX, E_FULL_MATRIX, S_UPPER_DIAG_ROW, E_UPPER_DIAG_ROW, S_LOWER_DIAG_ROW, E_LOWER_DIAG_ROW, S_UPPER_ROW, E_UPPER_ROW, S_LOWER_ROW, E_LOWER_ROW, F_FULL_MATRIX_upper, F_FULL_MATRIX_lower, F_UPPER_DIAG_ROW_upper, F_UPPER_DIAG_ROW_lower, F_UPPER_DIAG_ROW_diagonal, F_LOWER_DIAG_ROW_upper, F_LOWER_DIAG_ROW_diagonal, F_LOWER_DIAG_ROW_lower, F_UPPER_ROW_upper, F_UPPER_ROW_lower, F_UPPER_ROW_diagonal, F_LOWER_ROW_upper, F_LOWER_ROW_diagonal, F_LOWER_ROW_lower, F_FULL_MATRIX_diagonal⟩ := F
  refine s_aloadN B X0 (pc' := 1) d2_0 rfl rfl rfl ?_
  refine s_getF B X0 (pc' := 4) e0 (host := "") (Or.inl (tw14 hw)) Via.refl F_UPPER_ROW_upper d2_1 rfl (fun T1 X1 e1 => ?_)
  refine s_ifN B X1 (pc' := 7) d2_4 (by decide) rfl ?_
  refine s_iloadN B X1 (pc' := 8) d2_7 rfl rfl ?_
  exact r_int B X1 rfl d2_8 ⟨rfl, rfl, e1⟩ (by decide) (by decide)
theorem d3_9 : decode prog_27_method_4_code 9 = .ok (.aload_n 0, 1) := by decide +kernel
theorem d3_10 : decode prog_27_method_4_code 10 = .ok (.getfield 42, 3) := by decide +kernel
theorem d3_13 : decode prog_27_method_4_code 13 = .ok (.ifCond .eq 7, 3) := by decide +kernel
theorem d3_20 : decode prog_27_method_4_code 20 = .ok (.iload_n 1, 1) := by decide +kernel
theorem d3_21 : decode prog_27_method_4_code 21 = .ok (.iconst 1, 1) := by decide +kernel
theorem d3_22 : decode prog_27_method_4_code 22 = .ok (.iadd, 1) := by decide +kernel
theorem d3_23 : decode prog_27_method_4_code 23 = .ok (.ireturn, 1) := by decide +kernel
theorem pn_rm3_5 : plainName "com/example/stroll/stroll/ExplicitMetric$Layout" = true := by first | (simp [plainName, overriddenIn]; done) | decide +kernel
set_option maxRecDepth 65536 in
set_option maxHeartbeats 40000000 in
theorem rm3_5 (l : Launch) (Z : State) (a0 : Array Value) (hw : ∀ d ∈ tables_1, d.before a0 Z = true) (q1 : Int32) (w_FULL_MATRIX w_UPPER_DIAG_ROW w_LOWER_DIAG_ROW w_UPPER_ROW w_LOWER_ROW : Addr) (h0 : Heap) (F0 : OwnF Z h0 w_FULL_MATRIX w_UPPER_DIAG_ROW w_LOWER_DIAG_ROW w_UPPER_ROW w_LOWER_ROW)  :
    OMeets l Z mn2 prog_27_method_4_code 2 (some .int) [] ({ frames := 0, cells := 0, slots := 0, locals := 0 } : Room) #[(.ref w_UPPER_ROW), (.int q1)] h0 (PureQ (some (.int (q1 + (1 : Int32)))) h0) := by
  refine OMeets.of pn_rm3_5 #[.val (.ref w_UPPER_ROW), .val (.int q1)] (fun m => by first | rfl | (simp [entryFrame, mkF, argsToLocals, Value.category, maxLocals]; done)) ?_
  intro p e s m below meth c s₁ B X0 e0
  have F := F0
  obtain ⟨S_FULL_MATRIX, E_FULL_MATRIX, S_UPPER_DIAG_ROW, E_UPPER_DIAG_ROW, S_LOWER_DIAG_ROW, E_LOWER_DIAG_ROW, S_UPPER_ROW, E_UPPER_ROW, S_LOWER_ROW, E_LOWER_ROW, F_FULL_MATRIX_upper, F_FULL_MATRIX_lower, F_UPPER_DIAG_ROW_upper, F_UPPER_DIAG_ROW_lower, F_UPPER_DIAG_ROW_diagonal, F_LOWER_DIAG_ROW_upper, F_LOWER_DIAG_ROW_diagonal, F_LOWER_DIAG_ROW_lower, F_UPPER_ROW_upper, F_UPPER_ROW_lower, F_UPPER_ROW_diagonal, F_LOWER_ROW_upper, F_LOWER_ROW_diagonal, F_LOWER_ROW_lower, F_FULL_MATRIX_diagonal⟩ := F
  refine s_aloadN B X0 (pc' := 1) d3_0 rfl rfl rfl ?_
  refine s_getF B X0 (pc' := 4) e0 (host := "") (Or.inl (tw21 hw)) Via.refl F_UPPER_ROW_lower d3_1 rfl (fun T1 X1 e1 => ?_)
  refine s_ifY B X1 (pc' := 9) d3_4 (by decide) (by decide) (by decide) ?_
  refine s_aloadN B X1 (pc' := 10) d3_9 rfl rfl rfl ?_
  refine s_getF B X1 (pc' := 13) e1 (host := "") (Or.inl (tw25 hw)) Via.refl F_UPPER_ROW_diagonal d3_10 rfl (fun T2 X2 e2 => ?_)
  refine s_ifY B X2 (pc' := 20) d3_13 (by decide) (by decide) (by decide) ?_
  refine s_iloadN B X2 (pc' := 21) d3_20 rfl rfl ?_
  refine s_iconst B X2 (pc' := 22) (v := (1 : Int32)) d3_21 rfl rfl ?_
  refine s_iadd B X2 (pc' := 23) (v := (q1 + (1 : Int32))) d3_22 rfl rfl ?_
  exact r_int B X2 rfl d3_23 ⟨rfl, rfl, e2⟩ (by decide) (by decide)
theorem d1_17 : decode method_2_code 17 = .ok (.iload_n 0, 1) := by decide +kernel
theorem d1_18 : decode method_2_code 18 = .ok (.iconst 2, 1) := by decide +kernel
theorem d1_19 : decode method_2_code 19 = .ok (.if_icmp .ne 7, 3) := by decide +kernel
theorem d1_22 : decode method_2_code 22 = .ok (.getstatic 16, 3) := by decide +kernel
theorem d1_25 : decode method_2_code 25 = .ok (.areturn, 1) := by decide +kernel
theorem pn_rm1_6 : plainName "com/example/stroll/stroll/LayoutEndPinLaw" = true := by first | (simp [plainName, overriddenIn]; done) | decide +kernel
set_option maxRecDepth 65536 in
set_option maxHeartbeats 40000000 in
theorem rm1_6 (l : Launch) (Z : State) (a0 : Array Value) (hw : ∀ d ∈ tables_1, d.before a0 Z = true)  (w_FULL_MATRIX w_UPPER_DIAG_ROW w_LOWER_DIAG_ROW w_UPPER_ROW w_LOWER_ROW : Addr) (h0 : Heap) (F0 : OwnF Z h0 w_FULL_MATRIX w_UPPER_DIAG_ROW w_LOWER_DIAG_ROW w_UPPER_ROW w_LOWER_ROW)  :
    OMeets l Z mn0 method_2_code 1 (some (.object "com/example/stroll/stroll/ExplicitMetric$Layout")) [] ({ frames := 0, cells := 0, slots := 0, locals := 0 } : Room) #[(.int (2 : Int32))] h0 (PureQ (some (.ref w_UPPER_DIAG_ROW)) h0) := by
  refine OMeets.of pn_rm1_6 #[.val (.int (2 : Int32))] (fun m => by first | rfl | (simp [entryFrame, mkF, argsToLocals, Value.category, maxLocals]; done)) ?_
  intro p e s m below meth c s₁ B X0 e0
  have F := F0
  obtain ⟨S_FULL_MATRIX, E_FULL_MATRIX, S_UPPER_DIAG_ROW, E_UPPER_DIAG_ROW, S_LOWER_DIAG_ROW, E_LOWER_DIAG_ROW, S_UPPER_ROW, E_UPPER_ROW, S_LOWER_ROW, E_LOWER_ROW, F_FULL_MATRIX_upper, F_FULL_MATRIX_lower, F_UPPER_DIAG_ROW_upper, F_UPPER_DIAG_ROW_lower, F_UPPER_DIAG_ROW_diagonal, F_LOWER_DIAG_ROW_upper, F_LOWER_DIAG_ROW_diagonal, F_LOWER_DIAG_ROW_lower, F_UPPER_ROW_upper, F_UPPER_ROW_lower, F_UPPER_ROW_diagonal, F_LOWER_ROW_upper, F_LOWER_ROW_diagonal, F_LOWER_ROW_lower, F_FULL_MATRIX_diagonal⟩ := F
  refine s_iloadN B X0 (pc' := 1) d1_0 rfl rfl ?_
  refine s_ifY B X0 (pc' := 8) d1_1 (by decide) (by decide) (by decide) ?_
  refine s_iloadN B X0 (pc' := 9) d1_8 rfl rfl ?_
  refine s_iconst B X0 (pc' := 10) (v := (1 : Int32)) d1_9 rfl rfl ?_
  refine s_icmpY B X0 (pc' := 17) d1_10 (by decide) (by decide) (by decide) ?_
  refine s_iloadN B X0 (pc' := 18) d1_17 rfl rfl ?_
  refine s_iconst B X0 (pc' := 19) (v := (2 : Int32)) d1_18 rfl rfl ?_
  refine s_icmpN B X0 (pc' := 22) d1_19 (by decide) rfl ?_
  refine s_getS B X0 (pc' := 25) e0 (tw23 hw) Via.refl S_UPPER_DIAG_ROW d1_22 rfl (fun T1 X1 e1 => ?_)
  exact r_ref B X1 (t := (.object "com/example/stroll/stroll/ExplicitMetric$Layout")) rfl rfl rfl rfl d1_25 ⟨rfl, rfl, e1⟩ (by decide) (by decide)

theorem pn_rm2_7 : plainName "com/example/stroll/stroll/ExplicitMetric$Layout" = true := by first | (simp [plainName, overriddenIn]; done) | decide +kernel
set_option maxRecDepth 65536 in
set_option maxHeartbeats 40000000 in
theorem rm2_7 (l : Launch) (Z : State) (a0 : Array Value) (hw : ∀ d ∈ tables_1, d.before a0 Z = true) (q1 : Int32) (q2 : Int32) (w_FULL_MATRIX w_UPPER_DIAG_ROW w_LOWER_DIAG_ROW w_UPPER_ROW w_LOWER_ROW : Addr) (h0 : Heap) (F0 : OwnF Z h0 w_FULL_MATRIX w_UPPER_DIAG_ROW w_LOWER_DIAG_ROW w_UPPER_ROW w_LOWER_ROW)  :
    OMeets l Z mn1 prog_27_method_5_code 3 (some .int) [] ({ frames := 0, cells := 0, slots := 0, locals := 0 } : Room) #[(.ref w_UPPER_DIAG_ROW), (.int q1), (.int q2)] h0 (PureQ (some (.int q2)) h0) := by
  refine OMeets.of pn_rm2_7 #[.val (.ref w_UPPER_DIAG_ROW), .val (.int q1), .val (.int q2)] (fun m => by first | rfl | (simp [entryFrame, mkF, argsToLocals, Value.category, maxLocals]; done)) ?_
  intro p e s m below meth c s₁ B X0 e0
  have F := F0
  obtain ⟨S_FULL_MATRIX, E_FULL_MATRIX, S_UPPER_DIAG_ROW, E_UPPER_DIAG_ROW, S_LOWER_DIAG_ROW, E_LOWER_DIAG_ROW, S_UPPER_ROW, E_UPPER_ROW, S_LOWER_ROW, E_LOWER_ROW, F_FULL_MATRIX_upper, F_FULL_MATRIX_lower, F_UPPER_DIAG_ROW_upper, F_UPPER_DIAG_ROW_lower, F_UPPER_DIAG_ROW_diagonal, F_LOWER_DIAG_ROW_upper, F_LOWER_DIAG_ROW_diagonal, F_LOWER_DIAG_ROW_lower, F_UPPER_ROW_upper, F_UPPER_ROW_lower, F_UPPER_ROW_diagonal, F_LOWER_ROW_upper, F_LOWER_ROW_diagonal, F_LOWER_ROW_lower, F_FULL_MATRIX_diagonal⟩ := F
  refine s_aloadN B X0 (pc' := 1) d2_0 rfl rfl rfl ?_
  refine s_getF B X0 (pc' := 4) e0 (host := "") (Or.inl (tw14 hw)) Via.refl F_UPPER_DIAG_ROW_upper d2_1 rfl (fun T1 X1 e1 => ?_)
  refine s_ifN B X1 (pc' := 7) d2_4 (by decide) rfl ?_
  refine s_iloadN B X1 (pc' := 8) d2_7 rfl rfl ?_
  exact r_int B X1 rfl d2_8 ⟨rfl, rfl, e1⟩ (by decide) (by decide)
theorem d3_16 : decode prog_27_method_4_code 16 = .ok (.iload_n 1, 1) := by decide +kernel
theorem d3_17 : decode prog_27_method_4_code 17 = .ok (.goto 6, 3) := by decide +kernel
theorem pn_rm3_8 : plainName "com/example/stroll/stroll/ExplicitMetric$Layout" = true := by first | (simp [plainName, overriddenIn]; done) | decide +kernel
set_option maxRecDepth 65536 in
set_option maxHeartbeats 40000000 in
theorem rm3_8 (l : Launch) (Z : State) (a0 : Array Value) (hw : ∀ d ∈ tables_1, d.before a0 Z = true) (q1 : Int32) (w_FULL_MATRIX w_UPPER_DIAG_ROW w_LOWER_DIAG_ROW w_UPPER_ROW w_LOWER_ROW : Addr) (h0 : Heap) (F0 : OwnF Z h0 w_FULL_MATRIX w_UPPER_DIAG_ROW w_LOWER_DIAG_ROW w_UPPER_ROW w_LOWER_ROW)  :
    OMeets l Z mn2 prog_27_method_4_code 2 (some .int) [] ({ frames := 0, cells := 0, slots := 0, locals := 0 } : Room) #[(.ref w_UPPER_DIAG_ROW), (.int q1)] h0 (PureQ (some (.int q1)) h0) := by
  refine OMeets.of pn_rm3_8 #[.val (.ref w_UPPER_DIAG_ROW), .val (.int q1)] (fun m => by first | rfl | (simp [entryFrame, mkF, argsToLocals, Value.category, maxLocals]; done)) ?_
  intro p e s m below meth c s₁ B X0 e0
  have F := F0
  obtain ⟨S_FULL_MATRIX, E_FULL_MATRIX, S_UPPER_DIAG_ROW, E_UPPER_DIAG_ROW, S_LOWER_DIAG_ROW, E_LOWER_DIAG_ROW, S_UPPER_ROW, E_UPPER_ROW, S_LOWER_ROW, E_LOWER_ROW, F_FULL_MATRIX_upper, F_FULL_MATRIX_lower, F_UPPER_DIAG_ROW_upper, F_UPPER_DIAG_ROW_lower, F_UPPER_DIAG_ROW_diagonal, F_LOWER_DIAG_ROW_upper, F_LOWER_DIAG_ROW_diagonal, F_LOWER_DIAG_ROW_lower, F_UPPER_ROW_upper, F_UPPER_ROW_lower, F_UPPER_ROW_diagonal, F_LOWER_ROW_upper, F_LOWER_ROW_diagonal, F_LOWER_ROW_lower, F_FULL_MATRIX_diagonal⟩ := F
  refine s_aloadN B X0 (pc' := 1) d3_0 rfl rfl rfl ?_
  refine s_getF B X0 (pc' := 4) e0 (host := "") (Or.inl (tw21 hw)) Via.refl F_UPPER_DIAG_ROW_lower d3_1 rfl (fun T1 X1 e1 => ?_)
  refine s_ifY B X1 (pc' := 9) d3_4 (by decide) (by decide) (by decide) ?_
  refine s_aloadN B X1 (pc' := 10) d3_9 rfl rfl rfl ?_
  refine s_getF B X1 (pc' := 13) e1 (host := "") (Or.inl (tw25 hw)) Via.refl F_UPPER_DIAG_ROW_diagonal d3_10 rfl (fun T2 X2 e2 => ?_)
  refine s_ifN B X2 (pc' := 16) d3_13 (by decide) rfl ?_
  refine s_iloadN B X2 (pc' := 17) d3_16 rfl rfl ?_
  refine s_goto B X2 (pc' := 23) d3_17 (by decide) (by decide) ?_
  exact r_int B X2 rfl d3_23 ⟨rfl, rfl, e2⟩ (by decide) (by decide)
theorem d1_26 : decode method_2_code 26 = .ok (.iload_n 0, 1) := by decide +kernel
theorem d1_27 : decode method_2_code 27 = .ok (.iconst 3, 1) := by decide +kernel
theorem d1_28 : decode method_2_code 28 = .ok (.if_icmp .ne 7, 3) := by decide +kernel
theorem d1_31 : decode method_2_code 31 = .ok (.getstatic 19, 3) := by decide +kernel
theorem d1_34 : decode method_2_code 34 = .ok (.areturn, 1) := by decide +kernel
theorem pn_rm1_9 : plainName "com/example/stroll/stroll/LayoutEndPinLaw" = true := by first | (simp [plainName, overriddenIn]; done) | decide +kernel
set_option maxRecDepth 65536 in
set_option maxHeartbeats 40000000 in
theorem rm1_9 (l : Launch) (Z : State) (a0 : Array Value) (hw : ∀ d ∈ tables_1, d.before a0 Z = true)  (w_FULL_MATRIX w_UPPER_DIAG_ROW w_LOWER_DIAG_ROW w_UPPER_ROW w_LOWER_ROW : Addr) (h0 : Heap) (F0 : OwnF Z h0 w_FULL_MATRIX w_UPPER_DIAG_ROW w_LOWER_DIAG_ROW w_UPPER_ROW w_LOWER_ROW)  :
    OMeets l Z mn0 method_2_code 1 (some (.object "com/example/stroll/stroll/ExplicitMetric$Layout")) [] ({ frames := 0, cells := 0, slots := 0, locals := 0 } : Room) #[(.int (3 : Int32))] h0 (PureQ (some (.ref w_LOWER_ROW)) h0) := by
  refine OMeets.of pn_rm1_9 #[.val (.int (3 : Int32))] (fun m => by first | rfl | (simp [entryFrame, mkF, argsToLocals, Value.category, maxLocals]; done)) ?_
  intro p e s m below meth c s₁ B X0 e0
  have F := F0
  obtain ⟨S_FULL_MATRIX, E_FULL_MATRIX, S_UPPER_DIAG_ROW, E_UPPER_DIAG_ROW, S_LOWER_DIAG_ROW, E_LOWER_DIAG_ROW, S_UPPER_ROW, E_UPPER_ROW, S_LOWER_ROW, E_LOWER_ROW, F_FULL_MATRIX_upper, F_FULL_MATRIX_lower, F_UPPER_DIAG_ROW_upper, F_UPPER_DIAG_ROW_lower, F_UPPER_DIAG_ROW_diagonal, F_LOWER_DIAG_ROW_upper, F_LOWER_DIAG_ROW_diagonal, F_LOWER_DIAG_ROW_lower, F_UPPER_ROW_upper, F_UPPER_ROW_lower, F_UPPER_ROW_diagonal, F_LOWER_ROW_upper, F_LOWER_ROW_diagonal, F_LOWER_ROW_lower, F_FULL_MATRIX_diagonal⟩ := F
  refine s_iloadN B X0 (pc' := 1) d1_0 rfl rfl ?_
  refine s_ifY B X0 (pc' := 8) d1_1 (by decide) (by decide) (by decide) ?_
  refine s_iloadN B X0 (pc' := 9) d1_8 rfl rfl ?_
  refine s_iconst B X0 (pc' := 10) (v := (1 : Int32)) d1_9 rfl rfl ?_
  refine s_icmpY B X0 (pc' := 17) d1_10 (by decide) (by decide) (by decide) ?_
  refine s_iloadN B X0 (pc' := 18) d1_17 rfl rfl ?_
  refine s_iconst B X0 (pc' := 19) (v := (2 : Int32)) d1_18 rfl rfl ?_
  refine s_icmpY B X0 (pc' := 26) d1_19 (by decide) (by decide) (by decide) ?_
  refine s_iloadN B X0 (pc' := 27) d1_26 rfl rfl ?_
  refine s_iconst B X0 (pc' := 28) (v := (3 : Int32)) d1_27 rfl rfl ?_
  refine s_icmpN B X0 (pc' := 31) d1_28 (by decide) rfl ?_
  refine s_getS B X0 (pc' := 34) e0 (tw31 hw) Via.refl S_LOWER_ROW d1_31 rfl (fun T1 X1 e1 => ?_)
  exact r_ref B X1 (t := (.object "com/example/stroll/stroll/ExplicitMetric$Layout")) rfl rfl rfl rfl d1_34 ⟨rfl, rfl, e1⟩ (by decide) (by decide)
theorem d2_9 : decode prog_27_method_5_code 9 = .ok (.aload_n 0, 1) := by decide +kernel
theorem d2_10 : decode prog_27_method_5_code 10 = .ok (.getfield 42, 3) := by decide +kernel
theorem d2_13 : decode prog_27_method_5_code 13 = .ok (.ifCond .eq 9, 3) := by decide +kernel
theorem d2_22 : decode prog_27_method_5_code 22 = .ok (.iload_n 1, 1) := by decide +kernel
theorem d2_23 : decode prog_27_method_5_code 23 = .ok (.ireturn, 1) := by decide +kernel
theorem pn_rm2_10 : plainName "com/example/stroll/stroll/ExplicitMetric$Layout" = true := by first | (simp [plainName, overriddenIn]; done) | decide +kernel
set_option maxRecDepth 65536 in
set_option maxHeartbeats 40000000 in
theorem rm2_10 (l : Launch) (Z : State) (a0 : Array Value) (hw : ∀ d ∈ tables_1, d.before a0 Z = true) (q1 : Int32) (q2 : Int32) (w_FULL_MATRIX w_UPPER_DIAG_ROW w_LOWER_DIAG_ROW w_UPPER_ROW w_LOWER_ROW : Addr) (h0 : Heap) (F0 : OwnF Z h0 w_FULL_MATRIX w_UPPER_DIAG_ROW w_LOWER_DIAG_ROW w_UPPER_ROW w_LOWER_ROW)  :
    OMeets l Z mn1 prog_27_method_5_code 3 (some .int) [] ({ frames := 0, cells := 0, slots := 0, locals := 0 } : Room) #[(.ref w_LOWER_ROW), (.int q1), (.int q2)] h0 (PureQ (some (.int q1)) h0) := by
  refine OMeets.of pn_rm2_10 #[.val (.ref w_LOWER_ROW), .val (.int q1), .val (.int q2)] (fun m => by first | rfl | (simp [entryFrame, mkF, argsToLocals, Value.category, maxLocals]; done)) ?_
  intro p e s m below meth c s₁ B X0 e0
  have F := F0
  obtain ⟨S_FULL_MATRIX, E_FULL_MATRIX, S_UPPER_DIAG_ROW, E_UPPER_DIAG_ROW, S_LOWER_DIAG_ROW, E_LOWER_DIAG_ROW, S_UPPER_ROW, E_UPPER_ROW, S_LOWER_ROW, E_LOWER_ROW, F_FULL_MATRIX_upper, F_FULL_MATRIX_lower, F_UPPER_DIAG_ROW_upper, F_UPPER_DIAG_ROW_lower, F_UPPER_DIAG_ROW_diagonal, F_LOWER_DIAG_ROW_upper, F_LOWER_DIAG_ROW_diagonal, F_LOWER_DIAG_ROW_lower, F_UPPER_ROW_upper, F_UPPER_ROW_lower, F_UPPER_ROW_diagonal, F_LOWER_ROW_upper, F_LOWER_ROW_diagonal, F_LOWER_ROW_lower, F_FULL_MATRIX_diagonal⟩ := F
  refine s_aloadN B X0 (pc' := 1) d2_0 rfl rfl rfl ?_
  refine s_getF B X0 (pc' := 4) e0 (host := "") (Or.inl (tw14 hw)) Via.refl F_LOWER_ROW_upper d2_1 rfl (fun T1 X1 e1 => ?_)
  refine s_ifY B X1 (pc' := 9) d2_4 (by decide) (by decide) (by decide) ?_
  refine s_aloadN B X1 (pc' := 10) d2_9 rfl rfl rfl ?_
  refine s_getF B X1 (pc' := 13) e1 (host := "") (Or.inl (tw25 hw)) Via.refl F_LOWER_ROW_diagonal d2_10 rfl (fun T2 X2 e2 => ?_)
  refine s_ifY B X2 (pc' := 22) d2_13 (by decide) (by decide) (by decide) ?_
  refine s_iloadN B X2 (pc' := 23) d2_22 rfl rfl ?_
  exact r_int B X2 rfl d2_23 ⟨rfl, rfl, e2⟩ (by decide) (by decide)

theorem pn_rm3_11 : plainName "com/example/stroll/stroll/ExplicitMetric$Layout" = true := by first | (simp [plainName, overriddenIn]; done) | decide +kernel
set_option maxRecDepth 65536 in
set_option maxHeartbeats 40000000 in
theorem rm3_11 (l : Launch) (Z : State) (a0 : Array Value) (hw : ∀ d ∈ tables_1, d.before a0 Z = true) (q1 : Int32) (w_FULL_MATRIX w_UPPER_DIAG_ROW w_LOWER_DIAG_ROW w_UPPER_ROW w_LOWER_ROW : Addr) (h0 : Heap) (F0 : OwnF Z h0 w_FULL_MATRIX w_UPPER_DIAG_ROW w_LOWER_DIAG_ROW w_UPPER_ROW w_LOWER_ROW)  :
    OMeets l Z mn2 prog_27_method_4_code 2 (some .int) [] ({ frames := 0, cells := 0, slots := 0, locals := 0 } : Room) #[(.ref w_LOWER_ROW), (.int q1)] h0 (PureQ (some (.int (0 : Int32))) h0) := by
  refine OMeets.of pn_rm3_11 #[.val (.ref w_LOWER_ROW), .val (.int q1)] (fun m => by first | rfl | (simp [entryFrame, mkF, argsToLocals, Value.category, maxLocals]; done)) ?_
  intro p e s m below meth c s₁ B X0 e0
  have F := F0
  obtain ⟨S_FULL_MATRIX, E_FULL_MATRIX, S_UPPER_DIAG_ROW, E_UPPER_DIAG_ROW, S_LOWER_DIAG_ROW, E_LOWER_DIAG_ROW, S_UPPER_ROW, E_UPPER_ROW, S_LOWER_ROW, E_LOWER_ROW, F_FULL_MATRIX_upper, F_FULL_MATRIX_lower, F_UPPER_DIAG_ROW_upper, F_UPPER_DIAG_ROW_lower, F_UPPER_DIAG_ROW_diagonal, F_LOWER_DIAG_ROW_upper, F_LOWER_DIAG_ROW_diagonal, F_LOWER_DIAG_ROW_lower, F_UPPER_ROW_upper, F_UPPER_ROW_lower, F_UPPER_ROW_diagonal, F_LOWER_ROW_upper, F_LOWER_ROW_diagonal, F_LOWER_ROW_lower, F_FULL_MATRIX_diagonal⟩ := F
  refine s_aloadN B X0 (pc' := 1) d3_0 rfl rfl rfl ?_
  refine s_getF B X0 (pc' := 4) e0 (host := "") (Or.inl (tw21 hw)) Via.refl F_LOWER_ROW_lower d3_1 rfl (fun T1 X1 e1 => ?_)
  refine s_ifN B X1 (pc' := 7) d3_4 (by decide) rfl ?_
  refine s_iconst B X1 (pc' := 8) (v := (0 : Int32)) d3_7 rfl rfl ?_
  exact r_int B X1 rfl d3_8 ⟨rfl, rfl, e1⟩ (by decide) (by decide)
theorem d1_35 : decode method_2_code 35 = .ok (.getstatic 22, 3) := by decide +kernel
theorem d1_38 : decode method_2_code 38 = .ok (.areturn, 1) := by decide +kernel
theorem pn_rm1_12 : plainName "com/example/stroll/stroll/LayoutEndPinLaw" = true := by first | (simp [plainName, overriddenIn]; done) | decide +kernel
set_option maxRecDepth 65536 in
set_option maxHeartbeats 40000000 in
theorem rm1_12 (l : Launch) (Z : State) (a0 : Array Value) (hw : ∀ d ∈ tables_1, d.before a0 Z = true)  (w_FULL_MATRIX w_UPPER_DIAG_ROW w_LOWER_DIAG_ROW w_UPPER_ROW w_LOWER_ROW : Addr) (h0 : Heap) (F0 : OwnF Z h0 w_FULL_MATRIX w_UPPER_DIAG_ROW w_LOWER_DIAG_ROW w_UPPER_ROW w_LOWER_ROW)  :
    OMeets l Z mn0 method_2_code 1 (some (.object "com/example/stroll/stroll/ExplicitMetric$Layout")) [] ({ frames := 0, cells := 0, slots := 0, locals := 0 } : Room) #[(.int (4 : Int32))] h0 (PureQ (some (.ref w_LOWER_DIAG_ROW)) h0) := by
  refine OMeets.of pn_rm1_12 #[.val (.int (4 : Int32))] (fun m => by first | rfl | (simp [entryFrame, mkF, argsToLocals, Value.category, maxLocals]; done)) ?_
  intro p e s m below meth c s₁ B X0 e0
  have F := F0
  obtain ⟨S_FULL_MATRIX, E_FULL_MATRIX, S_UPPER_DIAG_ROW, E_UPPER_DIAG_ROW, S_LOWER_DIAG_ROW, E_LOWER_DIAG_ROW, S_UPPER_ROW, E_UPPER_ROW, S_LOWER_ROW, E_LOWER_ROW, F_FULL_MATRIX_upper, F_FULL_MATRIX_lower, F_UPPER_DIAG_ROW_upper, F_UPPER_DIAG_ROW_lower, F_UPPER_DIAG_ROW_diagonal, F_LOWER_DIAG_ROW_upper, F_LOWER_DIAG_ROW_diagonal, F_LOWER_DIAG_ROW_lower, F_UPPER_ROW_upper, F_UPPER_ROW_lower, F_UPPER_ROW_diagonal, F_LOWER_ROW_upper, F_LOWER_ROW_diagonal, F_LOWER_ROW_lower, F_FULL_MATRIX_diagonal⟩ := F
  refine s_iloadN B X0 (pc' := 1) d1_0 rfl rfl ?_
  refine s_ifY B X0 (pc' := 8) d1_1 (by decide) (by decide) (by decide) ?_
  refine s_iloadN B X0 (pc' := 9) d1_8 rfl rfl ?_
  refine s_iconst B X0 (pc' := 10) (v := (1 : Int32)) d1_9 rfl rfl ?_
  refine s_icmpY B X0 (pc' := 17) d1_10 (by decide) (by decide) (by decide) ?_
  refine s_iloadN B X0 (pc' := 18) d1_17 rfl rfl ?_
  refine s_iconst B X0 (pc' := 19) (v := (2 : Int32)) d1_18 rfl rfl ?_
  refine s_icmpY B X0 (pc' := 26) d1_19 (by decide) (by decide) (by decide) ?_
  refine s_iloadN B X0 (pc' := 27) d1_26 rfl rfl ?_
  refine s_iconst B X0 (pc' := 28) (v := (3 : Int32)) d1_27 rfl rfl ?_
  refine s_icmpY B X0 (pc' := 35) d1_28 (by decide) (by decide) (by decide) ?_
  refine s_getS B X0 (pc' := 38) e0 (tw27 hw) Via.refl S_LOWER_DIAG_ROW d1_35 rfl (fun T1 X1 e1 => ?_)
  exact r_ref B X1 (t := (.object "com/example/stroll/stroll/ExplicitMetric$Layout")) rfl rfl rfl rfl d1_38 ⟨rfl, rfl, e1⟩ (by decide) (by decide)
theorem d2_16 : decode prog_27_method_5_code 16 = .ok (.iload_n 1, 1) := by decide +kernel
theorem d2_17 : decode prog_27_method_5_code 17 = .ok (.iconst 1, 1) := by decide +kernel
theorem d2_18 : decode prog_27_method_5_code 18 = .ok (.iadd, 1) := by decide +kernel
theorem d2_19 : decode prog_27_method_5_code 19 = .ok (.goto 4, 3) := by decide +kernel
theorem pn_rm2_13 : plainName "com/example/stroll/stroll/ExplicitMetric$Layout" = true := by first | (simp [plainName, overriddenIn]; done) | decide +kernel
set_option maxRecDepth 65536 in
set_option maxHeartbeats 40000000 in
theorem rm2_13 (l : Launch) (Z : State) (a0 : Array Value) (hw : ∀ d ∈ tables_1, d.before a0 Z = true) (q1 : Int32) (q2 : Int32) (w_FULL_MATRIX w_UPPER_DIAG_ROW w_LOWER_DIAG_ROW w_UPPER_ROW w_LOWER_ROW : Addr) (h0 : Heap) (F0 : OwnF Z h0 w_FULL_MATRIX w_UPPER_DIAG_ROW w_LOWER_DIAG_ROW w_UPPER_ROW w_LOWER_ROW)  :
    OMeets l Z mn1 prog_27_method_5_code 3 (some .int) [] ({ frames := 0, cells := 0, slots := 0, locals := 0 } : Room) #[(.ref w_LOWER_DIAG_ROW), (.int q1), (.int q2)] h0 (PureQ (some (.int (q1 + (1 : Int32)))) h0) := by
  refine OMeets.of pn_rm2_13 #[.val (.ref w_LOWER_DIAG_ROW), .val (.int q1), .val (.int q2)] (fun m => by first | rfl | (simp [entryFrame, mkF, argsToLocals, Value.category, maxLocals]; done)) ?_
  intro p e s m below meth c s₁ B X0 e0
  have F := F0
  obtain ⟨S_FULL_MATRIX, E_FULL_MATRIX, S_UPPER_DIAG_ROW, E_UPPER_DIAG_ROW, S_LOWER_DIAG_ROW, E_LOWER_DIAG_ROW, S_UPPER_ROW, E_UPPER_ROW, S_LOWER_ROW, E_LOWER_ROW, F_FULL_MATRIX_upper, F_FULL_MATRIX_lower, F_UPPER_DIAG_ROW_upper, F_UPPER_DIAG_ROW_lower, F_UPPER_DIAG_ROW_diagonal, F_LOWER_DIAG_ROW_upper, F_LOWER_DIAG_ROW_diagonal, F_LOWER_DIAG_ROW_lower, F_UPPER_ROW_upper, F_UPPER_ROW_lower, F_UPPER_ROW_diagonal, F_LOWER_ROW_upper, F_LOWER_ROW_diagonal, F_LOWER_ROW_lower, F_FULL_MATRIX_diagonal⟩ := F
  refine s_aloadN B X0 (pc' := 1) d2_0 rfl rfl rfl ?_
  refine s_getF B X0 (pc' := 4) e0 (host := "") (Or.inl (tw14 hw)) Via.refl F_LOWER_DIAG_ROW_upper d2_1 rfl (fun T1 X1 e1 => ?_)
  refine s_ifY B X1 (pc' := 9) d2_4 (by decide) (by decide) (by decide) ?_
  refine s_aloadN B X1 (pc' := 10) d2_9 rfl rfl rfl ?_
  refine s_getF B X1 (pc' := 13) e1 (host := "") (Or.inl (tw25 hw)) Via.refl F_LOWER_DIAG_ROW_diagonal d2_10 rfl (fun T2 X2 e2 => ?_)
  refine s_ifN B X2 (pc' := 16) d2_13 (by decide) rfl ?_
  refine s_iloadN B X2 (pc' := 17) d2_16 rfl rfl ?_
  refine s_iconst B X2 (pc' := 18) (v := (1 : Int32)) d2_17 rfl rfl ?_
  refine s_iadd B X2 (pc' := 19) (v := (q1 + (1 : Int32))) d2_18 rfl rfl ?_
  refine s_goto B X2 (pc' := 23) d2_19 (by decide) (by decide) ?_
  exact r_int B X2 rfl d2_23 ⟨rfl, rfl, e2⟩ (by decide) (by decide)

theorem pn_rm3_14 : plainName "com/example/stroll/stroll/ExplicitMetric$Layout" = true := by first | (simp [plainName, overriddenIn]; done) | decide +kernel
set_option maxRecDepth 65536 in
set_option maxHeartbeats 40000000 in
theorem rm3_14 (l : Launch) (Z : State) (a0 : Array Value) (hw : ∀ d ∈ tables_1, d.before a0 Z = true) (q1 : Int32) (w_FULL_MATRIX w_UPPER_DIAG_ROW w_LOWER_DIAG_ROW w_UPPER_ROW w_LOWER_ROW : Addr) (h0 : Heap) (F0 : OwnF Z h0 w_FULL_MATRIX w_UPPER_DIAG_ROW w_LOWER_DIAG_ROW w_UPPER_ROW w_LOWER_ROW)  :
    OMeets l Z mn2 prog_27_method_4_code 2 (some .int) [] ({ frames := 0, cells := 0, slots := 0, locals := 0 } : Room) #[(.ref w_LOWER_DIAG_ROW), (.int q1)] h0 (PureQ (some (.int (0 : Int32))) h0) := by
  refine OMeets.of pn_rm3_14 #[.val (.ref w_LOWER_DIAG_ROW), .val (.int q1)] (fun m => by first | rfl | (simp [entryFrame, mkF, argsToLocals, Value.category, maxLocals]; done)) ?_
  intro p e s m below meth c s₁ B X0 e0
  have F := F0
  obtain ⟨S_FULL_MATRIX, E_FULL_MATRIX, S_UPPER_DIAG_ROW, E_UPPER_DIAG_ROW, S_LOWER_DIAG_ROW, E_LOWER_DIAG_ROW, S_UPPER_ROW, E_UPPER_ROW, S_LOWER_ROW, E_LOWER_ROW, F_FULL_MATRIX_upper, F_FULL_MATRIX_lower, F_UPPER_DIAG_ROW_upper, F_UPPER_DIAG_ROW_lower, F_UPPER_DIAG_ROW_diagonal, F_LOWER_DIAG_ROW_upper, F_LOWER_DIAG_ROW_diagonal, F_LOWER_DIAG_ROW_lower, F_UPPER_ROW_upper, F_UPPER_ROW_lower, F_UPPER_ROW_diagonal, F_LOWER_ROW_upper, F_LOWER_ROW_diagonal, F_LOWER_ROW_lower, F_FULL_MATRIX_diagonal⟩ := F
  refine s_aloadN B X0 (pc' := 1) d3_0 rfl rfl rfl ?_
  refine s_getF B X0 (pc' := 4) e0 (host := "") (Or.inl (tw21 hw)) Via.refl F_LOWER_DIAG_ROW_lower d3_1 rfl (fun T1 X1 e1 => ?_)
  refine s_ifN B X1 (pc' := 7) d3_4 (by decide) rfl ?_
  refine s_iconst B X1 (pc' := 8) (v := (0 : Int32)) d3_7 rfl rfl ?_
  exact r_int B X1 rfl d3_8 ⟨rfl, rfl, e1⟩ (by decide) (by decide)

theorem pn_rm_law : plainName "com/example/stroll/stroll/LayoutEndPinLaw" = true := by first | (simp [plainName, overriddenIn]; done) | decide +kernel
set_option maxRecDepth 65536 in
set_option maxHeartbeats 40000000 in
theorem rm_law (l : Launch) (Z : State) (a0 : Array Value) (hw : ∀ d ∈ tables_1, d.before a0 Z = true) (i0 : Int32) (i1 : Int32) (i2 : Int32) (i3 : Int32) (w_FULL_MATRIX w_UPPER_DIAG_ROW w_LOWER_DIAG_ROW w_UPPER_ROW w_LOWER_ROW : Addr) (F0 : OwnF Z Z.heap w_FULL_MATRIX w_UPPER_DIAG_ROW w_LOWER_DIAG_ROW w_UPPER_ROW w_LOWER_ROW) :
    OMeets l Z x code maxLocals ret tables_1 room_1 #[(.int i0), (.int i1), (.int i2), (.int i3)] Z.heap (fun v h L => v = some (.int 1) ∧ Fr Z.heap.size L) := by
  refine OMeets.of pn_rm_law #[.val (.int i0), .val (.int i1), .val (.int i2), .val (.int i3), .unset, .unset, .unset, .unset, .unset, .unset, .unset, .unset, .unset, .unset] (fun m => by first | rfl | (simp [entryFrame, mkF, argsToLocals, Value.category, maxLocals]; done)) ?_
  intro p e s m below meth c s₁ B X0 e0
  have F := F0
  obtain ⟨S_FULL_MATRIX, E_FULL_MATRIX, S_UPPER_DIAG_ROW, E_UPPER_DIAG_ROW, S_LOWER_DIAG_ROW, E_LOWER_DIAG_ROW, S_UPPER_ROW, E_UPPER_ROW, S_LOWER_ROW, E_LOWER_ROW, F_FULL_MATRIX_upper, F_FULL_MATRIX_lower, F_UPPER_DIAG_ROW_upper, F_UPPER_DIAG_ROW_lower, F_UPPER_DIAG_ROW_diagonal, F_LOWER_DIAG_ROW_upper, F_LOWER_DIAG_ROW_diagonal, F_LOWER_DIAG_ROW_lower, F_UPPER_ROW_upper, F_UPPER_ROW_lower, F_UPPER_ROW_diagonal, F_LOWER_ROW_upper, F_LOWER_ROW_diagonal, F_LOWER_ROW_lower, F_FULL_MATRIX_diagonal⟩ := F
  obtain ⟨S, hS, S1, S2⟩ := own_size i1
  obtain ⟨R, hR, R0, R1⟩ := own_mod i2 S S1
  obtain ⟨C, hC, C0, C1⟩ := own_mod i3 S S1
  have e1 := own_inc R1 S2 R0
  have z0 : (0 : Int32).toInt = 0 := by decide
  have hSne : S ≠ 0 := fun q => by rw [q] at S1; exact absurd S1 (by decide)
  rcases (by omega : C.toInt < R.toInt ∨ C.toInt = R.toInt ∨ R.toInt < C.toInt) with hT | hT | hT
  · rcases own_rem5 i0 with hv1 | hv1 | hv1 | hv1 | hv1
    · refine s_iloadN B X0 (pc' := 1) at_0 rfl rfl ?_
      refine s_ldc B X0 (pc' := 3) (v := (2147483647 : Int32)) (tw0 hw) at_1 rfl ?_
      refine s_iand B X0 (pc' := 4) (v := (i0 &&& (2147483647 : Int32))) at_3 rfl rfl ?_
      refine s_iconst B X0 (pc' := 5) (v := (5 : Int32)) at_4 rfl rfl ?_
      refine s_irem B X0 (pc' := 6) (v := (0 : Int32)) at_5 (hv1) (by decide) rfl ?_
      refine s_istore B X0 (pc' := 8) (Ls' := #[.val (.int i0), .val (.int i1), .val (.int i2), .val (.int i3), .val (.int (0 : Int32)), .unset, .unset, .unset, .unset, .unset, .unset, .unset, .unset, .unset]) at_6 rfl rfl ?_
      refine s_iloadN B X0 (pc' := 9) at_8 rfl rfl ?_
      refine s_ldc B X0 (pc' := 11) (v := (2147483647 : Int32)) (tw0 hw) at_9 rfl ?_
      refine s_iand B X0 (pc' := 12) (v := (i1 &&& (2147483647 : Int32))) at_11 rfl rfl ?_
      refine s_ldc B X0 (pc' := 14) (v := (65536 : Int32)) (tw1 hw) at_12 rfl ?_
      refine s_irem B X0 (pc' := 15) (v := ((i1 &&& (2147483647 : Int32)) % (65536 : Int32))) at_14 rfl (by decide) rfl ?_
      refine s_iconst B X0 (pc' := 16) (v := (1 : Int32)) at_15 rfl rfl ?_
      refine s_iadd B X0 (pc' := 17) (v := S) at_16 (hS) rfl ?_
      refine s_istore B X0 (pc' := 19) (Ls' := #[.val (.int i0), .val (.int i1), .val (.int i2), .val (.int i3), .val (.int (0 : Int32)), .val (.int S), .unset, .unset, .unset, .unset, .unset, .unset, .unset, .unset]) at_17 rfl rfl ?_
      refine s_iloadN B X0 (pc' := 20) at_19 rfl rfl ?_
      refine s_ldc B X0 (pc' := 22) (v := (2147483647 : Int32)) (tw0 hw) at_20 rfl ?_
      refine s_iand B X0 (pc' := 23) (v := (i2 &&& (2147483647 : Int32))) at_22 rfl rfl ?_
      refine s_iload B X0 (pc' := 25) at_23 rfl rfl ?_
      refine s_irem B X0 (pc' := 26) (v := R) at_25 (hR) hSne rfl ?_
      refine s_istore B X0 (pc' := 28) (Ls' := #[.val (.int i0), .val (.int i1), .val (.int i2), .val (.int i3), .val (.int (0 : Int32)), .val (.int S), .val (.int R), .unset, .unset, .unset, .unset, .unset, .unset, .unset]) at_26 rfl rfl ?_
      refine s_iloadN B X0 (pc' := 29) at_28 rfl rfl ?_
      refine s_ldc B X0 (pc' := 31) (v := (2147483647 : Int32)) (tw0 hw) at_29 rfl ?_
      refine s_iand B X0 (pc' := 32) (v := (i3 &&& (2147483647 : Int32))) at_31 rfl rfl ?_
      refine s_iload B X0 (pc' := 34) at_32 rfl rfl ?_
      refine s_irem B X0 (pc' := 35) (v := C) at_34 (hC) hSne rfl ?_
      refine s_istore B X0 (pc' := 37) (Ls' := #[.val (.int i0), .val (.int i1), .val (.int i2), .val (.int i3), .val (.int (0 : Int32)), .val (.int S), .val (.int R), .val (.int C), .unset, .unset, .unset, .unset, .unset, .unset]) at_35 rfl rfl ?_
      refine s_iload B X0 (pc' := 39) at_37 rfl rfl ?_
      refine p_static B X0 (y := mn0) (pc' := 42) (argsL := [(.int (0 : Int32))]) (under := []) (W := 0) e0 (tw2 hw) (tw3 hw) (tw5 hw) (tw4 hw) (by decide) (rm1_0 l Z a0 hw  w_FULL_MATRIX w_UPPER_DIAG_ROW w_LOWER_DIAG_ROW w_UPPER_ROW w_LOWER_ROW Z.heap F0 ) (lenOf pd_0 rfl) rfl rfl (by decide) (by decide) rfl rfl (by decide) (by decide) rfl at_39 rfl (fun T2 X2 e2 => ?_)
      show Go p e below _ (T2.setTop (mkF m 42 #[.val (.int i0), .val (.int i1), .val (.int i2), .val (.int i3), .val (.int (0 : Int32)), .val (.int S), .val (.int R), .val (.int C), .unset, .unset, .unset, .unset, .unset, .unset] [(.ref w_FULL_MATRIX)]))
      refine s_astore B X2 (pc' := 44) (Ls' := #[.val (.int i0), .val (.int i1), .val (.int i2), .val (.int i3), .val (.int (0 : Int32)), .val (.int S), .val (.int R), .val (.int C), .val (.ref w_FULL_MATRIX), .unset, .unset, .unset, .unset, .unset]) at_42 rfl rfl rfl ?_
      refine s_aload B X2 (pc' := 46) at_44 rfl rfl rfl ?_
      refine s_iload B X2 (pc' := 48) at_46 rfl rfl ?_
      refine s_iload B X2 (pc' := 50) at_48 rfl rfl ?_
      refine p_virtual B X2 (y := mn1) (pc' := 53) (argsL := [(.int R), (.int S)]) (under := []) (W := 0) e2 (tw9 hw) (tw10 hw) (tw12 hw) (tw11 hw) (tw13 hw) (tw7 hw) (by decide) (rm2_1 l Z a0 hw R S w_FULL_MATRIX w_UPPER_DIAG_ROW w_LOWER_DIAG_ROW w_UPPER_ROW w_LOWER_ROW Z.heap F0 ) E_FULL_MATRIX (lenOf pd_1 rfl) rfl rfl (by decide) (by decide) rfl rfl (by decide) (by decide) rfl at_50 rfl (fun T3 X3 e3 => ?_)
      show Go p e below _ (T3.setTop (mkF m 53 #[.val (.int i0), .val (.int i1), .val (.int i2), .val (.int i3), .val (.int (0 : Int32)), .val (.int S), .val (.int R), .val (.int C), .val (.ref w_FULL_MATRIX), .unset, .unset, .unset, .unset, .unset] [(.int S)]))
      refine s_istore B X3 (pc' := 55) (Ls' := #[.val (.int i0), .val (.int i1), .val (.int i2), .val (.int i3), .val (.int (0 : Int32)), .val (.int S), .val (.int R), .val (.int C), .val (.ref w_FULL_MATRIX), .val (.int S), .unset, .unset, .unset, .unset]) at_53 rfl rfl ?_
      refine s_aload B X3 (pc' := 57) at_55 rfl rfl rfl ?_
      refine s_iload B X3 (pc' := 59) at_57 rfl rfl ?_
      refine p_virtual B X3 (y := mn2) (pc' := 62) (argsL := [(.int R)]) (under := []) (W := 0) e3 (tw16 hw) (tw17 hw) (tw19 hw) (tw18 hw) (tw20 hw) (tw7 hw) (by decide) (rm3_2 l Z a0 hw R w_FULL_MATRIX w_UPPER_DIAG_ROW w_LOWER_DIAG_ROW w_UPPER_ROW w_LOWER_ROW Z.heap F0 ) E_FULL_MATRIX (lenOf pd_2 rfl) rfl rfl (by decide) (by decide) rfl rfl (by decide) (by decide) rfl at_59 rfl (fun T4 X4 e4 => ?_)
      show Go p e below _ (T4.setTop (mkF m 62 #[.val (.int i0), .val (.int i1), .val (.int i2), .val (.int i3), .val (.int (0 : Int32)), .val (.int S), .val (.int R), .val (.int C), .val (.ref w_FULL_MATRIX), .val (.int S), .unset, .unset, .unset, .unset] [(.int (0 : Int32))]))
      refine s_istore B X4 (pc' := 64) (Ls' := #[.val (.int i0), .val (.int i1), .val (.int i2), .val (.int i3), .val (.int (0 : Int32)), .val (.int S), .val (.int R), .val (.int C), .val (.ref w_FULL_MATRIX), .val (.int S), .val (.int (0 : Int32)), .unset, .unset, .unset]) at_62 rfl rfl ?_
      refine s_iload B X4 (pc' := 66) at_64 rfl rfl ?_
      refine s_ifN B X4 (pc' := 69) at_66 (by decide) rfl ?_
      refine s_iload B X4 (pc' := 71) at_69 rfl rfl ?_
      refine s_istore B X4 (pc' := 73) (Ls' := #[.val (.int i0), .val (.int i1), .val (.int i2), .val (.int i3), .val (.int (0 : Int32)), .val (.int S), .val (.int R), .val (.int C), .val (.ref w_FULL_MATRIX), .val (.int S), .val (.int (0 : Int32)), .val (.int S), .unset, .unset]) at_71 rfl rfl ?_
      refine s_iconst B X4 (pc' := 74) (v := (1 : Int32)) at_73 rfl rfl ?_
      refine s_istore B X4 (pc' := 76) (Ls' := #[.val (.int i0), .val (.int i1), .val (.int i2), .val (.int i3), .val (.int (0 : Int32)), .val (.int S), .val (.int R), .val (.int C), .val (.ref w_FULL_MATRIX), .val (.int S), .val (.int (0 : Int32)), .val (.int S), .val (.int (1 : Int32)), .unset]) at_74 rfl rfl ?_
      refine s_goto B X4 (pc' := 180) at_76 (by decide) (by decide) ?_
      refine s_iload B X4 (pc' := 182) at_180 rfl rfl ?_
      refine s_iload B X4 (pc' := 184) at_182 rfl rfl ?_
      refine b_icmp_gt B X4 (py := 198) (pn := 187) at_184 (by decide) (by decide) rfl (fun q => absurd q (by simp only [Int32.lt_iff_toInt_lt, ← Int32.toInt_inj, e1, z0]; omega)) (fun _ => ?_)
      refine s_iload B X4 (pc' := 189) at_187 rfl rfl ?_
      refine s_iload B X4 (pc' := 191) at_189 rfl rfl ?_
      refine b_icmp_ge B X4 (py := 198) (pn := 194) at_191 (by decide) (by decide) rfl (fun q => absurd (by simp only [Int32.lt_iff_toInt_lt, ← Int32.toInt_inj, e1, z0]; omega) q) (fun _ => ?_)
      refine s_iconst B X4 (pc' := 195) (v := (1 : Int32)) at_194 rfl rfl ?_
      refine s_goto B X4 (pc' := 199) at_195 (by decide) (by decide) ?_
      refine s_istore B X4 (pc' := 201) (Ls' := #[.val (.int i0), .val (.int i1), .val (.int i2), .val (.int i3), .val (.int (0 : Int32)), .val (.int S), .val (.int R), .val (.int C), .val (.ref w_FULL_MATRIX), .val (.int S), .val (.int (0 : Int32)), .val (.int S), .val (.int (1 : Int32)), .val (.int (1 : Int32))]) at_199 rfl rfl ?_
      refine s_iload B X4 (pc' := 203) at_201 rfl rfl ?_
      refine s_iload B X4 (pc' := 205) at_203 rfl rfl ?_
      refine b_icmp_ne B X4 (py := 219) (pn := 208) at_205 (by decide) (by decide) rfl (fun q => absurd rfl q) (fun _ => ?_)
      refine s_iload B X4 (pc' := 210) at_208 rfl rfl ?_
      refine s_iload B X4 (pc' := 212) at_210 rfl rfl ?_
      refine s_icmpN B X4 (pc' := 215) at_212 (by decide) rfl ?_
      refine s_iconst B X4 (pc' := 216) (v := (1 : Int32)) at_215 rfl rfl ?_
      refine s_goto B X4 (pc' := 220) at_216 (by decide) (by decide) ?_
      exact r_nar B X4 (t := .boolean) (by simp) rfl at_220 ⟨rfl, (Fr.nil _)⟩ (by decide) (by decide)
    · refine s_iloadN B X0 (pc' := 1) at_0 rfl rfl ?_
      refine s_ldc B X0 (pc' := 3) (v := (2147483647 : Int32)) (tw0 hw) at_1 rfl ?_
      refine s_iand B X0 (pc' := 4) (v := (i0 &&& (2147483647 : Int32))) at_3 rfl rfl ?_
      refine s_iconst B X0 (pc' := 5) (v := (5 : Int32)) at_4 rfl rfl ?_
      refine s_irem B X0 (pc' := 6) (v := (1 : Int32)) at_5 (hv1) (by decide) rfl ?_
      refine s_istore B X0 (pc' := 8) (Ls' := #[.val (.int i0), .val (.int i1), .val (.int i2), .val (.int i3), .val (.int (1 : Int32)), .unset, .unset, .unset, .unset, .unset, .unset, .unset, .unset, .unset]) at_6 rfl rfl ?_
      refine s_iloadN B X0 (pc' := 9) at_8 rfl rfl ?_
      refine s_ldc B X0 (pc' := 11) (v := (2147483647 : Int32)) (tw0 hw) at_9 rfl ?_
      refine s_iand B X0 (pc' := 12) (v := (i1 &&& (2147483647 : Int32))) at_11 rfl rfl ?_
      refine s_ldc B X0 (pc' := 14) (v := (65536 : Int32)) (tw1 hw) at_12 rfl ?_
      refine s_irem B X0 (pc' := 15) (v := ((i1 &&& (2147483647 : Int32)) % (65536 : Int32))) at_14 rfl (by decide) rfl ?_
      refine s_iconst B X0 (pc' := 16) (v := (1 : Int32)) at_15 rfl rfl ?_
      refine s_iadd B X0 (pc' := 17) (v := S) at_16 (hS) rfl ?_
      refine s_istore B X0 (pc' := 19) (Ls' := #[.val (.int i0), .val (.int i1), .val (.int i2), .val (.int i3), .val (.int (1 : Int32)), .val (.int S), .unset, .unset, .unset, .unset, .unset, .unset, .unset, .unset]) at_17 rfl rfl ?_
      refine s_iloadN B X0 (pc' := 20) at_19 rfl rfl ?_
      refine s_ldc B X0 (pc' := 22) (v := (2147483647 : Int32)) (tw0 hw) at_20 rfl ?_
      refine s_iand B X0 (pc' := 23) (v := (i2 &&& (2147483647 : Int32))) at_22 rfl rfl ?_
      refine s_iload B X0 (pc' := 25) at_23 rfl rfl ?_
      refine s_irem B X0 (pc' := 26) (v := R) at_25 (hR) hSne rfl ?_
      refine s_istore B X0 (pc' := 28) (Ls' := #[.val (.int i0), .val (.int i1), .val (.int i2), .val (.int i3), .val (.int (1 : Int32)), .val (.int S), .val (.int R), .unset, .unset, .unset, .unset, .unset, .unset, .unset]) at_26 rfl rfl ?_
      refine s_iloadN B X0 (pc' := 29) at_28 rfl rfl ?_
      refine s_ldc B X0 (pc' := 31) (v := (2147483647 : Int32)) (tw0 hw) at_29 rfl ?_
      refine s_iand B X0 (pc' := 32) (v := (i3 &&& (2147483647 : Int32))) at_31 rfl rfl ?_
      refine s_iload B X0 (pc' := 34) at_32 rfl rfl ?_
      refine s_irem B X0 (pc' := 35) (v := C) at_34 (hC) hSne rfl ?_
      refine s_istore B X0 (pc' := 37) (Ls' := #[.val (.int i0), .val (.int i1), .val (.int i2), .val (.int i3), .val (.int (1 : Int32)), .val (.int S), .val (.int R), .val (.int C), .unset, .unset, .unset, .unset, .unset, .unset]) at_35 rfl rfl ?_
      refine s_iload B X0 (pc' := 39) at_37 rfl rfl ?_
      refine p_static B X0 (y := mn0) (pc' := 42) (argsL := [(.int (1 : Int32))]) (under := []) (W := 0) e0 (tw2 hw) (tw3 hw) (tw5 hw) (tw4 hw) (by decide) (rm1_3 l Z a0 hw  w_FULL_MATRIX w_UPPER_DIAG_ROW w_LOWER_DIAG_ROW w_UPPER_ROW w_LOWER_ROW Z.heap F0 ) (lenOf pd_0 rfl) rfl rfl (by decide) (by decide) rfl rfl (by decide) (by decide) rfl at_39 rfl (fun T5 X5 e5 => ?_)
      show Go p e below _ (T5.setTop (mkF m 42 #[.val (.int i0), .val (.int i1), .val (.int i2), .val (.int i3), .val (.int (1 : Int32)), .val (.int S), .val (.int R), .val (.int C), .unset, .unset, .unset, .unset, .unset, .unset] [(.ref w_UPPER_ROW)]))
      refine s_astore B X5 (pc' := 44) (Ls' := #[.val (.int i0), .val (.int i1), .val (.int i2), .val (.int i3), .val (.int (1 : Int32)), .val (.int S), .val (.int R), .val (.int C), .val (.ref w_UPPER_ROW), .unset, .unset, .unset, .unset, .unset]) at_42 rfl rfl rfl ?_
      refine s_aload B X5 (pc' := 46) at_44 rfl rfl rfl ?_
      refine s_iload B X5 (pc' := 48) at_46 rfl rfl ?_
      refine s_iload B X5 (pc' := 50) at_48 rfl rfl ?_
      refine p_virtual B X5 (y := mn1) (pc' := 53) (argsL := [(.int R), (.int S)]) (under := []) (W := 0) e5 (tw9 hw) (tw10 hw) (tw12 hw) (tw11 hw) (tw13 hw) (tw7 hw) (by decide) (rm2_4 l Z a0 hw R S w_FULL_MATRIX w_UPPER_DIAG_ROW w_LOWER_DIAG_ROW w_UPPER_ROW w_LOWER_ROW Z.heap F0 ) E_UPPER_ROW (lenOf pd_1 rfl) rfl rfl (by decide) (by decide) rfl rfl (by decide) (by decide) rfl at_50 rfl (fun T6 X6 e6 => ?_)
      show Go p e below _ (T6.setTop (mkF m 53 #[.val (.int i0), .val (.int i1), .val (.int i2), .val (.int i3), .val (.int (1 : Int32)), .val (.int S), .val (.int R), .val (.int C), .val (.ref w_UPPER_ROW), .unset, .unset, .unset, .unset, .unset] [(.int S)]))
      refine s_istore B X6 (pc' := 55) (Ls' := #[.val (.int i0), .val (.int i1), .val (.int i2), .val (.int i3), .val (.int (1 : Int32)), .val (.int S), .val (.int R), .val (.int C), .val (.ref w_UPPER_ROW), .val (.int S), .unset, .unset, .unset, .unset]) at_53 rfl rfl ?_
      refine s_aload B X6 (pc' := 57) at_55 rfl rfl rfl ?_
      refine s_iload B X6 (pc' := 59) at_57 rfl rfl ?_
      refine p_virtual B X6 (y := mn2) (pc' := 62) (argsL := [(.int R)]) (under := []) (W := 0) e6 (tw16 hw) (tw17 hw) (tw19 hw) (tw18 hw) (tw20 hw) (tw7 hw) (by decide) (rm3_5 l Z a0 hw R w_FULL_MATRIX w_UPPER_DIAG_ROW w_LOWER_DIAG_ROW w_UPPER_ROW w_LOWER_ROW Z.heap F0 ) E_UPPER_ROW (lenOf pd_2 rfl) rfl rfl (by decide) (by decide) rfl rfl (by decide) (by decide) rfl at_59 rfl (fun T7 X7 e7 => ?_)
      show Go p e below _ (T7.setTop (mkF m 62 #[.val (.int i0), .val (.int i1), .val (.int i2), .val (.int i3), .val (.int (1 : Int32)), .val (.int S), .val (.int R), .val (.int C), .val (.ref w_UPPER_ROW), .val (.int S), .unset, .unset, .unset, .unset] [(.int (R + (1 : Int32)))]))
      refine s_istore B X7 (pc' := 64) (Ls' := #[.val (.int i0), .val (.int i1), .val (.int i2), .val (.int i3), .val (.int (1 : Int32)), .val (.int S), .val (.int R), .val (.int C), .val (.ref w_UPPER_ROW), .val (.int S), .val (.int (R + (1 : Int32))), .unset, .unset, .unset]) at_62 rfl rfl ?_
      refine s_iload B X7 (pc' := 66) at_64 rfl rfl ?_
      refine s_ifY B X7 (pc' := 79) at_66 (by decide) (by decide) (by decide) ?_
      refine s_iload B X7 (pc' := 81) at_79 rfl rfl ?_
      refine s_iconst B X7 (pc' := 82) (v := (1 : Int32)) at_81 rfl rfl ?_
      refine s_icmpN B X7 (pc' := 85) at_82 (by decide) rfl ?_
      refine s_iload B X7 (pc' := 87) at_85 rfl rfl ?_
      refine s_istore B X7 (pc' := 89) (Ls' := #[.val (.int i0), .val (.int i1), .val (.int i2), .val (.int i3), .val (.int (1 : Int32)), .val (.int S), .val (.int R), .val (.int C), .val (.ref w_UPPER_ROW), .val (.int S), .val (.int (R + (1 : Int32))), .val (.int S), .unset, .unset]) at_87 rfl rfl ?_
      refine s_iload B X7 (pc' := 91) at_89 rfl rfl ?_
      refine s_iload B X7 (pc' := 93) at_91 rfl rfl ?_
      refine b_icmp_le B X7 (py := 100) (pn := 96) at_93 (by decide) (by decide) rfl (fun _ => ?_) (fun q => absurd q (by simp only [Int32.lt_iff_toInt_lt, ← Int32.toInt_inj, e1, z0]; omega))
      refine s_iconst B X7 (pc' := 101) (v := (0 : Int32)) at_100 rfl rfl ?_
      refine s_istore B X7 (pc' := 103) (Ls' := #[.val (.int i0), .val (.int i1), .val (.int i2), .val (.int i3), .val (.int (1 : Int32)), .val (.int S), .val (.int R), .val (.int C), .val (.ref w_UPPER_ROW), .val (.int S), .val (.int (R + (1 : Int32))), .val (.int S), .val (.int (0 : Int32)), .unset]) at_101 rfl rfl ?_
      refine s_goto B X7 (pc' := 180) at_103 (by decide) (by decide) ?_
      refine s_iload B X7 (pc' := 182) at_180 rfl rfl ?_
      refine s_iload B X7 (pc' := 184) at_182 rfl rfl ?_
      refine b_icmp_gt B X7 (py := 198) (pn := 187) at_184 (by decide) (by decide) rfl (fun _ => ?_) (fun q => absurd (by simp only [Int32.lt_iff_toInt_lt, ← Int32.toInt_inj, e1, z0]; omega) q)
      refine s_iconst B X7 (pc' := 199) (v := (0 : Int32)) at_198 rfl rfl ?_
      refine s_istore B X7 (pc' := 201) (Ls' := #[.val (.int i0), .val (.int i1), .val (.int i2), .val (.int i3), .val (.int (1 : Int32)), .val (.int S), .val (.int R), .val (.int C), .val (.ref w_UPPER_ROW), .val (.int S), .val (.int (R + (1 : Int32))), .val (.int S), .val (.int (0 : Int32)), .val (.int (0 : Int32))]) at_199 rfl rfl ?_
      refine s_iload B X7 (pc' := 203) at_201 rfl rfl ?_
      refine s_iload B X7 (pc' := 205) at_203 rfl rfl ?_
      refine b_icmp_ne B X7 (py := 219) (pn := 208) at_205 (by decide) (by decide) rfl (fun q => absurd rfl q) (fun _ => ?_)
      refine s_iload B X7 (pc' := 210) at_208 rfl rfl ?_
      refine s_iload B X7 (pc' := 212) at_210 rfl rfl ?_
      refine s_icmpN B X7 (pc' := 215) at_212 (by decide) rfl ?_
      refine s_iconst B X7 (pc' := 216) (v := (1 : Int32)) at_215 rfl rfl ?_
      refine s_goto B X7 (pc' := 220) at_216 (by decide) (by decide) ?_
      exact r_nar B X7 (t := .boolean) (by simp) rfl at_220 ⟨rfl, (Fr.nil _)⟩ (by decide) (by decide)
    · refine s_iloadN B X0 (pc' := 1) at_0 rfl rfl ?_
      refine s_ldc B X0 (pc' := 3) (v := (2147483647 : Int32)) (tw0 hw) at_1 rfl ?_
      refine s_iand B X0 (pc' := 4) (v := (i0 &&& (2147483647 : Int32))) at_3 rfl rfl ?_
      refine s_iconst B X0 (pc' := 5) (v := (5 : Int32)) at_4 rfl rfl ?_
      refine s_irem B X0 (pc' := 6) (v := (2 : Int32)) at_5 (hv1) (by decide) rfl ?_
      refine s_istore B X0 (pc' := 8) (Ls' := #[.val (.int i0), .val (.int i1), .val (.int i2), .val (.int i3), .val (.int (2 : Int32)), .unset, .unset, .unset, .unset, .unset, .unset, .unset, .unset, .unset]) at_6 rfl rfl ?_
      refine s_iloadN B X0 (pc' := 9) at_8 rfl rfl ?_
      refine s_ldc B X0 (pc' := 11) (v := (2147483647 : Int32)) (tw0 hw) at_9 rfl ?_
      refine s_iand B X0 (pc' := 12) (v := (i1 &&& (2147483647 : Int32))) at_11 rfl rfl ?_
      refine s_ldc B X0 (pc' := 14) (v := (65536 : Int32)) (tw1 hw) at_12 rfl ?_
      refine s_irem B X0 (pc' := 15) (v := ((i1 &&& (2147483647 : Int32)) % (65536 : Int32))) at_14 rfl (by decide) rfl ?_
      refine s_iconst B X0 (pc' := 16) (v := (1 : Int32)) at_15 rfl rfl ?_
      refine s_iadd B X0 (pc' := 17) (v := S) at_16 (hS) rfl ?_
      refine s_istore B X0 (pc' := 19) (Ls' := #[.val (.int i0), .val (.int i1), .val (.int i2), .val (.int i3), .val (.int (2 : Int32)), .val (.int S), .unset, .unset, .unset, .unset, .unset, .unset, .unset, .unset]) at_17 rfl rfl ?_
      refine s_iloadN B X0 (pc' := 20) at_19 rfl rfl ?_
      refine s_ldc B X0 (pc' := 22) (v := (2147483647 : Int32)) (tw0 hw) at_20 rfl ?_
      refine s_iand B X0 (pc' := 23) (v := (i2 &&& (2147483647 : Int32))) at_22 rfl rfl ?_
      refine s_iload B X0 (pc' := 25) at_23 rfl rfl ?_
      refine s_irem B X0 (pc' := 26) (v := R) at_25 (hR) hSne rfl ?_
      refine s_istore B X0 (pc' := 28) (Ls' := #[.val (.int i0), .val (.int i1), .val (.int i2), .val (.int i3), .val (.int (2 : Int32)), .val (.int S), .val (.int R), .unset, .unset, .unset, .unset, .unset, .unset, .unset]) at_26 rfl rfl ?_
      refine s_iloadN B X0 (pc' := 29) at_28 rfl rfl ?_
      refine s_ldc B X0 (pc' := 31) (v := (2147483647 : Int32)) (tw0 hw) at_29 rfl ?_
      refine s_iand B X0 (pc' := 32) (v := (i3 &&& (2147483647 : Int32))) at_31 rfl rfl ?_
      refine s_iload B X0 (pc' := 34) at_32 rfl rfl ?_
      refine s_irem B X0 (pc' := 35) (v := C) at_34 (hC) hSne rfl ?_
      refine s_istore B X0 (pc' := 37) (Ls' := #[.val (.int i0), .val (.int i1), .val (.int i2), .val (.int i3), .val (.int (2 : Int32)), .val (.int S), .val (.int R), .val (.int C), .unset, .unset, .unset, .unset, .unset, .unset]) at_35 rfl rfl ?_
      refine s_iload B X0 (pc' := 39) at_37 rfl rfl ?_
      refine p_static B X0 (y := mn0) (pc' := 42) (argsL := [(.int (2 : Int32))]) (under := []) (W := 0) e0 (tw2 hw) (tw3 hw) (tw5 hw) (tw4 hw) (by decide) (rm1_6 l Z a0 hw  w_FULL_MATRIX w_UPPER_DIAG_ROW w_LOWER_DIAG_ROW w_UPPER_ROW w_LOWER_ROW Z.heap F0 ) (lenOf pd_0 rfl) rfl rfl (by decide) (by decide) rfl rfl (by decide) (by decide) rfl at_39 rfl (fun T8 X8 e8 => ?_)
      show Go p e below _ (T8.setTop (mkF m 42 #[.val (.int i0), .val (.int i1), .val (.int i2), .val (.int i3), .val (.int (2 : Int32)), .val (.int S), .val (.int R), .val (.int C), .unset, .unset, .unset, .unset, .unset, .unset] [(.ref w_UPPER_DIAG_ROW)]))
      refine s_astore B X8 (pc' := 44) (Ls' := #[.val (.int i0), .val (.int i1), .val (.int i2), .val (.int i3), .val (.int (2 : Int32)), .val (.int S), .val (.int R), .val (.int C), .val (.ref w_UPPER_DIAG_ROW), .unset, .unset, .unset, .unset, .unset]) at_42 rfl rfl rfl ?_
      refine s_aload B X8 (pc' := 46) at_44 rfl rfl rfl ?_
      refine s_iload B X8 (pc' := 48) at_46 rfl rfl ?_
      refine s_iload B X8 (pc' := 50) at_48 rfl rfl ?_
      refine p_virtual B X8 (y := mn1) (pc' := 53) (argsL := [(.int R), (.int S)]) (under := []) (W := 0) e8 (tw9 hw) (tw10 hw) (tw12 hw) (tw11 hw) (tw13 hw) (tw7 hw) (by decide) (rm2_7 l Z a0 hw R S w_FULL_MATRIX w_UPPER_DIAG_ROW w_LOWER_DIAG_ROW w_UPPER_ROW w_LOWER_ROW Z.heap F0 ) E_UPPER_DIAG_ROW (lenOf pd_1 rfl) rfl rfl (by decide) (by decide) rfl rfl (by decide) (by decide) rfl at_50 rfl (fun T9 X9 e9 => ?_)
      show Go p e below _ (T9.setTop (mkF m 53 #[.val (.int i0), .val (.int i1), .val (.int i2), .val (.int i3), .val (.int (2 : Int32)), .val (.int S), .val (.int R), .val (.int C), .val (.ref w_UPPER_DIAG_ROW), .unset, .unset, .unset, .unset, .unset] [(.int S)]))
      refine s_istore B X9 (pc' := 55) (Ls' := #[.val (.int i0), .val (.int i1), .val (.int i2), .val (.int i3), .val (.int (2 : Int32)), .val (.int S), .val (.int R), .val (.int C), .val (.ref w_UPPER_DIAG_ROW), .val (.int S), .unset, .unset, .unset, .unset]) at_53 rfl rfl ?_
      refine s_aload B X9 (pc' := 57) at_55 rfl rfl rfl ?_
      refine s_iload B X9 (pc' := 59) at_57 rfl rfl ?_
      refine p_virtual B X9 (y := mn2) (pc' := 62) (argsL := [(.int R)]) (under := []) (W := 0) e9 (tw16 hw) (tw17 hw) (tw19 hw) (tw18 hw) (tw20 hw) (tw7 hw) (by decide) (rm3_8 l Z a0 hw R w_FULL_MATRIX w_UPPER_DIAG_ROW w_LOWER_DIAG_ROW w_UPPER_ROW w_LOWER_ROW Z.heap F0 ) E_UPPER_DIAG_ROW (lenOf pd_2 rfl) rfl rfl (by decide) (by decide) rfl rfl (by decide) (by decide) rfl at_59 rfl (fun T10 X10 e10 => ?_)
      show Go p e below _ (T10.setTop (mkF m 62 #[.val (.int i0), .val (.int i1), .val (.int i2), .val (.int i3), .val (.int (2 : Int32)), .val (.int S), .val (.int R), .val (.int C), .val (.ref w_UPPER_DIAG_ROW), .val (.int S), .unset, .unset, .unset, .unset] [(.int R)]))
      refine s_istore B X10 (pc' := 64) (Ls' := #[.val (.int i0), .val (.int i1), .val (.int i2), .val (.int i3), .val (.int (2 : Int32)), .val (.int S), .val (.int R), .val (.int C), .val (.ref w_UPPER_DIAG_ROW), .val (.int S), .val (.int R), .unset, .unset, .unset]) at_62 rfl rfl ?_
      refine s_iload B X10 (pc' := 66) at_64 rfl rfl ?_
      refine s_ifY B X10 (pc' := 79) at_66 (by decide) (by decide) (by decide) ?_
      refine s_iload B X10 (pc' := 81) at_79 rfl rfl ?_
      refine s_iconst B X10 (pc' := 82) (v := (1 : Int32)) at_81 rfl rfl ?_
      refine s_icmpY B X10 (pc' := 106) at_82 (by decide) (by decide) (by decide) ?_
      refine s_iload B X10 (pc' := 108) at_106 rfl rfl ?_
      refine s_iconst B X10 (pc' := 109) (v := (2 : Int32)) at_108 rfl rfl ?_
      refine s_icmpN B X10 (pc' := 112) at_109 (by decide) rfl ?_
      refine s_iload B X10 (pc' := 114) at_112 rfl rfl ?_
      refine s_istore B X10 (pc' := 116) (Ls' := #[.val (.int i0), .val (.int i1), .val (.int i2), .val (.int i3), .val (.int (2 : Int32)), .val (.int S), .val (.int R), .val (.int C), .val (.ref w_UPPER_DIAG_ROW), .val (.int S), .val (.int R), .val (.int S), .unset, .unset]) at_114 rfl rfl ?_
      refine s_iload B X10 (pc' := 118) at_116 rfl rfl ?_
      refine s_iload B X10 (pc' := 120) at_118 rfl rfl ?_
      refine b_icmp_lt B X10 (py := 127) (pn := 123) at_120 (by decide) (by decide) rfl (fun _ => ?_) (fun q => absurd (by simp only [Int32.lt_iff_toInt_lt, ← Int32.toInt_inj, e1, z0]; omega) q)
      refine s_iconst B X10 (pc' := 128) (v := (0 : Int32)) at_127 rfl rfl ?_
      refine s_istore B X10 (pc' := 130) (Ls' := #[.val (.int i0), .val (.int i1), .val (.int i2), .val (.int i3), .val (.int (2 : Int32)), .val (.int S), .val (.int R), .val (.int C), .val (.ref w_UPPER_DIAG_ROW), .val (.int S), .val (.int R), .val (.int S), .val (.int (0 : Int32)), .unset]) at_128 rfl rfl ?_
      refine s_goto B X10 (pc' := 180) at_130 (by decide) (by decide) ?_
      refine s_iload B X10 (pc' := 182) at_180 rfl rfl ?_
      refine s_iload B X10 (pc' := 184) at_182 rfl rfl ?_
      refine b_icmp_gt B X10 (py := 198) (pn := 187) at_184 (by decide) (by decide) rfl (fun _ => ?_) (fun q => absurd (by simp only [Int32.lt_iff_toInt_lt, ← Int32.toInt_inj, e1, z0]; omega) q)
      refine s_iconst B X10 (pc' := 199) (v := (0 : Int32)) at_198 rfl rfl ?_
      refine s_istore B X10 (pc' := 201) (Ls' := #[.val (.int i0), .val (.int i1), .val (.int i2), .val (.int i3), .val (.int (2 : Int32)), .val (.int S), .val (.int R), .val (.int C), .val (.ref w_UPPER_DIAG_ROW), .val (.int S), .val (.int R), .val (.int S), .val (.int (0 : Int32)), .val (.int (0 : Int32))]) at_199 rfl rfl ?_
      refine s_iload B X10 (pc' := 203) at_201 rfl rfl ?_
      refine s_iload B X10 (pc' := 205) at_203 rfl rfl ?_
      refine b_icmp_ne B X10 (py := 219) (pn := 208) at_205 (by decide) (by decide) rfl (fun q => absurd rfl q) (fun _ => ?_)
      refine s_iload B X10 (pc' := 210) at_208 rfl rfl ?_
      refine s_iload B X10 (pc' := 212) at_210 rfl rfl ?_
      refine s_icmpN B X10 (pc' := 215) at_212 (by decide) rfl ?_
      refine s_iconst B X10 (pc' := 216) (v := (1 : Int32)) at_215 rfl rfl ?_
      refine s_goto B X10 (pc' := 220) at_216 (by decide) (by decide) ?_
      exact r_nar B X10 (t := .boolean) (by simp) rfl at_220 ⟨rfl, (Fr.nil _)⟩ (by decide) (by decide)
    · refine s_iloadN B X0 (pc' := 1) at_0 rfl rfl ?_
      refine s_ldc B X0 (pc' := 3) (v := (2147483647 : Int32)) (tw0 hw) at_1 rfl ?_
      refine s_iand B X0 (pc' := 4) (v := (i0 &&& (2147483647 : Int32))) at_3 rfl rfl ?_
      refine s_iconst B X0 (pc' := 5) (v := (5 : Int32)) at_4 rfl rfl ?_
      refine s_irem B X0 (pc' := 6) (v := (3 : Int32)) at_5 (hv1) (by decide) rfl ?_
      refine s_istore B X0 (pc' := 8) (Ls' := #[.val (.int i0), .val (.int i1), .val (.int i2), .val (.int i3), .val (.int (3 : Int32)), .unset, .unset, .unset, .unset, .unset, .unset, .unset, .unset, .unset]) at_6 rfl rfl ?_
      refine s_iloadN B X0 (pc' := 9) at_8 rfl rfl ?_
      refine s_ldc B X0 (pc' := 11) (v := (2147483647 : Int32)) (tw0 hw) at_9 rfl ?_
      refine s_iand B X0 (pc' := 12) (v := (i1 &&& (2147483647 : Int32))) at_11 rfl rfl ?_
      refine s_ldc B X0 (pc' := 14) (v := (65536 : Int32)) (tw1 hw) at_12 rfl ?_
      refine s_irem B X0 (pc' := 15) (v := ((i1 &&& (2147483647 : Int32)) % (65536 : Int32))) at_14 rfl (by decide) rfl ?_
      refine s_iconst B X0 (pc' := 16) (v := (1 : Int32)) at_15 rfl rfl ?_
      refine s_iadd B X0 (pc' := 17) (v := S) at_16 (hS) rfl ?_
      refine s_istore B X0 (pc' := 19) (Ls' := #[.val (.int i0), .val (.int i1), .val (.int i2), .val (.int i3), .val (.int (3 : Int32)), .val (.int S), .unset, .unset, .unset, .unset, .unset, .unset, .unset, .unset]) at_17 rfl rfl ?_
      refine s_iloadN B X0 (pc' := 20) at_19 rfl rfl ?_
      refine s_ldc B X0 (pc' := 22) (v := (2147483647 : Int32)) (tw0 hw) at_20 rfl ?_
      refine s_iand B X0 (pc' := 23) (v := (i2 &&& (2147483647 : Int32))) at_22 rfl rfl ?_
      refine s_iload B X0 (pc' := 25) at_23 rfl rfl ?_
      refine s_irem B X0 (pc' := 26) (v := R) at_25 (hR) hSne rfl ?_
      refine s_istore B X0 (pc' := 28) (Ls' := #[.val (.int i0), .val (.int i1), .val (.int i2), .val (.int i3), .val (.int (3 : Int32)), .val (.int S), .val (.int R), .unset, .unset, .unset, .unset, .unset, .unset, .unset]) at_26 rfl rfl ?_
      refine s_iloadN B X0 (pc' := 29) at_28 rfl rfl ?_
      refine s_ldc B X0 (pc' := 31) (v := (2147483647 : Int32)) (tw0 hw) at_29 rfl ?_
      refine s_iand B X0 (pc' := 32) (v := (i3 &&& (2147483647 : Int32))) at_31 rfl rfl ?_
      refine s_iload B X0 (pc' := 34) at_32 rfl rfl ?_
      refine s_irem B X0 (pc' := 35) (v := C) at_34 (hC) hSne rfl ?_
      refine s_istore B X0 (pc' := 37) (Ls' := #[.val (.int i0), .val (.int i1), .val (.int i2), .val (.int i3), .val (.int (3 : Int32)), .val (.int S), .val (.int R), .val (.int C), .unset, .unset, .unset, .unset, .unset, .unset]) at_35 rfl rfl ?_
      refine s_iload B X0 (pc' := 39) at_37 rfl rfl ?_
      refine p_static B X0 (y := mn0) (pc' := 42) (argsL := [(.int (3 : Int32))]) (under := []) (W := 0) e0 (tw2 hw) (tw3 hw) (tw5 hw) (tw4 hw) (by decide) (rm1_9 l Z a0 hw  w_FULL_MATRIX w_UPPER_DIAG_ROW w_LOWER_DIAG_ROW w_UPPER_ROW w_LOWER_ROW Z.heap F0 ) (lenOf pd_0 rfl) rfl rfl (by decide) (by decide) rfl rfl (by decide) (by decide) rfl at_39 rfl (fun T11 X11 e11 => ?_)
      show Go p e below _ (T11.setTop (mkF m 42 #[.val (.int i0), .val (.int i1), .val (.int i2), .val (.int i3), .val (.int (3 : Int32)), .val (.int S), .val (.int R), .val (.int C), .unset, .unset, .unset, .unset, .unset, .unset] [(.ref w_LOWER_ROW)]))
      refine s_astore B X11 (pc' := 44) (Ls' := #[.val (.int i0), .val (.int i1), .val (.int i2), .val (.int i3), .val (.int (3 : Int32)), .val (.int S), .val (.int R), .val (.int C), .val (.ref w_LOWER_ROW), .unset, .unset, .unset, .unset, .unset]) at_42 rfl rfl rfl ?_
      refine s_aload B X11 (pc' := 46) at_44 rfl rfl rfl ?_
      refine s_iload B X11 (pc' := 48) at_46 rfl rfl ?_
      refine s_iload B X11 (pc' := 50) at_48 rfl rfl ?_
      refine p_virtual B X11 (y := mn1) (pc' := 53) (argsL := [(.int R), (.int S)]) (under := []) (W := 0) e11 (tw9 hw) (tw10 hw) (tw12 hw) (tw11 hw) (tw13 hw) (tw7 hw) (by decide) (rm2_10 l Z a0 hw R S w_FULL_MATRIX w_UPPER_DIAG_ROW w_LOWER_DIAG_ROW w_UPPER_ROW w_LOWER_ROW Z.heap F0 ) E_LOWER_ROW (lenOf pd_1 rfl) rfl rfl (by decide) (by decide) rfl rfl (by decide) (by decide) rfl at_50 rfl (fun T12 X12 e12 => ?_)
      show Go p e below _ (T12.setTop (mkF m 53 #[.val (.int i0), .val (.int i1), .val (.int i2), .val (.int i3), .val (.int (3 : Int32)), .val (.int S), .val (.int R), .val (.int C), .val (.ref w_LOWER_ROW), .unset, .unset, .unset, .unset, .unset] [(.int R)]))
      refine s_istore B X12 (pc' := 55) (Ls' := #[.val (.int i0), .val (.int i1), .val (.int i2), .val (.int i3), .val (.int (3 : Int32)), .val (.int S), .val (.int R), .val (.int C), .val (.ref w_LOWER_ROW), .val (.int R), .unset, .unset, .unset, .unset]) at_53 rfl rfl ?_
      refine s_aload B X12 (pc' := 57) at_55 rfl rfl rfl ?_
      refine s_iload B X12 (pc' := 59) at_57 rfl rfl ?_
      refine p_virtual B X12 (y := mn2) (pc' := 62) (argsL := [(.int R)]) (under := []) (W := 0) e12 (tw16 hw) (tw17 hw) (tw19 hw) (tw18 hw) (tw20 hw) (tw7 hw) (by decide) (rm3_11 l Z a0 hw R w_FULL_MATRIX w_UPPER_DIAG_ROW w_LOWER_DIAG_ROW w_UPPER_ROW w_LOWER_ROW Z.heap F0 ) E_LOWER_ROW (lenOf pd_2 rfl) rfl rfl (by decide) (by decide) rfl rfl (by decide) (by decide) rfl at_59 rfl (fun T13 X13 e13 => ?_)
      show Go p e below _ (T13.setTop (mkF m 62 #[.val (.int i0), .val (.int i1), .val (.int i2), .val (.int i3), .val (.int (3 : Int32)), .val (.int S), .val (.int R), .val (.int C), .val (.ref w_LOWER_ROW), .val (.int R), .unset, .unset, .unset, .unset] [(.int (0 : Int32))]))
      refine s_istore B X13 (pc' := 64) (Ls' := #[.val (.int i0), .val (.int i1), .val (.int i2), .val (.int i3), .val (.int (3 : Int32)), .val (.int S), .val (.int R), .val (.int C), .val (.ref w_LOWER_ROW), .val (.int R), .val (.int (0 : Int32)), .unset, .unset, .unset]) at_62 rfl rfl ?_
      refine s_iload B X13 (pc' := 66) at_64 rfl rfl ?_
      refine s_ifY B X13 (pc' := 79) at_66 (by decide) (by decide) (by decide) ?_
      refine s_iload B X13 (pc' := 81) at_79 rfl rfl ?_
      refine s_iconst B X13 (pc' := 82) (v := (1 : Int32)) at_81 rfl rfl ?_
      refine s_icmpY B X13 (pc' := 106) at_82 (by decide) (by decide) (by decide) ?_
      refine s_iload B X13 (pc' := 108) at_106 rfl rfl ?_
      refine s_iconst B X13 (pc' := 109) (v := (2 : Int32)) at_108 rfl rfl ?_
      refine s_icmpY B X13 (pc' := 133) at_109 (by decide) (by decide) (by decide) ?_
      refine s_iload B X13 (pc' := 135) at_133 rfl rfl ?_
      refine s_iconst B X13 (pc' := 136) (v := (3 : Int32)) at_135 rfl rfl ?_
      refine s_icmpN B X13 (pc' := 139) at_136 (by decide) rfl ?_
      refine s_iload B X13 (pc' := 141) at_139 rfl rfl ?_
      refine s_istore B X13 (pc' := 143) (Ls' := #[.val (.int i0), .val (.int i1), .val (.int i2), .val (.int i3), .val (.int (3 : Int32)), .val (.int S), .val (.int R), .val (.int C), .val (.ref w_LOWER_ROW), .val (.int R), .val (.int (0 : Int32)), .val (.int R), .unset, .unset]) at_141 rfl rfl ?_
      refine s_iload B X13 (pc' := 145) at_143 rfl rfl ?_
      refine s_iload B X13 (pc' := 147) at_145 rfl rfl ?_
      refine b_icmp_ge B X13 (py := 154) (pn := 150) at_147 (by decide) (by decide) rfl (fun q => absurd (by simp only [Int32.lt_iff_toInt_lt, ← Int32.toInt_inj, e1, z0]; omega) q) (fun _ => ?_)
      refine s_iconst B X13 (pc' := 151) (v := (1 : Int32)) at_150 rfl rfl ?_
      refine s_goto B X13 (pc' := 155) at_151 (by decide) (by decide) ?_
      refine s_istore B X13 (pc' := 157) (Ls' := #[.val (.int i0), .val (.int i1), .val (.int i2), .val (.int i3), .val (.int (3 : Int32)), .val (.int S), .val (.int R), .val (.int C), .val (.ref w_LOWER_ROW), .val (.int R), .val (.int (0 : Int32)), .val (.int R), .val (.int (1 : Int32)), .unset]) at_155 rfl rfl ?_
      refine s_goto B X13 (pc' := 180) at_157 (by decide) (by decide) ?_
      refine s_iload B X13 (pc' := 182) at_180 rfl rfl ?_
      refine s_iload B X13 (pc' := 184) at_182 rfl rfl ?_
      refine b_icmp_gt B X13 (py := 198) (pn := 187) at_184 (by decide) (by decide) rfl (fun q => absurd q (by simp only [Int32.lt_iff_toInt_lt, ← Int32.toInt_inj, e1, z0]; omega)) (fun _ => ?_)
      refine s_iload B X13 (pc' := 189) at_187 rfl rfl ?_
      refine s_iload B X13 (pc' := 191) at_189 rfl rfl ?_
      refine b_icmp_ge B X13 (py := 198) (pn := 194) at_191 (by decide) (by decide) rfl (fun q => absurd (by simp only [Int32.lt_iff_toInt_lt, ← Int32.toInt_inj, e1, z0]; omega) q) (fun _ => ?_)
      refine s_iconst B X13 (pc' := 195) (v := (1 : Int32)) at_194 rfl rfl ?_
      refine s_goto B X13 (pc' := 199) at_195 (by decide) (by decide) ?_
      refine s_istore B X13 (pc' := 201) (Ls' := #[.val (.int i0), .val (.int i1), .val (.int i2), .val (.int i3), .val (.int (3 : Int32)), .val (.int S), .val (.int R), .val (.int C), .val (.ref w_LOWER_ROW), .val (.int R), .val (.int (0 : Int32)), .val (.int R), .val (.int (1 : Int32)), .val (.int (1 : Int32))]) at_199 rfl rfl ?_
      refine s_iload B X13 (pc' := 203) at_201 rfl rfl ?_
      refine s_iload B X13 (pc' := 205) at_203 rfl rfl ?_
      refine b_icmp_ne B X13 (py := 219) (pn := 208) at_205 (by decide) (by decide) rfl (fun q => absurd rfl q) (fun _ => ?_)
      refine s_iload B X13 (pc' := 210) at_208 rfl rfl ?_
      refine s_iload B X13 (pc' := 212) at_210 rfl rfl ?_
      refine s_icmpN B X13 (pc' := 215) at_212 (by decide) rfl ?_
      refine s_iconst B X13 (pc' := 216) (v := (1 : Int32)) at_215 rfl rfl ?_
      refine s_goto B X13 (pc' := 220) at_216 (by decide) (by decide) ?_
      exact r_nar B X13 (t := .boolean) (by simp) rfl at_220 ⟨rfl, (Fr.nil _)⟩ (by decide) (by decide)
    · refine s_iloadN B X0 (pc' := 1) at_0 rfl rfl ?_
      refine s_ldc B X0 (pc' := 3) (v := (2147483647 : Int32)) (tw0 hw) at_1 rfl ?_
      refine s_iand B X0 (pc' := 4) (v := (i0 &&& (2147483647 : Int32))) at_3 rfl rfl ?_
      refine s_iconst B X0 (pc' := 5) (v := (5 : Int32)) at_4 rfl rfl ?_
      refine s_irem B X0 (pc' := 6) (v := (4 : Int32)) at_5 (hv1) (by decide) rfl ?_
      refine s_istore B X0 (pc' := 8) (Ls' := #[.val (.int i0), .val (.int i1), .val (.int i2), .val (.int i3), .val (.int (4 : Int32)), .unset, .unset, .unset, .unset, .unset, .unset, .unset, .unset, .unset]) at_6 rfl rfl ?_
      refine s_iloadN B X0 (pc' := 9) at_8 rfl rfl ?_
      refine s_ldc B X0 (pc' := 11) (v := (2147483647 : Int32)) (tw0 hw) at_9 rfl ?_
      refine s_iand B X0 (pc' := 12) (v := (i1 &&& (2147483647 : Int32))) at_11 rfl rfl ?_
      refine s_ldc B X0 (pc' := 14) (v := (65536 : Int32)) (tw1 hw) at_12 rfl ?_
      refine s_irem B X0 (pc' := 15) (v := ((i1 &&& (2147483647 : Int32)) % (65536 : Int32))) at_14 rfl (by decide) rfl ?_
      refine s_iconst B X0 (pc' := 16) (v := (1 : Int32)) at_15 rfl rfl ?_
      refine s_iadd B X0 (pc' := 17) (v := S) at_16 (hS) rfl ?_
      refine s_istore B X0 (pc' := 19) (Ls' := #[.val (.int i0), .val (.int i1), .val (.int i2), .val (.int i3), .val (.int (4 : Int32)), .val (.int S), .unset, .unset, .unset, .unset, .unset, .unset, .unset, .unset]) at_17 rfl rfl ?_
      refine s_iloadN B X0 (pc' := 20) at_19 rfl rfl ?_
      refine s_ldc B X0 (pc' := 22) (v := (2147483647 : Int32)) (tw0 hw) at_20 rfl ?_
      refine s_iand B X0 (pc' := 23) (v := (i2 &&& (2147483647 : Int32))) at_22 rfl rfl ?_
      refine s_iload B X0 (pc' := 25) at_23 rfl rfl ?_
      refine s_irem B X0 (pc' := 26) (v := R) at_25 (hR) hSne rfl ?_
      refine s_istore B X0 (pc' := 28) (Ls' := #[.val (.int i0), .val (.int i1), .val (.int i2), .val (.int i3), .val (.int (4 : Int32)), .val (.int S), .val (.int R), .unset, .unset, .unset, .unset, .unset, .unset, .unset]) at_26 rfl rfl ?_
      refine s_iloadN B X0 (pc' := 29) at_28 rfl rfl ?_
      refine s_ldc B X0 (pc' := 31) (v := (2147483647 : Int32)) (tw0 hw) at_29 rfl ?_
      refine s_iand B X0 (pc' := 32) (v := (i3 &&& (2147483647 : Int32))) at_31 rfl rfl ?_
      refine s_iload B X0 (pc' := 34) at_32 rfl rfl ?_
      refine s_irem B X0 (pc' := 35) (v := C) at_34 (hC) hSne rfl ?_
      refine s_istore B X0 (pc' := 37) (Ls' := #[.val (.int i0), .val (.int i1), .val (.int i2), .val (.int i3), .val (.int (4 : Int32)), .val (.int S), .val (.int R), .val (.int C), .unset, .unset, .unset, .unset, .unset, .unset]) at_35 rfl rfl ?_
      refine s_iload B X0 (pc' := 39) at_37 rfl rfl ?_
      refine p_static B X0 (y := mn0) (pc' := 42) (argsL := [(.int (4 : Int32))]) (under := []) (W := 0) e0 (tw2 hw) (tw3 hw) (tw5 hw) (tw4 hw) (by decide) (rm1_12 l Z a0 hw  w_FULL_MATRIX w_UPPER_DIAG_ROW w_LOWER_DIAG_ROW w_UPPER_ROW w_LOWER_ROW Z.heap F0 ) (lenOf pd_0 rfl) rfl rfl (by decide) (by decide) rfl rfl (by decide) (by decide) rfl at_39 rfl (fun T14 X14 e14 => ?_)
      show Go p e below _ (T14.setTop (mkF m 42 #[.val (.int i0), .val (.int i1), .val (.int i2), .val (.int i3), .val (.int (4 : Int32)), .val (.int S), .val (.int R), .val (.int C), .unset, .unset, .unset, .unset, .unset, .unset] [(.ref w_LOWER_DIAG_ROW)]))
      refine s_astore B X14 (pc' := 44) (Ls' := #[.val (.int i0), .val (.int i1), .val (.int i2), .val (.int i3), .val (.int (4 : Int32)), .val (.int S), .val (.int R), .val (.int C), .val (.ref w_LOWER_DIAG_ROW), .unset, .unset, .unset, .unset, .unset]) at_42 rfl rfl rfl ?_
      refine s_aload B X14 (pc' := 46) at_44 rfl rfl rfl ?_
      refine s_iload B X14 (pc' := 48) at_46 rfl rfl ?_
      refine s_iload B X14 (pc' := 50) at_48 rfl rfl ?_
      refine p_virtual B X14 (y := mn1) (pc' := 53) (argsL := [(.int R), (.int S)]) (under := []) (W := 0) e14 (tw9 hw) (tw10 hw) (tw12 hw) (tw11 hw) (tw13 hw) (tw7 hw) (by decide) (rm2_13 l Z a0 hw R S w_FULL_MATRIX w_UPPER_DIAG_ROW w_LOWER_DIAG_ROW w_UPPER_ROW w_LOWER_ROW Z.heap F0 ) E_LOWER_DIAG_ROW (lenOf pd_1 rfl) rfl rfl (by decide) (by decide) rfl rfl (by decide) (by decide) rfl at_50 rfl (fun T15 X15 e15 => ?_)
      show Go p e below _ (T15.setTop (mkF m 53 #[.val (.int i0), .val (.int i1), .val (.int i2), .val (.int i3), .val (.int (4 : Int32)), .val (.int S), .val (.int R), .val (.int C), .val (.ref w_LOWER_DIAG_ROW), .unset, .unset, .unset, .unset, .unset] [(.int (R + (1 : Int32)))]))
      refine s_istore B X15 (pc' := 55) (Ls' := #[.val (.int i0), .val (.int i1), .val (.int i2), .val (.int i3), .val (.int (4 : Int32)), .val (.int S), .val (.int R), .val (.int C), .val (.ref w_LOWER_DIAG_ROW), .val (.int (R + (1 : Int32))), .unset, .unset, .unset, .unset]) at_53 rfl rfl ?_
      refine s_aload B X15 (pc' := 57) at_55 rfl rfl rfl ?_
      refine s_iload B X15 (pc' := 59) at_57 rfl rfl ?_
      refine p_virtual B X15 (y := mn2) (pc' := 62) (argsL := [(.int R)]) (under := []) (W := 0) e15 (tw16 hw) (tw17 hw) (tw19 hw) (tw18 hw) (tw20 hw) (tw7 hw) (by decide) (rm3_14 l Z a0 hw R w_FULL_MATRIX w_UPPER_DIAG_ROW w_LOWER_DIAG_ROW w_UPPER_ROW w_LOWER_ROW Z.heap F0 ) E_LOWER_DIAG_ROW (lenOf pd_2 rfl) rfl rfl (by decide) (by decide) rfl rfl (by decide) (by decide) rfl at_59 rfl (fun T16 X16 e16 => ?_)
      show Go p e below _ (T16.setTop (mkF m 62 #[.val (.int i0), .val (.int i1), .val (.int i2), .val (.int i3), .val (.int (4 : Int32)), .val (.int S), .val (.int R), .val (.int C), .val (.ref w_LOWER_DIAG_ROW), .val (.int (R + (1 : Int32))), .unset, .unset, .unset, .unset] [(.int (0 : Int32))]))
      refine s_istore B X16 (pc' := 64) (Ls' := #[.val (.int i0), .val (.int i1), .val (.int i2), .val (.int i3), .val (.int (4 : Int32)), .val (.int S), .val (.int R), .val (.int C), .val (.ref w_LOWER_DIAG_ROW), .val (.int (R + (1 : Int32))), .val (.int (0 : Int32)), .unset, .unset, .unset]) at_62 rfl rfl ?_
      refine s_iload B X16 (pc' := 66) at_64 rfl rfl ?_
      refine s_ifY B X16 (pc' := 79) at_66 (by decide) (by decide) (by decide) ?_
      refine s_iload B X16 (pc' := 81) at_79 rfl rfl ?_
      refine s_iconst B X16 (pc' := 82) (v := (1 : Int32)) at_81 rfl rfl ?_
      refine s_icmpY B X16 (pc' := 106) at_82 (by decide) (by decide) (by decide) ?_
      refine s_iload B X16 (pc' := 108) at_106 rfl rfl ?_
      refine s_iconst B X16 (pc' := 109) (v := (2 : Int32)) at_108 rfl rfl ?_
      refine s_icmpY B X16 (pc' := 133) at_109 (by decide) (by decide) (by decide) ?_
      refine s_iload B X16 (pc' := 135) at_133 rfl rfl ?_
      refine s_iconst B X16 (pc' := 136) (v := (3 : Int32)) at_135 rfl rfl ?_
      refine s_icmpY B X16 (pc' := 160) at_136 (by decide) (by decide) (by decide) ?_
      refine s_iload B X16 (pc' := 162) at_160 rfl rfl ?_
      refine s_iconst B X16 (pc' := 163) (v := (1 : Int32)) at_162 rfl rfl ?_
      refine s_iadd B X16 (pc' := 164) (v := (R + (1 : Int32))) at_163 rfl rfl ?_
      refine s_istore B X16 (pc' := 166) (Ls' := #[.val (.int i0), .val (.int i1), .val (.int i2), .val (.int i3), .val (.int (4 : Int32)), .val (.int S), .val (.int R), .val (.int C), .val (.ref w_LOWER_DIAG_ROW), .val (.int (R + (1 : Int32))), .val (.int (0 : Int32)), .val (.int (R + (1 : Int32))), .unset, .unset]) at_164 rfl rfl ?_
      refine s_iload B X16 (pc' := 168) at_166 rfl rfl ?_
      refine s_iload B X16 (pc' := 170) at_168 rfl rfl ?_
      refine b_icmp_gt B X16 (py := 177) (pn := 173) at_170 (by decide) (by decide) rfl (fun q => absurd q (by simp only [Int32.lt_iff_toInt_lt, ← Int32.toInt_inj, e1, z0]; omega)) (fun _ => ?_)
      refine s_iconst B X16 (pc' := 174) (v := (1 : Int32)) at_173 rfl rfl ?_
      refine s_goto B X16 (pc' := 178) at_174 (by decide) (by decide) ?_
      refine s_istore B X16 (pc' := 180) (Ls' := #[.val (.int i0), .val (.int i1), .val (.int i2), .val (.int i3), .val (.int (4 : Int32)), .val (.int S), .val (.int R), .val (.int C), .val (.ref w_LOWER_DIAG_ROW), .val (.int (R + (1 : Int32))), .val (.int (0 : Int32)), .val (.int (R + (1 : Int32))), .val (.int (1 : Int32)), .unset]) at_178 rfl rfl ?_
      refine s_iload B X16 (pc' := 182) at_180 rfl rfl ?_
      refine s_iload B X16 (pc' := 184) at_182 rfl rfl ?_
      refine b_icmp_gt B X16 (py := 198) (pn := 187) at_184 (by decide) (by decide) rfl (fun q => absurd q (by simp only [Int32.lt_iff_toInt_lt, ← Int32.toInt_inj, e1, z0]; omega)) (fun _ => ?_)
      refine s_iload B X16 (pc' := 189) at_187 rfl rfl ?_
      refine s_iload B X16 (pc' := 191) at_189 rfl rfl ?_
      refine b_icmp_ge B X16 (py := 198) (pn := 194) at_191 (by decide) (by decide) rfl (fun q => absurd (by simp only [Int32.lt_iff_toInt_lt, ← Int32.toInt_inj, e1, z0]; omega) q) (fun _ => ?_)
      refine s_iconst B X16 (pc' := 195) (v := (1 : Int32)) at_194 rfl rfl ?_
      refine s_goto B X16 (pc' := 199) at_195 (by decide) (by decide) ?_
      refine s_istore B X16 (pc' := 201) (Ls' := #[.val (.int i0), .val (.int i1), .val (.int i2), .val (.int i3), .val (.int (4 : Int32)), .val (.int S), .val (.int R), .val (.int C), .val (.ref w_LOWER_DIAG_ROW), .val (.int (R + (1 : Int32))), .val (.int (0 : Int32)), .val (.int (R + (1 : Int32))), .val (.int (1 : Int32)), .val (.int (1 : Int32))]) at_199 rfl rfl ?_
      refine s_iload B X16 (pc' := 203) at_201 rfl rfl ?_
      refine s_iload B X16 (pc' := 205) at_203 rfl rfl ?_
      refine b_icmp_ne B X16 (py := 219) (pn := 208) at_205 (by decide) (by decide) rfl (fun q => absurd rfl q) (fun _ => ?_)
      refine s_iload B X16 (pc' := 210) at_208 rfl rfl ?_
      refine s_iload B X16 (pc' := 212) at_210 rfl rfl ?_
      refine s_icmpN B X16 (pc' := 215) at_212 (by decide) rfl ?_
      refine s_iconst B X16 (pc' := 216) (v := (1 : Int32)) at_215 rfl rfl ?_
      refine s_goto B X16 (pc' := 220) at_216 (by decide) (by decide) ?_
      exact r_nar B X16 (t := .boolean) (by simp) rfl at_220 ⟨rfl, (Fr.nil _)⟩ (by decide) (by decide)
  · rcases own_rem5 i0 with hv17 | hv17 | hv17 | hv17 | hv17
    · refine s_iloadN B X0 (pc' := 1) at_0 rfl rfl ?_
      refine s_ldc B X0 (pc' := 3) (v := (2147483647 : Int32)) (tw0 hw) at_1 rfl ?_
      refine s_iand B X0 (pc' := 4) (v := (i0 &&& (2147483647 : Int32))) at_3 rfl rfl ?_
      refine s_iconst B X0 (pc' := 5) (v := (5 : Int32)) at_4 rfl rfl ?_
      refine s_irem B X0 (pc' := 6) (v := (0 : Int32)) at_5 (hv17) (by decide) rfl ?_
      refine s_istore B X0 (pc' := 8) (Ls' := #[.val (.int i0), .val (.int i1), .val (.int i2), .val (.int i3), .val (.int (0 : Int32)), .unset, .unset, .unset, .unset, .unset, .unset, .unset, .unset, .unset]) at_6 rfl rfl ?_
      refine s_iloadN B X0 (pc' := 9) at_8 rfl rfl ?_
      refine s_ldc B X0 (pc' := 11) (v := (2147483647 : Int32)) (tw0 hw) at_9 rfl ?_
      refine s_iand B X0 (pc' := 12) (v := (i1 &&& (2147483647 : Int32))) at_11 rfl rfl ?_
      refine s_ldc B X0 (pc' := 14) (v := (65536 : Int32)) (tw1 hw) at_12 rfl ?_
      refine s_irem B X0 (pc' := 15) (v := ((i1 &&& (2147483647 : Int32)) % (65536 : Int32))) at_14 rfl (by decide) rfl ?_
      refine s_iconst B X0 (pc' := 16) (v := (1 : Int32)) at_15 rfl rfl ?_
      refine s_iadd B X0 (pc' := 17) (v := S) at_16 (hS) rfl ?_
      refine s_istore B X0 (pc' := 19) (Ls' := #[.val (.int i0), .val (.int i1), .val (.int i2), .val (.int i3), .val (.int (0 : Int32)), .val (.int S), .unset, .unset, .unset, .unset, .unset, .unset, .unset, .unset]) at_17 rfl rfl ?_
      refine s_iloadN B X0 (pc' := 20) at_19 rfl rfl ?_
      refine s_ldc B X0 (pc' := 22) (v := (2147483647 : Int32)) (tw0 hw) at_20 rfl ?_
      refine s_iand B X0 (pc' := 23) (v := (i2 &&& (2147483647 : Int32))) at_22 rfl rfl ?_
      refine s_iload B X0 (pc' := 25) at_23 rfl rfl ?_
      refine s_irem B X0 (pc' := 26) (v := R) at_25 (hR) hSne rfl ?_
      refine s_istore B X0 (pc' := 28) (Ls' := #[.val (.int i0), .val (.int i1), .val (.int i2), .val (.int i3), .val (.int (0 : Int32)), .val (.int S), .val (.int R), .unset, .unset, .unset, .unset, .unset, .unset, .unset]) at_26 rfl rfl ?_
      refine s_iloadN B X0 (pc' := 29) at_28 rfl rfl ?_
      refine s_ldc B X0 (pc' := 31) (v := (2147483647 : Int32)) (tw0 hw) at_29 rfl ?_
      refine s_iand B X0 (pc' := 32) (v := (i3 &&& (2147483647 : Int32))) at_31 rfl rfl ?_
      refine s_iload B X0 (pc' := 34) at_32 rfl rfl ?_
      refine s_irem B X0 (pc' := 35) (v := C) at_34 (hC) hSne rfl ?_
      refine s_istore B X0 (pc' := 37) (Ls' := #[.val (.int i0), .val (.int i1), .val (.int i2), .val (.int i3), .val (.int (0 : Int32)), .val (.int S), .val (.int R), .val (.int C), .unset, .unset, .unset, .unset, .unset, .unset]) at_35 rfl rfl ?_
      refine s_iload B X0 (pc' := 39) at_37 rfl rfl ?_
      refine p_static B X0 (y := mn0) (pc' := 42) (argsL := [(.int (0 : Int32))]) (under := []) (W := 0) e0 (tw2 hw) (tw3 hw) (tw5 hw) (tw4 hw) (by decide) (rm1_0 l Z a0 hw  w_FULL_MATRIX w_UPPER_DIAG_ROW w_LOWER_DIAG_ROW w_UPPER_ROW w_LOWER_ROW Z.heap F0 ) (lenOf pd_0 rfl) rfl rfl (by decide) (by decide) rfl rfl (by decide) (by decide) rfl at_39 rfl (fun T18 X18 e18 => ?_)
      show Go p e below _ (T18.setTop (mkF m 42 #[.val (.int i0), .val (.int i1), .val (.int i2), .val (.int i3), .val (.int (0 : Int32)), .val (.int S), .val (.int R), .val (.int C), .unset, .unset, .unset, .unset, .unset, .unset] [(.ref w_FULL_MATRIX)]))
      refine s_astore B X18 (pc' := 44) (Ls' := #[.val (.int i0), .val (.int i1), .val (.int i2), .val (.int i3), .val (.int (0 : Int32)), .val (.int S), .val (.int R), .val (.int C), .val (.ref w_FULL_MATRIX), .unset, .unset, .unset, .unset, .unset]) at_42 rfl rfl rfl ?_
      refine s_aload B X18 (pc' := 46) at_44 rfl rfl rfl ?_
      refine s_iload B X18 (pc' := 48) at_46 rfl rfl ?_
      refine s_iload B X18 (pc' := 50) at_48 rfl rfl ?_
      refine p_virtual B X18 (y := mn1) (pc' := 53) (argsL := [(.int R), (.int S)]) (under := []) (W := 0) e18 (tw9 hw) (tw10 hw) (tw12 hw) (tw11 hw) (tw13 hw) (tw7 hw) (by decide) (rm2_1 l Z a0 hw R S w_FULL_MATRIX w_UPPER_DIAG_ROW w_LOWER_DIAG_ROW w_UPPER_ROW w_LOWER_ROW Z.heap F0 ) E_FULL_MATRIX (lenOf pd_1 rfl) rfl rfl (by decide) (by decide) rfl rfl (by decide) (by decide) rfl at_50 rfl (fun T19 X19 e19 => ?_)
      show Go p e below _ (T19.setTop (mkF m 53 #[.val (.int i0), .val (.int i1), .val (.int i2), .val (.int i3), .val (.int (0 : Int32)), .val (.int S), .val (.int R), .val (.int C), .val (.ref w_FULL_MATRIX), .unset, .unset, .unset, .unset, .unset] [(.int S)]))
      refine s_istore B X19 (pc' := 55) (Ls' := #[.val (.int i0), .val (.int i1), .val (.int i2), .val (.int i3), .val (.int (0 : Int32)), .val (.int S), .val (.int R), .val (.int C), .val (.ref w_FULL_MATRIX), .val (.int S), .unset, .unset, .unset, .unset]) at_53 rfl rfl ?_
      refine s_aload B X19 (pc' := 57) at_55 rfl rfl rfl ?_
      refine s_iload B X19 (pc' := 59) at_57 rfl rfl ?_
      refine p_virtual B X19 (y := mn2) (pc' := 62) (argsL := [(.int R)]) (under := []) (W := 0) e19 (tw16 hw) (tw17 hw) (tw19 hw) (tw18 hw) (tw20 hw) (tw7 hw) (by decide) (rm3_2 l Z a0 hw R w_FULL_MATRIX w_UPPER_DIAG_ROW w_LOWER_DIAG_ROW w_UPPER_ROW w_LOWER_ROW Z.heap F0 ) E_FULL_MATRIX (lenOf pd_2 rfl) rfl rfl (by decide) (by decide) rfl rfl (by decide) (by decide) rfl at_59 rfl (fun T20 X20 e20 => ?_)
      show Go p e below _ (T20.setTop (mkF m 62 #[.val (.int i0), .val (.int i1), .val (.int i2), .val (.int i3), .val (.int (0 : Int32)), .val (.int S), .val (.int R), .val (.int C), .val (.ref w_FULL_MATRIX), .val (.int S), .unset, .unset, .unset, .unset] [(.int (0 : Int32))]))
      refine s_istore B X20 (pc' := 64) (Ls' := #[.val (.int i0), .val (.int i1), .val (.int i2), .val (.int i3), .val (.int (0 : Int32)), .val (.int S), .val (.int R), .val (.int C), .val (.ref w_FULL_MATRIX), .val (.int S), .val (.int (0 : Int32)), .unset, .unset, .unset]) at_62 rfl rfl ?_
      refine s_iload B X20 (pc' := 66) at_64 rfl rfl ?_
      refine s_ifN B X20 (pc' := 69) at_66 (by decide) rfl ?_
      refine s_iload B X20 (pc' := 71) at_69 rfl rfl ?_
      refine s_istore B X20 (pc' := 73) (Ls' := #[.val (.int i0), .val (.int i1), .val (.int i2), .val (.int i3), .val (.int (0 : Int32)), .val (.int S), .val (.int R), .val (.int C), .val (.ref w_FULL_MATRIX), .val (.int S), .val (.int (0 : Int32)), .val (.int S), .unset, .unset]) at_71 rfl rfl ?_
      refine s_iconst B X20 (pc' := 74) (v := (1 : Int32)) at_73 rfl rfl ?_
      refine s_istore B X20 (pc' := 76) (Ls' := #[.val (.int i0), .val (.int i1), .val (.int i2), .val (.int i3), .val (.int (0 : Int32)), .val (.int S), .val (.int R), .val (.int C), .val (.ref w_FULL_MATRIX), .val (.int S), .val (.int (0 : Int32)), .val (.int S), .val (.int (1 : Int32)), .unset]) at_74 rfl rfl ?_
      refine s_goto B X20 (pc' := 180) at_76 (by decide) (by decide) ?_
      refine s_iload B X20 (pc' := 182) at_180 rfl rfl ?_
      refine s_iload B X20 (pc' := 184) at_182 rfl rfl ?_
      refine b_icmp_gt B X20 (py := 198) (pn := 187) at_184 (by decide) (by decide) rfl (fun q => absurd q (by simp only [Int32.lt_iff_toInt_lt, ← Int32.toInt_inj, e1, z0]; omega)) (fun _ => ?_)
      refine s_iload B X20 (pc' := 189) at_187 rfl rfl ?_
      refine s_iload B X20 (pc' := 191) at_189 rfl rfl ?_
      refine b_icmp_ge B X20 (py := 198) (pn := 194) at_191 (by decide) (by decide) rfl (fun q => absurd (by simp only [Int32.lt_iff_toInt_lt, ← Int32.toInt_inj, e1, z0]; omega) q) (fun _ => ?_)
      refine s_iconst B X20 (pc' := 195) (v := (1 : Int32)) at_194 rfl rfl ?_
      refine s_goto B X20 (pc' := 199) at_195 (by decide) (by decide) ?_
      refine s_istore B X20 (pc' := 201) (Ls' := #[.val (.int i0), .val (.int i1), .val (.int i2), .val (.int i3), .val (.int (0 : Int32)), .val (.int S), .val (.int R), .val (.int C), .val (.ref w_FULL_MATRIX), .val (.int S), .val (.int (0 : Int32)), .val (.int S), .val (.int (1 : Int32)), .val (.int (1 : Int32))]) at_199 rfl rfl ?_
      refine s_iload B X20 (pc' := 203) at_201 rfl rfl ?_
      refine s_iload B X20 (pc' := 205) at_203 rfl rfl ?_
      refine b_icmp_ne B X20 (py := 219) (pn := 208) at_205 (by decide) (by decide) rfl (fun q => absurd rfl q) (fun _ => ?_)
      refine s_iload B X20 (pc' := 210) at_208 rfl rfl ?_
      refine s_iload B X20 (pc' := 212) at_210 rfl rfl ?_
      refine s_icmpN B X20 (pc' := 215) at_212 (by decide) rfl ?_
      refine s_iconst B X20 (pc' := 216) (v := (1 : Int32)) at_215 rfl rfl ?_
      refine s_goto B X20 (pc' := 220) at_216 (by decide) (by decide) ?_
      exact r_nar B X20 (t := .boolean) (by simp) rfl at_220 ⟨rfl, (Fr.nil _)⟩ (by decide) (by decide)
    · refine s_iloadN B X0 (pc' := 1) at_0 rfl rfl ?_
      refine s_ldc B X0 (pc' := 3) (v := (2147483647 : Int32)) (tw0 hw) at_1 rfl ?_
      refine s_iand B X0 (pc' := 4) (v := (i0 &&& (2147483647 : Int32))) at_3 rfl rfl ?_
      refine s_iconst B X0 (pc' := 5) (v := (5 : Int32)) at_4 rfl rfl ?_
      refine s_irem B X0 (pc' := 6) (v := (1 : Int32)) at_5 (hv17) (by decide) rfl ?_
      refine s_istore B X0 (pc' := 8) (Ls' := #[.val (.int i0), .val (.int i1), .val (.int i2), .val (.int i3), .val (.int (1 : Int32)), .unset, .unset, .unset, .unset, .unset, .unset, .unset, .unset, .unset]) at_6 rfl rfl ?_
      refine s_iloadN B X0 (pc' := 9) at_8 rfl rfl ?_
      refine s_ldc B X0 (pc' := 11) (v := (2147483647 : Int32)) (tw0 hw) at_9 rfl ?_
      refine s_iand B X0 (pc' := 12) (v := (i1 &&& (2147483647 : Int32))) at_11 rfl rfl ?_
      refine s_ldc B X0 (pc' := 14) (v := (65536 : Int32)) (tw1 hw) at_12 rfl ?_
      refine s_irem B X0 (pc' := 15) (v := ((i1 &&& (2147483647 : Int32)) % (65536 : Int32))) at_14 rfl (by decide) rfl ?_
      refine s_iconst B X0 (pc' := 16) (v := (1 : Int32)) at_15 rfl rfl ?_
      refine s_iadd B X0 (pc' := 17) (v := S) at_16 (hS) rfl ?_
      refine s_istore B X0 (pc' := 19) (Ls' := #[.val (.int i0), .val (.int i1), .val (.int i2), .val (.int i3), .val (.int (1 : Int32)), .val (.int S), .unset, .unset, .unset, .unset, .unset, .unset, .unset, .unset]) at_17 rfl rfl ?_
      refine s_iloadN B X0 (pc' := 20) at_19 rfl rfl ?_
      refine s_ldc B X0 (pc' := 22) (v := (2147483647 : Int32)) (tw0 hw) at_20 rfl ?_
      refine s_iand B X0 (pc' := 23) (v := (i2 &&& (2147483647 : Int32))) at_22 rfl rfl ?_
      refine s_iload B X0 (pc' := 25) at_23 rfl rfl ?_
      refine s_irem B X0 (pc' := 26) (v := R) at_25 (hR) hSne rfl ?_
      refine s_istore B X0 (pc' := 28) (Ls' := #[.val (.int i0), .val (.int i1), .val (.int i2), .val (.int i3), .val (.int (1 : Int32)), .val (.int S), .val (.int R), .unset, .unset, .unset, .unset, .unset, .unset, .unset]) at_26 rfl rfl ?_
      refine s_iloadN B X0 (pc' := 29) at_28 rfl rfl ?_
      refine s_ldc B X0 (pc' := 31) (v := (2147483647 : Int32)) (tw0 hw) at_29 rfl ?_
      refine s_iand B X0 (pc' := 32) (v := (i3 &&& (2147483647 : Int32))) at_31 rfl rfl ?_
      refine s_iload B X0 (pc' := 34) at_32 rfl rfl ?_
      refine s_irem B X0 (pc' := 35) (v := C) at_34 (hC) hSne rfl ?_
      refine s_istore B X0 (pc' := 37) (Ls' := #[.val (.int i0), .val (.int i1), .val (.int i2), .val (.int i3), .val (.int (1 : Int32)), .val (.int S), .val (.int R), .val (.int C), .unset, .unset, .unset, .unset, .unset, .unset]) at_35 rfl rfl ?_
      refine s_iload B X0 (pc' := 39) at_37 rfl rfl ?_
      refine p_static B X0 (y := mn0) (pc' := 42) (argsL := [(.int (1 : Int32))]) (under := []) (W := 0) e0 (tw2 hw) (tw3 hw) (tw5 hw) (tw4 hw) (by decide) (rm1_3 l Z a0 hw  w_FULL_MATRIX w_UPPER_DIAG_ROW w_LOWER_DIAG_ROW w_UPPER_ROW w_LOWER_ROW Z.heap F0 ) (lenOf pd_0 rfl) rfl rfl (by decide) (by decide) rfl rfl (by decide) (by decide) rfl at_39 rfl (fun T21 X21 e21 => ?_)
      show Go p e below _ (T21.setTop (mkF m 42 #[.val (.int i0), .val (.int i1), .val (.int i2), .val (.int i3), .val (.int (1 : Int32)), .val (.int S), .val (.int R), .val (.int C), .unset, .unset, .unset, .unset, .unset, .unset] [(.ref w_UPPER_ROW)]))
      refine s_astore B X21 (pc' := 44) (Ls' := #[.val (.int i0), .val (.int i1), .val (.int i2), .val (.int i3), .val (.int (1 : Int32)), .val (.int S), .val (.int R), .val (.int C), .val (.ref w_UPPER_ROW), .unset, .unset, .unset, .unset, .unset]) at_42 rfl rfl rfl ?_
      refine s_aload B X21 (pc' := 46) at_44 rfl rfl rfl ?_
      refine s_iload B X21 (pc' := 48) at_46 rfl rfl ?_
      refine s_iload B X21 (pc' := 50) at_48 rfl rfl ?_
      refine p_virtual B X21 (y := mn1) (pc' := 53) (argsL := [(.int R), (.int S)]) (under := []) (W := 0) e21 (tw9 hw) (tw10 hw) (tw12 hw) (tw11 hw) (tw13 hw) (tw7 hw) (by decide) (rm2_4 l Z a0 hw R S w_FULL_MATRIX w_UPPER_DIAG_ROW w_LOWER_DIAG_ROW w_UPPER_ROW w_LOWER_ROW Z.heap F0 ) E_UPPER_ROW (lenOf pd_1 rfl) rfl rfl (by decide) (by decide) rfl rfl (by decide) (by decide) rfl at_50 rfl (fun T22 X22 e22 => ?_)
      show Go p e below _ (T22.setTop (mkF m 53 #[.val (.int i0), .val (.int i1), .val (.int i2), .val (.int i3), .val (.int (1 : Int32)), .val (.int S), .val (.int R), .val (.int C), .val (.ref w_UPPER_ROW), .unset, .unset, .unset, .unset, .unset] [(.int S)]))
      refine s_istore B X22 (pc' := 55) (Ls' := #[.val (.int i0), .val (.int i1), .val (.int i2), .val (.int i3), .val (.int (1 : Int32)), .val (.int S), .val (.int R), .val (.int C), .val (.ref w_UPPER_ROW), .val (.int S), .unset, .unset, .unset, .unset]) at_53 rfl rfl ?_
      refine s_aload B X22 (pc' := 57) at_55 rfl rfl rfl ?_
      refine s_iload B X22 (pc' := 59) at_57 rfl rfl ?_
      refine p_virtual B X22 (y := mn2) (pc' := 62) (argsL := [(.int R)]) (under := []) (W := 0) e22 (tw16 hw) (tw17 hw) (tw19 hw) (tw18 hw) (tw20 hw) (tw7 hw) (by decide) (rm3_5 l Z a0 hw R w_FULL_MATRIX w_UPPER_DIAG_ROW w_LOWER_DIAG_ROW w_UPPER_ROW w_LOWER_ROW Z.heap F0 ) E_UPPER_ROW (lenOf pd_2 rfl) rfl rfl (by decide) (by decide) rfl rfl (by decide) (by decide) rfl at_59 rfl (fun T23 X23 e23 => ?_)
      show Go p e below _ (T23.setTop (mkF m 62 #[.val (.int i0), .val (.int i1), .val (.int i2), .val (.int i3), .val (.int (1 : Int32)), .val (.int S), .val (.int R), .val (.int C), .val (.ref w_UPPER_ROW), .val (.int S), .unset, .unset, .unset, .unset] [(.int (R + (1 : Int32)))]))
      refine s_istore B X23 (pc' := 64) (Ls' := #[.val (.int i0), .val (.int i1), .val (.int i2), .val (.int i3), .val (.int (1 : Int32)), .val (.int S), .val (.int R), .val (.int C), .val (.ref w_UPPER_ROW), .val (.int S), .val (.int (R + (1 : Int32))), .unset, .unset, .unset]) at_62 rfl rfl ?_
      refine s_iload B X23 (pc' := 66) at_64 rfl rfl ?_
      refine s_ifY B X23 (pc' := 79) at_66 (by decide) (by decide) (by decide) ?_
      refine s_iload B X23 (pc' := 81) at_79 rfl rfl ?_
      refine s_iconst B X23 (pc' := 82) (v := (1 : Int32)) at_81 rfl rfl ?_
      refine s_icmpN B X23 (pc' := 85) at_82 (by decide) rfl ?_
      refine s_iload B X23 (pc' := 87) at_85 rfl rfl ?_
      refine s_istore B X23 (pc' := 89) (Ls' := #[.val (.int i0), .val (.int i1), .val (.int i2), .val (.int i3), .val (.int (1 : Int32)), .val (.int S), .val (.int R), .val (.int C), .val (.ref w_UPPER_ROW), .val (.int S), .val (.int (R + (1 : Int32))), .val (.int S), .unset, .unset]) at_87 rfl rfl ?_
      refine s_iload B X23 (pc' := 91) at_89 rfl rfl ?_
      refine s_iload B X23 (pc' := 93) at_91 rfl rfl ?_
      refine b_icmp_le B X23 (py := 100) (pn := 96) at_93 (by decide) (by decide) rfl (fun _ => ?_) (fun q => absurd q (by simp only [Int32.lt_iff_toInt_lt, ← Int32.toInt_inj, e1, z0]; omega))
      refine s_iconst B X23 (pc' := 101) (v := (0 : Int32)) at_100 rfl rfl ?_
      refine s_istore B X23 (pc' := 103) (Ls' := #[.val (.int i0), .val (.int i1), .val (.int i2), .val (.int i3), .val (.int (1 : Int32)), .val (.int S), .val (.int R), .val (.int C), .val (.ref w_UPPER_ROW), .val (.int S), .val (.int (R + (1 : Int32))), .val (.int S), .val (.int (0 : Int32)), .unset]) at_101 rfl rfl ?_
      refine s_goto B X23 (pc' := 180) at_103 (by decide) (by decide) ?_
      refine s_iload B X23 (pc' := 182) at_180 rfl rfl ?_
      refine s_iload B X23 (pc' := 184) at_182 rfl rfl ?_
      refine b_icmp_gt B X23 (py := 198) (pn := 187) at_184 (by decide) (by decide) rfl (fun _ => ?_) (fun q => absurd (by simp only [Int32.lt_iff_toInt_lt, ← Int32.toInt_inj, e1, z0]; omega) q)
      refine s_iconst B X23 (pc' := 199) (v := (0 : Int32)) at_198 rfl rfl ?_
      refine s_istore B X23 (pc' := 201) (Ls' := #[.val (.int i0), .val (.int i1), .val (.int i2), .val (.int i3), .val (.int (1 : Int32)), .val (.int S), .val (.int R), .val (.int C), .val (.ref w_UPPER_ROW), .val (.int S), .val (.int (R + (1 : Int32))), .val (.int S), .val (.int (0 : Int32)), .val (.int (0 : Int32))]) at_199 rfl rfl ?_
      refine s_iload B X23 (pc' := 203) at_201 rfl rfl ?_
      refine s_iload B X23 (pc' := 205) at_203 rfl rfl ?_
      refine b_icmp_ne B X23 (py := 219) (pn := 208) at_205 (by decide) (by decide) rfl (fun q => absurd rfl q) (fun _ => ?_)
      refine s_iload B X23 (pc' := 210) at_208 rfl rfl ?_
      refine s_iload B X23 (pc' := 212) at_210 rfl rfl ?_
      refine s_icmpN B X23 (pc' := 215) at_212 (by decide) rfl ?_
      refine s_iconst B X23 (pc' := 216) (v := (1 : Int32)) at_215 rfl rfl ?_
      refine s_goto B X23 (pc' := 220) at_216 (by decide) (by decide) ?_
      exact r_nar B X23 (t := .boolean) (by simp) rfl at_220 ⟨rfl, (Fr.nil _)⟩ (by decide) (by decide)
    · refine s_iloadN B X0 (pc' := 1) at_0 rfl rfl ?_
      refine s_ldc B X0 (pc' := 3) (v := (2147483647 : Int32)) (tw0 hw) at_1 rfl ?_
      refine s_iand B X0 (pc' := 4) (v := (i0 &&& (2147483647 : Int32))) at_3 rfl rfl ?_
      refine s_iconst B X0 (pc' := 5) (v := (5 : Int32)) at_4 rfl rfl ?_
      refine s_irem B X0 (pc' := 6) (v := (2 : Int32)) at_5 (hv17) (by decide) rfl ?_
      refine s_istore B X0 (pc' := 8) (Ls' := #[.val (.int i0), .val (.int i1), .val (.int i2), .val (.int i3), .val (.int (2 : Int32)), .unset, .unset, .unset, .unset, .unset, .unset, .unset, .unset, .unset]) at_6 rfl rfl ?_
      refine s_iloadN B X0 (pc' := 9) at_8 rfl rfl ?_
      refine s_ldc B X0 (pc' := 11) (v := (2147483647 : Int32)) (tw0 hw) at_9 rfl ?_
      refine s_iand B X0 (pc' := 12) (v := (i1 &&& (2147483647 : Int32))) at_11 rfl rfl ?_
      refine s_ldc B X0 (pc' := 14) (v := (65536 : Int32)) (tw1 hw) at_12 rfl ?_
      refine s_irem B X0 (pc' := 15) (v := ((i1 &&& (2147483647 : Int32)) % (65536 : Int32))) at_14 rfl (by decide) rfl ?_
      refine s_iconst B X0 (pc' := 16) (v := (1 : Int32)) at_15 rfl rfl ?_
      refine s_iadd B X0 (pc' := 17) (v := S) at_16 (hS) rfl ?_
      refine s_istore B X0 (pc' := 19) (Ls' := #[.val (.int i0), .val (.int i1), .val (.int i2), .val (.int i3), .val (.int (2 : Int32)), .val (.int S), .unset, .unset, .unset, .unset, .unset, .unset, .unset, .unset]) at_17 rfl rfl ?_
      refine s_iloadN B X0 (pc' := 20) at_19 rfl rfl ?_
      refine s_ldc B X0 (pc' := 22) (v := (2147483647 : Int32)) (tw0 hw) at_20 rfl ?_
      refine s_iand B X0 (pc' := 23) (v := (i2 &&& (2147483647 : Int32))) at_22 rfl rfl ?_
      refine s_iload B X0 (pc' := 25) at_23 rfl rfl ?_
      refine s_irem B X0 (pc' := 26) (v := R) at_25 (hR) hSne rfl ?_
      refine s_istore B X0 (pc' := 28) (Ls' := #[.val (.int i0), .val (.int i1), .val (.int i2), .val (.int i3), .val (.int (2 : Int32)), .val (.int S), .val (.int R), .unset, .unset, .unset, .unset, .unset, .unset, .unset]) at_26 rfl rfl ?_
      refine s_iloadN B X0 (pc' := 29) at_28 rfl rfl ?_
      refine s_ldc B X0 (pc' := 31) (v := (2147483647 : Int32)) (tw0 hw) at_29 rfl ?_
      refine s_iand B X0 (pc' := 32) (v := (i3 &&& (2147483647 : Int32))) at_31 rfl rfl ?_
      refine s_iload B X0 (pc' := 34) at_32 rfl rfl ?_
      refine s_irem B X0 (pc' := 35) (v := C) at_34 (hC) hSne rfl ?_
      refine s_istore B X0 (pc' := 37) (Ls' := #[.val (.int i0), .val (.int i1), .val (.int i2), .val (.int i3), .val (.int (2 : Int32)), .val (.int S), .val (.int R), .val (.int C), .unset, .unset, .unset, .unset, .unset, .unset]) at_35 rfl rfl ?_
      refine s_iload B X0 (pc' := 39) at_37 rfl rfl ?_
      refine p_static B X0 (y := mn0) (pc' := 42) (argsL := [(.int (2 : Int32))]) (under := []) (W := 0) e0 (tw2 hw) (tw3 hw) (tw5 hw) (tw4 hw) (by decide) (rm1_6 l Z a0 hw  w_FULL_MATRIX w_UPPER_DIAG_ROW w_LOWER_DIAG_ROW w_UPPER_ROW w_LOWER_ROW Z.heap F0 ) (lenOf pd_0 rfl) rfl rfl (by decide) (by decide) rfl rfl (by decide) (by decide) rfl at_39 rfl (fun T24 X24 e24 => ?_)
      show Go p e below _ (T24.setTop (mkF m 42 #[.val (.int i0), .val (.int i1), .val (.int i2), .val (.int i3), .val (.int (2 : Int32)), .val (.int S), .val (.int R), .val (.int C), .unset, .unset, .unset, .unset, .unset, .unset] [(.ref w_UPPER_DIAG_ROW)]))
      refine s_astore B X24 (pc' := 44) (Ls' := #[.val (.int i0), .val (.int i1), .val (.int i2), .val (.int i3), .val (.int (2 : Int32)), .val (.int S), .val (.int R), .val (.int C), .val (.ref w_UPPER_DIAG_ROW), .unset, .unset, .unset, .unset, .unset]) at_42 rfl rfl rfl ?_
      refine s_aload B X24 (pc' := 46) at_44 rfl rfl rfl ?_
      refine s_iload B X24 (pc' := 48) at_46 rfl rfl ?_
      refine s_iload B X24 (pc' := 50) at_48 rfl rfl ?_
      refine p_virtual B X24 (y := mn1) (pc' := 53) (argsL := [(.int R), (.int S)]) (under := []) (W := 0) e24 (tw9 hw) (tw10 hw) (tw12 hw) (tw11 hw) (tw13 hw) (tw7 hw) (by decide) (rm2_7 l Z a0 hw R S w_FULL_MATRIX w_UPPER_DIAG_ROW w_LOWER_DIAG_ROW w_UPPER_ROW w_LOWER_ROW Z.heap F0 ) E_UPPER_DIAG_ROW (lenOf pd_1 rfl) rfl rfl (by decide) (by decide) rfl rfl (by decide) (by decide) rfl at_50 rfl (fun T25 X25 e25 => ?_)
      show Go p e below _ (T25.setTop (mkF m 53 #[.val (.int i0), .val (.int i1), .val (.int i2), .val (.int i3), .val (.int (2 : Int32)), .val (.int S), .val (.int R), .val (.int C), .val (.ref w_UPPER_DIAG_ROW), .unset, .unset, .unset, .unset, .unset] [(.int S)]))
      refine s_istore B X25 (pc' := 55) (Ls' := #[.val (.int i0), .val (.int i1), .val (.int i2), .val (.int i3), .val (.int (2 : Int32)), .val (.int S), .val (.int R), .val (.int C), .val (.ref w_UPPER_DIAG_ROW), .val (.int S), .unset, .unset, .unset, .unset]) at_53 rfl rfl ?_
      refine s_aload B X25 (pc' := 57) at_55 rfl rfl rfl ?_
      refine s_iload B X25 (pc' := 59) at_57 rfl rfl ?_
      refine p_virtual B X25 (y := mn2) (pc' := 62) (argsL := [(.int R)]) (under := []) (W := 0) e25 (tw16 hw) (tw17 hw) (tw19 hw) (tw18 hw) (tw20 hw) (tw7 hw) (by decide) (rm3_8 l Z a0 hw R w_FULL_MATRIX w_UPPER_DIAG_ROW w_LOWER_DIAG_ROW w_UPPER_ROW w_LOWER_ROW Z.heap F0 ) E_UPPER_DIAG_ROW (lenOf pd_2 rfl) rfl rfl (by decide) (by decide) rfl rfl (by decide) (by decide) rfl at_59 rfl (fun T26 X26 e26 => ?_)
      show Go p e below _ (T26.setTop (mkF m 62 #[.val (.int i0), .val (.int i1), .val (.int i2), .val (.int i3), .val (.int (2 : Int32)), .val (.int S), .val (.int R), .val (.int C), .val (.ref w_UPPER_DIAG_ROW), .val (.int S), .unset, .unset, .unset, .unset] [(.int R)]))
      refine s_istore B X26 (pc' := 64) (Ls' := #[.val (.int i0), .val (.int i1), .val (.int i2), .val (.int i3), .val (.int (2 : Int32)), .val (.int S), .val (.int R), .val (.int C), .val (.ref w_UPPER_DIAG_ROW), .val (.int S), .val (.int R), .unset, .unset, .unset]) at_62 rfl rfl ?_
      refine s_iload B X26 (pc' := 66) at_64 rfl rfl ?_
      refine s_ifY B X26 (pc' := 79) at_66 (by decide) (by decide) (by decide) ?_
      refine s_iload B X26 (pc' := 81) at_79 rfl rfl ?_
      refine s_iconst B X26 (pc' := 82) (v := (1 : Int32)) at_81 rfl rfl ?_
      refine s_icmpY B X26 (pc' := 106) at_82 (by decide) (by decide) (by decide) ?_
      refine s_iload B X26 (pc' := 108) at_106 rfl rfl ?_
      refine s_iconst B X26 (pc' := 109) (v := (2 : Int32)) at_108 rfl rfl ?_
      refine s_icmpN B X26 (pc' := 112) at_109 (by decide) rfl ?_
      refine s_iload B X26 (pc' := 114) at_112 rfl rfl ?_
      refine s_istore B X26 (pc' := 116) (Ls' := #[.val (.int i0), .val (.int i1), .val (.int i2), .val (.int i3), .val (.int (2 : Int32)), .val (.int S), .val (.int R), .val (.int C), .val (.ref w_UPPER_DIAG_ROW), .val (.int S), .val (.int R), .val (.int S), .unset, .unset]) at_114 rfl rfl ?_
      refine s_iload B X26 (pc' := 118) at_116 rfl rfl ?_
      refine s_iload B X26 (pc' := 120) at_118 rfl rfl ?_
      refine b_icmp_lt B X26 (py := 127) (pn := 123) at_120 (by decide) (by decide) rfl (fun q => absurd q (by simp only [Int32.lt_iff_toInt_lt, ← Int32.toInt_inj, e1, z0]; omega)) (fun _ => ?_)
      refine s_iconst B X26 (pc' := 124) (v := (1 : Int32)) at_123 rfl rfl ?_
      refine s_goto B X26 (pc' := 128) at_124 (by decide) (by decide) ?_
      refine s_istore B X26 (pc' := 130) (Ls' := #[.val (.int i0), .val (.int i1), .val (.int i2), .val (.int i3), .val (.int (2 : Int32)), .val (.int S), .val (.int R), .val (.int C), .val (.ref w_UPPER_DIAG_ROW), .val (.int S), .val (.int R), .val (.int S), .val (.int (1 : Int32)), .unset]) at_128 rfl rfl ?_
      refine s_goto B X26 (pc' := 180) at_130 (by decide) (by decide) ?_
      refine s_iload B X26 (pc' := 182) at_180 rfl rfl ?_
      refine s_iload B X26 (pc' := 184) at_182 rfl rfl ?_
      refine b_icmp_gt B X26 (py := 198) (pn := 187) at_184 (by decide) (by decide) rfl (fun q => absurd q (by simp only [Int32.lt_iff_toInt_lt, ← Int32.toInt_inj, e1, z0]; omega)) (fun _ => ?_)
      refine s_iload B X26 (pc' := 189) at_187 rfl rfl ?_
      refine s_iload B X26 (pc' := 191) at_189 rfl rfl ?_
      refine b_icmp_ge B X26 (py := 198) (pn := 194) at_191 (by decide) (by decide) rfl (fun q => absurd (by simp only [Int32.lt_iff_toInt_lt, ← Int32.toInt_inj, e1, z0]; omega) q) (fun _ => ?_)
      refine s_iconst B X26 (pc' := 195) (v := (1 : Int32)) at_194 rfl rfl ?_
      refine s_goto B X26 (pc' := 199) at_195 (by decide) (by decide) ?_
      refine s_istore B X26 (pc' := 201) (Ls' := #[.val (.int i0), .val (.int i1), .val (.int i2), .val (.int i3), .val (.int (2 : Int32)), .val (.int S), .val (.int R), .val (.int C), .val (.ref w_UPPER_DIAG_ROW), .val (.int S), .val (.int R), .val (.int S), .val (.int (1 : Int32)), .val (.int (1 : Int32))]) at_199 rfl rfl ?_
      refine s_iload B X26 (pc' := 203) at_201 rfl rfl ?_
      refine s_iload B X26 (pc' := 205) at_203 rfl rfl ?_
      refine b_icmp_ne B X26 (py := 219) (pn := 208) at_205 (by decide) (by decide) rfl (fun q => absurd rfl q) (fun _ => ?_)
      refine s_iload B X26 (pc' := 210) at_208 rfl rfl ?_
      refine s_iload B X26 (pc' := 212) at_210 rfl rfl ?_
      refine s_icmpN B X26 (pc' := 215) at_212 (by decide) rfl ?_
      refine s_iconst B X26 (pc' := 216) (v := (1 : Int32)) at_215 rfl rfl ?_
      refine s_goto B X26 (pc' := 220) at_216 (by decide) (by decide) ?_
      exact r_nar B X26 (t := .boolean) (by simp) rfl at_220 ⟨rfl, (Fr.nil _)⟩ (by decide) (by decide)
    · refine s_iloadN B X0 (pc' := 1) at_0 rfl rfl ?_
      refine s_ldc B X0 (pc' := 3) (v := (2147483647 : Int32)) (tw0 hw) at_1 rfl ?_
      refine s_iand B X0 (pc' := 4) (v := (i0 &&& (2147483647 : Int32))) at_3 rfl rfl ?_
      refine s_iconst B X0 (pc' := 5) (v := (5 : Int32)) at_4 rfl rfl ?_
      refine s_irem B X0 (pc' := 6) (v := (3 : Int32)) at_5 (hv17) (by decide) rfl ?_
      refine s_istore B X0 (pc' := 8) (Ls' := #[.val (.int i0), .val (.int i1), .val (.int i2), .val (.int i3), .val (.int (3 : Int32)), .unset, .unset, .unset, .unset, .unset, .unset, .unset, .unset, .unset]) at_6 rfl rfl ?_
      refine s_iloadN B X0 (pc' := 9) at_8 rfl rfl ?_
      refine s_ldc B X0 (pc' := 11) (v := (2147483647 : Int32)) (tw0 hw) at_9 rfl ?_
      refine s_iand B X0 (pc' := 12) (v := (i1 &&& (2147483647 : Int32))) at_11 rfl rfl ?_
      refine s_ldc B X0 (pc' := 14) (v := (65536 : Int32)) (tw1 hw) at_12 rfl ?_
      refine s_irem B X0 (pc' := 15) (v := ((i1 &&& (2147483647 : Int32)) % (65536 : Int32))) at_14 rfl (by decide) rfl ?_
      refine s_iconst B X0 (pc' := 16) (v := (1 : Int32)) at_15 rfl rfl ?_
      refine s_iadd B X0 (pc' := 17) (v := S) at_16 (hS) rfl ?_
      refine s_istore B X0 (pc' := 19) (Ls' := #[.val (.int i0), .val (.int i1), .val (.int i2), .val (.int i3), .val (.int (3 : Int32)), .val (.int S), .unset, .unset, .unset, .unset, .unset, .unset, .unset, .unset]) at_17 rfl rfl ?_
      refine s_iloadN B X0 (pc' := 20) at_19 rfl rfl ?_
      refine s_ldc B X0 (pc' := 22) (v := (2147483647 : Int32)) (tw0 hw) at_20 rfl ?_
      refine s_iand B X0 (pc' := 23) (v := (i2 &&& (2147483647 : Int32))) at_22 rfl rfl ?_
      refine s_iload B X0 (pc' := 25) at_23 rfl rfl ?_
      refine s_irem B X0 (pc' := 26) (v := R) at_25 (hR) hSne rfl ?_
      refine s_istore B X0 (pc' := 28) (Ls' := #[.val (.int i0), .val (.int i1), .val (.int i2), .val (.int i3), .val (.int (3 : Int32)), .val (.int S), .val (.int R), .unset, .unset, .unset, .unset, .unset, .unset, .unset]) at_26 rfl rfl ?_
      refine s_iloadN B X0 (pc' := 29) at_28 rfl rfl ?_
      refine s_ldc B X0 (pc' := 31) (v := (2147483647 : Int32)) (tw0 hw) at_29 rfl ?_
      refine s_iand B X0 (pc' := 32) (v := (i3 &&& (2147483647 : Int32))) at_31 rfl rfl ?_
      refine s_iload B X0 (pc' := 34) at_32 rfl rfl ?_
      refine s_irem B X0 (pc' := 35) (v := C) at_34 (hC) hSne rfl ?_
      refine s_istore B X0 (pc' := 37) (Ls' := #[.val (.int i0), .val (.int i1), .val (.int i2), .val (.int i3), .val (.int (3 : Int32)), .val (.int S), .val (.int R), .val (.int C), .unset, .unset, .unset, .unset, .unset, .unset]) at_35 rfl rfl ?_
      refine s_iload B X0 (pc' := 39) at_37 rfl rfl ?_
      refine p_static B X0 (y := mn0) (pc' := 42) (argsL := [(.int (3 : Int32))]) (under := []) (W := 0) e0 (tw2 hw) (tw3 hw) (tw5 hw) (tw4 hw) (by decide) (rm1_9 l Z a0 hw  w_FULL_MATRIX w_UPPER_DIAG_ROW w_LOWER_DIAG_ROW w_UPPER_ROW w_LOWER_ROW Z.heap F0 ) (lenOf pd_0 rfl) rfl rfl (by decide) (by decide) rfl rfl (by decide) (by decide) rfl at_39 rfl (fun T27 X27 e27 => ?_)
      show Go p e below _ (T27.setTop (mkF m 42 #[.val (.int i0), .val (.int i1), .val (.int i2), .val (.int i3), .val (.int (3 : Int32)), .val (.int S), .val (.int R), .val (.int C), .unset, .unset, .unset, .unset, .unset, .unset] [(.ref w_LOWER_ROW)]))
      refine s_astore B X27 (pc' := 44) (Ls' := #[.val (.int i0), .val (.int i1), .val (.int i2), .val (.int i3), .val (.int (3 : Int32)), .val (.int S), .val (.int R), .val (.int C), .val (.ref w_LOWER_ROW), .unset, .unset, .unset, .unset, .unset]) at_42 rfl rfl rfl ?_
      refine s_aload B X27 (pc' := 46) at_44 rfl rfl rfl ?_
      refine s_iload B X27 (pc' := 48) at_46 rfl rfl ?_
      refine s_iload B X27 (pc' := 50) at_48 rfl rfl ?_
      refine p_virtual B X27 (y := mn1) (pc' := 53) (argsL := [(.int R), (.int S)]) (under := []) (W := 0) e27 (tw9 hw) (tw10 hw) (tw12 hw) (tw11 hw) (tw13 hw) (tw7 hw) (by decide) (rm2_10 l Z a0 hw R S w_FULL_MATRIX w_UPPER_DIAG_ROW w_LOWER_DIAG_ROW w_UPPER_ROW w_LOWER_ROW Z.heap F0 ) E_LOWER_ROW (lenOf pd_1 rfl) rfl rfl (by decide) (by decide) rfl rfl (by decide) (by decide) rfl at_50 rfl (fun T28 X28 e28 => ?_)
      show Go p e below _ (T28.setTop (mkF m 53 #[.val (.int i0), .val (.int i1), .val (.int i2), .val (.int i3), .val (.int (3 : Int32)), .val (.int S), .val (.int R), .val (.int C), .val (.ref w_LOWER_ROW), .unset, .unset, .unset, .unset, .unset] [(.int R)]))
      refine s_istore B X28 (pc' := 55) (Ls' := #[.val (.int i0), .val (.int i1), .val (.int i2), .val (.int i3), .val (.int (3 : Int32)), .val (.int S), .val (.int R), .val (.int C), .val (.ref w_LOWER_ROW), .val (.int R), .unset, .unset, .unset, .unset]) at_53 rfl rfl ?_
      refine s_aload B X28 (pc' := 57) at_55 rfl rfl rfl ?_
      refine s_iload B X28 (pc' := 59) at_57 rfl rfl ?_
      refine p_virtual B X28 (y := mn2) (pc' := 62) (argsL := [(.int R)]) (under := []) (W := 0) e28 (tw16 hw) (tw17 hw) (tw19 hw) (tw18 hw) (tw20 hw) (tw7 hw) (by decide) (rm3_11 l Z a0 hw R w_FULL_MATRIX w_UPPER_DIAG_ROW w_LOWER_DIAG_ROW w_UPPER_ROW w_LOWER_ROW Z.heap F0 ) E_LOWER_ROW (lenOf pd_2 rfl) rfl rfl (by decide) (by decide) rfl rfl (by decide) (by decide) rfl at_59 rfl (fun T29 X29 e29 => ?_)
      show Go p e below _ (T29.setTop (mkF m 62 #[.val (.int i0), .val (.int i1), .val (.int i2), .val (.int i3), .val (.int (3 : Int32)), .val (.int S), .val (.int R), .val (.int C), .val (.ref w_LOWER_ROW), .val (.int R), .unset, .unset, .unset, .unset] [(.int (0 : Int32))]))
      refine s_istore B X29 (pc' := 64) (Ls' := #[.val (.int i0), .val (.int i1), .val (.int i2), .val (.int i3), .val (.int (3 : Int32)), .val (.int S), .val (.int R), .val (.int C), .val (.ref w_LOWER_ROW), .val (.int R), .val (.int (0 : Int32)), .unset, .unset, .unset]) at_62 rfl rfl ?_
      refine s_iload B X29 (pc' := 66) at_64 rfl rfl ?_
      refine s_ifY B X29 (pc' := 79) at_66 (by decide) (by decide) (by decide) ?_
      refine s_iload B X29 (pc' := 81) at_79 rfl rfl ?_
      refine s_iconst B X29 (pc' := 82) (v := (1 : Int32)) at_81 rfl rfl ?_
      refine s_icmpY B X29 (pc' := 106) at_82 (by decide) (by decide) (by decide) ?_
      refine s_iload B X29 (pc' := 108) at_106 rfl rfl ?_
      refine s_iconst B X29 (pc' := 109) (v := (2 : Int32)) at_108 rfl rfl ?_
      refine s_icmpY B X29 (pc' := 133) at_109 (by decide) (by decide) (by decide) ?_
      refine s_iload B X29 (pc' := 135) at_133 rfl rfl ?_
      refine s_iconst B X29 (pc' := 136) (v := (3 : Int32)) at_135 rfl rfl ?_
      refine s_icmpN B X29 (pc' := 139) at_136 (by decide) rfl ?_
      refine s_iload B X29 (pc' := 141) at_139 rfl rfl ?_
      refine s_istore B X29 (pc' := 143) (Ls' := #[.val (.int i0), .val (.int i1), .val (.int i2), .val (.int i3), .val (.int (3 : Int32)), .val (.int S), .val (.int R), .val (.int C), .val (.ref w_LOWER_ROW), .val (.int R), .val (.int (0 : Int32)), .val (.int R), .unset, .unset]) at_141 rfl rfl ?_
      refine s_iload B X29 (pc' := 145) at_143 rfl rfl ?_
      refine s_iload B X29 (pc' := 147) at_145 rfl rfl ?_
      refine b_icmp_ge B X29 (py := 154) (pn := 150) at_147 (by decide) (by decide) rfl (fun _ => ?_) (fun q => absurd q (by simp only [Int32.lt_iff_toInt_lt, ← Int32.toInt_inj, e1, z0]; omega))
      refine s_iconst B X29 (pc' := 155) (v := (0 : Int32)) at_154 rfl rfl ?_
      refine s_istore B X29 (pc' := 157) (Ls' := #[.val (.int i0), .val (.int i1), .val (.int i2), .val (.int i3), .val (.int (3 : Int32)), .val (.int S), .val (.int R), .val (.int C), .val (.ref w_LOWER_ROW), .val (.int R), .val (.int (0 : Int32)), .val (.int R), .val (.int (0 : Int32)), .unset]) at_155 rfl rfl ?_
      refine s_goto B X29 (pc' := 180) at_157 (by decide) (by decide) ?_
      refine s_iload B X29 (pc' := 182) at_180 rfl rfl ?_
      refine s_iload B X29 (pc' := 184) at_182 rfl rfl ?_
      refine b_icmp_gt B X29 (py := 198) (pn := 187) at_184 (by decide) (by decide) rfl (fun q => absurd q (by simp only [Int32.lt_iff_toInt_lt, ← Int32.toInt_inj, e1, z0]; omega)) (fun _ => ?_)
      refine s_iload B X29 (pc' := 189) at_187 rfl rfl ?_
      refine s_iload B X29 (pc' := 191) at_189 rfl rfl ?_
      refine b_icmp_ge B X29 (py := 198) (pn := 194) at_191 (by decide) (by decide) rfl (fun _ => ?_) (fun q => absurd q (by simp only [Int32.lt_iff_toInt_lt, ← Int32.toInt_inj, e1, z0]; omega))
      refine s_iconst B X29 (pc' := 199) (v := (0 : Int32)) at_198 rfl rfl ?_
      refine s_istore B X29 (pc' := 201) (Ls' := #[.val (.int i0), .val (.int i1), .val (.int i2), .val (.int i3), .val (.int (3 : Int32)), .val (.int S), .val (.int R), .val (.int C), .val (.ref w_LOWER_ROW), .val (.int R), .val (.int (0 : Int32)), .val (.int R), .val (.int (0 : Int32)), .val (.int (0 : Int32))]) at_199 rfl rfl ?_
      refine s_iload B X29 (pc' := 203) at_201 rfl rfl ?_
      refine s_iload B X29 (pc' := 205) at_203 rfl rfl ?_
      refine b_icmp_ne B X29 (py := 219) (pn := 208) at_205 (by decide) (by decide) rfl (fun q => absurd rfl q) (fun _ => ?_)
      refine s_iload B X29 (pc' := 210) at_208 rfl rfl ?_
      refine s_iload B X29 (pc' := 212) at_210 rfl rfl ?_
      refine s_icmpN B X29 (pc' := 215) at_212 (by decide) rfl ?_
      refine s_iconst B X29 (pc' := 216) (v := (1 : Int32)) at_215 rfl rfl ?_
      refine s_goto B X29 (pc' := 220) at_216 (by decide) (by decide) ?_
      exact r_nar B X29 (t := .boolean) (by simp) rfl at_220 ⟨rfl, (Fr.nil _)⟩ (by decide) (by decide)
    · refine s_iloadN B X0 (pc' := 1) at_0 rfl rfl ?_
      refine s_ldc B X0 (pc' := 3) (v := (2147483647 : Int32)) (tw0 hw) at_1 rfl ?_
      refine s_iand B X0 (pc' := 4) (v := (i0 &&& (2147483647 : Int32))) at_3 rfl rfl ?_
      refine s_iconst B X0 (pc' := 5) (v := (5 : Int32)) at_4 rfl rfl ?_
      refine s_irem B X0 (pc' := 6) (v := (4 : Int32)) at_5 (hv17) (by decide) rfl ?_
      refine s_istore B X0 (pc' := 8) (Ls' := #[.val (.int i0), .val (.int i1), .val (.int i2), .val (.int i3), .val (.int (4 : Int32)), .unset, .unset, .unset, .unset, .unset, .unset, .unset, .unset, .unset]) at_6 rfl rfl ?_
      refine s_iloadN B X0 (pc' := 9) at_8 rfl rfl ?_
      refine s_ldc B X0 (pc' := 11) (v := (2147483647 : Int32)) (tw0 hw) at_9 rfl ?_
      refine s_iand B X0 (pc' := 12) (v := (i1 &&& (2147483647 : Int32))) at_11 rfl rfl ?_
      refine s_ldc B X0 (pc' := 14) (v := (65536 : Int32)) (tw1 hw) at_12 rfl ?_
      refine s_irem B X0 (pc' := 15) (v := ((i1 &&& (2147483647 : Int32)) % (65536 : Int32))) at_14 rfl (by decide) rfl ?_
      refine s_iconst B X0 (pc' := 16) (v := (1 : Int32)) at_15 rfl rfl ?_
      refine s_iadd B X0 (pc' := 17) (v := S) at_16 (hS) rfl ?_
      refine s_istore B X0 (pc' := 19) (Ls' := #[.val (.int i0), .val (.int i1), .val (.int i2), .val (.int i3), .val (.int (4 : Int32)), .val (.int S), .unset, .unset, .unset, .unset, .unset, .unset, .unset, .unset]) at_17 rfl rfl ?_
      refine s_iloadN B X0 (pc' := 20) at_19 rfl rfl ?_
      refine s_ldc B X0 (pc' := 22) (v := (2147483647 : Int32)) (tw0 hw) at_20 rfl ?_
      refine s_iand B X0 (pc' := 23) (v := (i2 &&& (2147483647 : Int32))) at_22 rfl rfl ?_
      refine s_iload B X0 (pc' := 25) at_23 rfl rfl ?_
      refine s_irem B X0 (pc' := 26) (v := R) at_25 (hR) hSne rfl ?_
      refine s_istore B X0 (pc' := 28) (Ls' := #[.val (.int i0), .val (.int i1), .val (.int i2), .val (.int i3), .val (.int (4 : Int32)), .val (.int S), .val (.int R), .unset, .unset, .unset, .unset, .unset, .unset, .unset]) at_26 rfl rfl ?_
      refine s_iloadN B X0 (pc' := 29) at_28 rfl rfl ?_
      refine s_ldc B X0 (pc' := 31) (v := (2147483647 : Int32)) (tw0 hw) at_29 rfl ?_
      refine s_iand B X0 (pc' := 32) (v := (i3 &&& (2147483647 : Int32))) at_31 rfl rfl ?_
      refine s_iload B X0 (pc' := 34) at_32 rfl rfl ?_
      refine s_irem B X0 (pc' := 35) (v := C) at_34 (hC) hSne rfl ?_
      refine s_istore B X0 (pc' := 37) (Ls' := #[.val (.int i0), .val (.int i1), .val (.int i2), .val (.int i3), .val (.int (4 : Int32)), .val (.int S), .val (.int R), .val (.int C), .unset, .unset, .unset, .unset, .unset, .unset]) at_35 rfl rfl ?_
      refine s_iload B X0 (pc' := 39) at_37 rfl rfl ?_
      refine p_static B X0 (y := mn0) (pc' := 42) (argsL := [(.int (4 : Int32))]) (under := []) (W := 0) e0 (tw2 hw) (tw3 hw) (tw5 hw) (tw4 hw) (by decide) (rm1_12 l Z a0 hw  w_FULL_MATRIX w_UPPER_DIAG_ROW w_LOWER_DIAG_ROW w_UPPER_ROW w_LOWER_ROW Z.heap F0 ) (lenOf pd_0 rfl) rfl rfl (by decide) (by decide) rfl rfl (by decide) (by decide) rfl at_39 rfl (fun T30 X30 e30 => ?_)
      show Go p e below _ (T30.setTop (mkF m 42 #[.val (.int i0), .val (.int i1), .val (.int i2), .val (.int i3), .val (.int (4 : Int32)), .val (.int S), .val (.int R), .val (.int C), .unset, .unset, .unset, .unset, .unset, .unset] [(.ref w_LOWER_DIAG_ROW)]))
      refine s_astore B X30 (pc' := 44) (Ls' := #[.val (.int i0), .val (.int i1), .val (.int i2), .val (.int i3), .val (.int (4 : Int32)), .val (.int S), .val (.int R), .val (.int C), .val (.ref w_LOWER_DIAG_ROW), .unset, .unset, .unset, .unset, .unset]) at_42 rfl rfl rfl ?_
      refine s_aload B X30 (pc' := 46) at_44 rfl rfl rfl ?_
      refine s_iload B X30 (pc' := 48) at_46 rfl rfl ?_
      refine s_iload B X30 (pc' := 50) at_48 rfl rfl ?_
      refine p_virtual B X30 (y := mn1) (pc' := 53) (argsL := [(.int R), (.int S)]) (under := []) (W := 0) e30 (tw9 hw) (tw10 hw) (tw12 hw) (tw11 hw) (tw13 hw) (tw7 hw) (by decide) (rm2_13 l Z a0 hw R S w_FULL_MATRIX w_UPPER_DIAG_ROW w_LOWER_DIAG_ROW w_UPPER_ROW w_LOWER_ROW Z.heap F0 ) E_LOWER_DIAG_ROW (lenOf pd_1 rfl) rfl rfl (by decide) (by decide) rfl rfl (by decide) (by decide) rfl at_50 rfl (fun T31 X31 e31 => ?_)
      show Go p e below _ (T31.setTop (mkF m 53 #[.val (.int i0), .val (.int i1), .val (.int i2), .val (.int i3), .val (.int (4 : Int32)), .val (.int S), .val (.int R), .val (.int C), .val (.ref w_LOWER_DIAG_ROW), .unset, .unset, .unset, .unset, .unset] [(.int (R + (1 : Int32)))]))
      refine s_istore B X31 (pc' := 55) (Ls' := #[.val (.int i0), .val (.int i1), .val (.int i2), .val (.int i3), .val (.int (4 : Int32)), .val (.int S), .val (.int R), .val (.int C), .val (.ref w_LOWER_DIAG_ROW), .val (.int (R + (1 : Int32))), .unset, .unset, .unset, .unset]) at_53 rfl rfl ?_
      refine s_aload B X31 (pc' := 57) at_55 rfl rfl rfl ?_
      refine s_iload B X31 (pc' := 59) at_57 rfl rfl ?_
      refine p_virtual B X31 (y := mn2) (pc' := 62) (argsL := [(.int R)]) (under := []) (W := 0) e31 (tw16 hw) (tw17 hw) (tw19 hw) (tw18 hw) (tw20 hw) (tw7 hw) (by decide) (rm3_14 l Z a0 hw R w_FULL_MATRIX w_UPPER_DIAG_ROW w_LOWER_DIAG_ROW w_UPPER_ROW w_LOWER_ROW Z.heap F0 ) E_LOWER_DIAG_ROW (lenOf pd_2 rfl) rfl rfl (by decide) (by decide) rfl rfl (by decide) (by decide) rfl at_59 rfl (fun T32 X32 e32 => ?_)
      show Go p e below _ (T32.setTop (mkF m 62 #[.val (.int i0), .val (.int i1), .val (.int i2), .val (.int i3), .val (.int (4 : Int32)), .val (.int S), .val (.int R), .val (.int C), .val (.ref w_LOWER_DIAG_ROW), .val (.int (R + (1 : Int32))), .unset, .unset, .unset, .unset] [(.int (0 : Int32))]))
      refine s_istore B X32 (pc' := 64) (Ls' := #[.val (.int i0), .val (.int i1), .val (.int i2), .val (.int i3), .val (.int (4 : Int32)), .val (.int S), .val (.int R), .val (.int C), .val (.ref w_LOWER_DIAG_ROW), .val (.int (R + (1 : Int32))), .val (.int (0 : Int32)), .unset, .unset, .unset]) at_62 rfl rfl ?_
      refine s_iload B X32 (pc' := 66) at_64 rfl rfl ?_
      refine s_ifY B X32 (pc' := 79) at_66 (by decide) (by decide) (by decide) ?_
      refine s_iload B X32 (pc' := 81) at_79 rfl rfl ?_
      refine s_iconst B X32 (pc' := 82) (v := (1 : Int32)) at_81 rfl rfl ?_
      refine s_icmpY B X32 (pc' := 106) at_82 (by decide) (by decide) (by decide) ?_
      refine s_iload B X32 (pc' := 108) at_106 rfl rfl ?_
      refine s_iconst B X32 (pc' := 109) (v := (2 : Int32)) at_108 rfl rfl ?_
      refine s_icmpY B X32 (pc' := 133) at_109 (by decide) (by decide) (by decide) ?_
      refine s_iload B X32 (pc' := 135) at_133 rfl rfl ?_
      refine s_iconst B X32 (pc' := 136) (v := (3 : Int32)) at_135 rfl rfl ?_
      refine s_icmpY B X32 (pc' := 160) at_136 (by decide) (by decide) (by decide) ?_
      refine s_iload B X32 (pc' := 162) at_160 rfl rfl ?_
      refine s_iconst B X32 (pc' := 163) (v := (1 : Int32)) at_162 rfl rfl ?_
      refine s_iadd B X32 (pc' := 164) (v := (R + (1 : Int32))) at_163 rfl rfl ?_
      refine s_istore B X32 (pc' := 166) (Ls' := #[.val (.int i0), .val (.int i1), .val (.int i2), .val (.int i3), .val (.int (4 : Int32)), .val (.int S), .val (.int R), .val (.int C), .val (.ref w_LOWER_DIAG_ROW), .val (.int (R + (1 : Int32))), .val (.int (0 : Int32)), .val (.int (R + (1 : Int32))), .unset, .unset]) at_164 rfl rfl ?_
      refine s_iload B X32 (pc' := 168) at_166 rfl rfl ?_
      refine s_iload B X32 (pc' := 170) at_168 rfl rfl ?_
      refine b_icmp_gt B X32 (py := 177) (pn := 173) at_170 (by decide) (by decide) rfl (fun q => absurd q (by simp only [Int32.lt_iff_toInt_lt, ← Int32.toInt_inj, e1, z0]; omega)) (fun _ => ?_)
      refine s_iconst B X32 (pc' := 174) (v := (1 : Int32)) at_173 rfl rfl ?_
      refine s_goto B X32 (pc' := 178) at_174 (by decide) (by decide) ?_
      refine s_istore B X32 (pc' := 180) (Ls' := #[.val (.int i0), .val (.int i1), .val (.int i2), .val (.int i3), .val (.int (4 : Int32)), .val (.int S), .val (.int R), .val (.int C), .val (.ref w_LOWER_DIAG_ROW), .val (.int (R + (1 : Int32))), .val (.int (0 : Int32)), .val (.int (R + (1 : Int32))), .val (.int (1 : Int32)), .unset]) at_178 rfl rfl ?_
      refine s_iload B X32 (pc' := 182) at_180 rfl rfl ?_
      refine s_iload B X32 (pc' := 184) at_182 rfl rfl ?_
      refine b_icmp_gt B X32 (py := 198) (pn := 187) at_184 (by decide) (by decide) rfl (fun q => absurd q (by simp only [Int32.lt_iff_toInt_lt, ← Int32.toInt_inj, e1, z0]; omega)) (fun _ => ?_)
      refine s_iload B X32 (pc' := 189) at_187 rfl rfl ?_
      refine s_iload B X32 (pc' := 191) at_189 rfl rfl ?_
      refine b_icmp_ge B X32 (py := 198) (pn := 194) at_191 (by decide) (by decide) rfl (fun q => absurd (by simp only [Int32.lt_iff_toInt_lt, ← Int32.toInt_inj, e1, z0]; omega) q) (fun _ => ?_)
      refine s_iconst B X32 (pc' := 195) (v := (1 : Int32)) at_194 rfl rfl ?_
      refine s_goto B X32 (pc' := 199) at_195 (by decide) (by decide) ?_
      refine s_istore B X32 (pc' := 201) (Ls' := #[.val (.int i0), .val (.int i1), .val (.int i2), .val (.int i3), .val (.int (4 : Int32)), .val (.int S), .val (.int R), .val (.int C), .val (.ref w_LOWER_DIAG_ROW), .val (.int (R + (1 : Int32))), .val (.int (0 : Int32)), .val (.int (R + (1 : Int32))), .val (.int (1 : Int32)), .val (.int (1 : Int32))]) at_199 rfl rfl ?_
      refine s_iload B X32 (pc' := 203) at_201 rfl rfl ?_
      refine s_iload B X32 (pc' := 205) at_203 rfl rfl ?_
      refine b_icmp_ne B X32 (py := 219) (pn := 208) at_205 (by decide) (by decide) rfl (fun q => absurd rfl q) (fun _ => ?_)
      refine s_iload B X32 (pc' := 210) at_208 rfl rfl ?_
      refine s_iload B X32 (pc' := 212) at_210 rfl rfl ?_
      refine s_icmpN B X32 (pc' := 215) at_212 (by decide) rfl ?_
      refine s_iconst B X32 (pc' := 216) (v := (1 : Int32)) at_215 rfl rfl ?_
      refine s_goto B X32 (pc' := 220) at_216 (by decide) (by decide) ?_
      exact r_nar B X32 (t := .boolean) (by simp) rfl at_220 ⟨rfl, (Fr.nil _)⟩ (by decide) (by decide)
  · rcases own_rem5 i0 with hv33 | hv33 | hv33 | hv33 | hv33
    · refine s_iloadN B X0 (pc' := 1) at_0 rfl rfl ?_
      refine s_ldc B X0 (pc' := 3) (v := (2147483647 : Int32)) (tw0 hw) at_1 rfl ?_
      refine s_iand B X0 (pc' := 4) (v := (i0 &&& (2147483647 : Int32))) at_3 rfl rfl ?_
      refine s_iconst B X0 (pc' := 5) (v := (5 : Int32)) at_4 rfl rfl ?_
      refine s_irem B X0 (pc' := 6) (v := (0 : Int32)) at_5 (hv33) (by decide) rfl ?_
      refine s_istore B X0 (pc' := 8) (Ls' := #[.val (.int i0), .val (.int i1), .val (.int i2), .val (.int i3), .val (.int (0 : Int32)), .unset, .unset, .unset, .unset, .unset, .unset, .unset, .unset, .unset]) at_6 rfl rfl ?_
      refine s_iloadN B X0 (pc' := 9) at_8 rfl rfl ?_
      refine s_ldc B X0 (pc' := 11) (v := (2147483647 : Int32)) (tw0 hw) at_9 rfl ?_
      refine s_iand B X0 (pc' := 12) (v := (i1 &&& (2147483647 : Int32))) at_11 rfl rfl ?_
      refine s_ldc B X0 (pc' := 14) (v := (65536 : Int32)) (tw1 hw) at_12 rfl ?_
      refine s_irem B X0 (pc' := 15) (v := ((i1 &&& (2147483647 : Int32)) % (65536 : Int32))) at_14 rfl (by decide) rfl ?_
      refine s_iconst B X0 (pc' := 16) (v := (1 : Int32)) at_15 rfl rfl ?_
      refine s_iadd B X0 (pc' := 17) (v := S) at_16 (hS) rfl ?_
      refine s_istore B X0 (pc' := 19) (Ls' := #[.val (.int i0), .val (.int i1), .val (.int i2), .val (.int i3), .val (.int (0 : Int32)), .val (.int S), .unset, .unset, .unset, .unset, .unset, .unset, .unset, .unset]) at_17 rfl rfl ?_
      refine s_iloadN B X0 (pc' := 20) at_19 rfl rfl ?_
      refine s_ldc B X0 (pc' := 22) (v := (2147483647 : Int32)) (tw0 hw) at_20 rfl ?_
      refine s_iand B X0 (pc' := 23) (v := (i2 &&& (2147483647 : Int32))) at_22 rfl rfl ?_
      refine s_iload B X0 (pc' := 25) at_23 rfl rfl ?_
      refine s_irem B X0 (pc' := 26) (v := R) at_25 (hR) hSne rfl ?_
      refine s_istore B X0 (pc' := 28) (Ls' := #[.val (.int i0), .val (.int i1), .val (.int i2), .val (.int i3), .val (.int (0 : Int32)), .val (.int S), .val (.int R), .unset, .unset, .unset, .unset, .unset, .unset, .unset]) at_26 rfl rfl ?_
      refine s_iloadN B X0 (pc' := 29) at_28 rfl rfl ?_
      refine s_ldc B X0 (pc' := 31) (v := (2147483647 : Int32)) (tw0 hw) at_29 rfl ?_
      refine s_iand B X0 (pc' := 32) (v := (i3 &&& (2147483647 : Int32))) at_31 rfl rfl ?_
      refine s_iload B X0 (pc' := 34) at_32 rfl rfl ?_
      refine s_irem B X0 (pc' := 35) (v := C) at_34 (hC) hSne rfl ?_
      refine s_istore B X0 (pc' := 37) (Ls' := #[.val (.int i0), .val (.int i1), .val (.int i2), .val (.int i3), .val (.int (0 : Int32)), .val (.int S), .val (.int R), .val (.int C), .unset, .unset, .unset, .unset, .unset, .unset]) at_35 rfl rfl ?_
      refine s_iload B X0 (pc' := 39) at_37 rfl rfl ?_
      refine p_static B X0 (y := mn0) (pc' := 42) (argsL := [(.int (0 : Int32))]) (under := []) (W := 0) e0 (tw2 hw) (tw3 hw) (tw5 hw) (tw4 hw) (by decide) (rm1_0 l Z a0 hw  w_FULL_MATRIX w_UPPER_DIAG_ROW w_LOWER_DIAG_ROW w_UPPER_ROW w_LOWER_ROW Z.heap F0 ) (lenOf pd_0 rfl) rfl rfl (by decide) (by decide) rfl rfl (by decide) (by decide) rfl at_39 rfl (fun T34 X34 e34 => ?_)
      show Go p e below _ (T34.setTop (mkF m 42 #[.val (.int i0), .val (.int i1), .val (.int i2), .val (.int i3), .val (.int (0 : Int32)), .val (.int S), .val (.int R), .val (.int C), .unset, .unset, .unset, .unset, .unset, .unset] [(.ref w_FULL_MATRIX)]))
      refine s_astore B X34 (pc' := 44) (Ls' := #[.val (.int i0), .val (.int i1), .val (.int i2), .val (.int i3), .val (.int (0 : Int32)), .val (.int S), .val (.int R), .val (.int C), .val (.ref w_FULL_MATRIX), .unset, .unset, .unset, .unset, .unset]) at_42 rfl rfl rfl ?_
      refine s_aload B X34 (pc' := 46) at_44 rfl rfl rfl ?_
      refine s_iload B X34 (pc' := 48) at_46 rfl rfl ?_
      refine s_iload B X34 (pc' := 50) at_48 rfl rfl ?_
      refine p_virtual B X34 (y := mn1) (pc' := 53) (argsL := [(.int R), (.int S)]) (under := []) (W := 0) e34 (tw9 hw) (tw10 hw) (tw12 hw) (tw11 hw) (tw13 hw) (tw7 hw) (by decide) (rm2_1 l Z a0 hw R S w_FULL_MATRIX w_UPPER_DIAG_ROW w_LOWER_DIAG_ROW w_UPPER_ROW w_LOWER_ROW Z.heap F0 ) E_FULL_MATRIX (lenOf pd_1 rfl) rfl rfl (by decide) (by decide) rfl rfl (by decide) (by decide) rfl at_50 rfl (fun T35 X35 e35 => ?_)
      show Go p e below _ (T35.setTop (mkF m 53 #[.val (.int i0), .val (.int i1), .val (.int i2), .val (.int i3), .val (.int (0 : Int32)), .val (.int S), .val (.int R), .val (.int C), .val (.ref w_FULL_MATRIX), .unset, .unset, .unset, .unset, .unset] [(.int S)]))
      refine s_istore B X35 (pc' := 55) (Ls' := #[.val (.int i0), .val (.int i1), .val (.int i2), .val (.int i3), .val (.int (0 : Int32)), .val (.int S), .val (.int R), .val (.int C), .val (.ref w_FULL_MATRIX), .val (.int S), .unset, .unset, .unset, .unset]) at_53 rfl rfl ?_
      refine s_aload B X35 (pc' := 57) at_55 rfl rfl rfl ?_
      refine s_iload B X35 (pc' := 59) at_57 rfl rfl ?_
      refine p_virtual B X35 (y := mn2) (pc' := 62) (argsL := [(.int R)]) (under := []) (W := 0) e35 (tw16 hw) (tw17 hw) (tw19 hw) (tw18 hw) (tw20 hw) (tw7 hw) (by decide) (rm3_2 l Z a0 hw R w_FULL_MATRIX w_UPPER_DIAG_ROW w_LOWER_DIAG_ROW w_UPPER_ROW w_LOWER_ROW Z.heap F0 ) E_FULL_MATRIX (lenOf pd_2 rfl) rfl rfl (by decide) (by decide) rfl rfl (by decide) (by decide) rfl at_59 rfl (fun T36 X36 e36 => ?_)
      show Go p e below _ (T36.setTop (mkF m 62 #[.val (.int i0), .val (.int i1), .val (.int i2), .val (.int i3), .val (.int (0 : Int32)), .val (.int S), .val (.int R), .val (.int C), .val (.ref w_FULL_MATRIX), .val (.int S), .unset, .unset, .unset, .unset] [(.int (0 : Int32))]))
      refine s_istore B X36 (pc' := 64) (Ls' := #[.val (.int i0), .val (.int i1), .val (.int i2), .val (.int i3), .val (.int (0 : Int32)), .val (.int S), .val (.int R), .val (.int C), .val (.ref w_FULL_MATRIX), .val (.int S), .val (.int (0 : Int32)), .unset, .unset, .unset]) at_62 rfl rfl ?_
      refine s_iload B X36 (pc' := 66) at_64 rfl rfl ?_
      refine s_ifN B X36 (pc' := 69) at_66 (by decide) rfl ?_
      refine s_iload B X36 (pc' := 71) at_69 rfl rfl ?_
      refine s_istore B X36 (pc' := 73) (Ls' := #[.val (.int i0), .val (.int i1), .val (.int i2), .val (.int i3), .val (.int (0 : Int32)), .val (.int S), .val (.int R), .val (.int C), .val (.ref w_FULL_MATRIX), .val (.int S), .val (.int (0 : Int32)), .val (.int S), .unset, .unset]) at_71 rfl rfl ?_
      refine s_iconst B X36 (pc' := 74) (v := (1 : Int32)) at_73 rfl rfl ?_
      refine s_istore B X36 (pc' := 76) (Ls' := #[.val (.int i0), .val (.int i1), .val (.int i2), .val (.int i3), .val (.int (0 : Int32)), .val (.int S), .val (.int R), .val (.int C), .val (.ref w_FULL_MATRIX), .val (.int S), .val (.int (0 : Int32)), .val (.int S), .val (.int (1 : Int32)), .unset]) at_74 rfl rfl ?_
      refine s_goto B X36 (pc' := 180) at_76 (by decide) (by decide) ?_
      refine s_iload B X36 (pc' := 182) at_180 rfl rfl ?_
      refine s_iload B X36 (pc' := 184) at_182 rfl rfl ?_
      refine b_icmp_gt B X36 (py := 198) (pn := 187) at_184 (by decide) (by decide) rfl (fun q => absurd q (by simp only [Int32.lt_iff_toInt_lt, ← Int32.toInt_inj, e1, z0]; omega)) (fun _ => ?_)
      refine s_iload B X36 (pc' := 189) at_187 rfl rfl ?_
      refine s_iload B X36 (pc' := 191) at_189 rfl rfl ?_
      refine b_icmp_ge B X36 (py := 198) (pn := 194) at_191 (by decide) (by decide) rfl (fun q => absurd (by simp only [Int32.lt_iff_toInt_lt, ← Int32.toInt_inj, e1, z0]; omega) q) (fun _ => ?_)
      refine s_iconst B X36 (pc' := 195) (v := (1 : Int32)) at_194 rfl rfl ?_
      refine s_goto B X36 (pc' := 199) at_195 (by decide) (by decide) ?_
      refine s_istore B X36 (pc' := 201) (Ls' := #[.val (.int i0), .val (.int i1), .val (.int i2), .val (.int i3), .val (.int (0 : Int32)), .val (.int S), .val (.int R), .val (.int C), .val (.ref w_FULL_MATRIX), .val (.int S), .val (.int (0 : Int32)), .val (.int S), .val (.int (1 : Int32)), .val (.int (1 : Int32))]) at_199 rfl rfl ?_
      refine s_iload B X36 (pc' := 203) at_201 rfl rfl ?_
      refine s_iload B X36 (pc' := 205) at_203 rfl rfl ?_
      refine b_icmp_ne B X36 (py := 219) (pn := 208) at_205 (by decide) (by decide) rfl (fun q => absurd rfl q) (fun _ => ?_)
      refine s_iload B X36 (pc' := 210) at_208 rfl rfl ?_
      refine s_iload B X36 (pc' := 212) at_210 rfl rfl ?_
      refine s_icmpN B X36 (pc' := 215) at_212 (by decide) rfl ?_
      refine s_iconst B X36 (pc' := 216) (v := (1 : Int32)) at_215 rfl rfl ?_
      refine s_goto B X36 (pc' := 220) at_216 (by decide) (by decide) ?_
      exact r_nar B X36 (t := .boolean) (by simp) rfl at_220 ⟨rfl, (Fr.nil _)⟩ (by decide) (by decide)
    · refine s_iloadN B X0 (pc' := 1) at_0 rfl rfl ?_
      refine s_ldc B X0 (pc' := 3) (v := (2147483647 : Int32)) (tw0 hw) at_1 rfl ?_
      refine s_iand B X0 (pc' := 4) (v := (i0 &&& (2147483647 : Int32))) at_3 rfl rfl ?_
      refine s_iconst B X0 (pc' := 5) (v := (5 : Int32)) at_4 rfl rfl ?_
      refine s_irem B X0 (pc' := 6) (v := (1 : Int32)) at_5 (hv33) (by decide) rfl ?_
      refine s_istore B X0 (pc' := 8) (Ls' := #[.val (.int i0), .val (.int i1), .val (.int i2), .val (.int i3), .val (.int (1 : Int32)), .unset, .unset, .unset, .unset, .unset, .unset, .unset, .unset, .unset]) at_6 rfl rfl ?_
      refine s_iloadN B X0 (pc' := 9) at_8 rfl rfl ?_
      refine s_ldc B X0 (pc' := 11) (v := (2147483647 : Int32)) (tw0 hw) at_9 rfl ?_
      refine s_iand B X0 (pc' := 12) (v := (i1 &&& (2147483647 : Int32))) at_11 rfl rfl ?_
      refine s_ldc B X0 (pc' := 14) (v := (65536 : Int32)) (tw1 hw) at_12 rfl ?_
      refine s_irem B X0 (pc' := 15) (v := ((i1 &&& (2147483647 : Int32)) % (65536 : Int32))) at_14 rfl (by decide) rfl ?_
      refine s_iconst B X0 (pc' := 16) (v := (1 : Int32)) at_15 rfl rfl ?_
      refine s_iadd B X0 (pc' := 17) (v := S) at_16 (hS) rfl ?_
      refine s_istore B X0 (pc' := 19) (Ls' := #[.val (.int i0), .val (.int i1), .val (.int i2), .val (.int i3), .val (.int (1 : Int32)), .val (.int S), .unset, .unset, .unset, .unset, .unset, .unset, .unset, .unset]) at_17 rfl rfl ?_
      refine s_iloadN B X0 (pc' := 20) at_19 rfl rfl ?_
      refine s_ldc B X0 (pc' := 22) (v := (2147483647 : Int32)) (tw0 hw) at_20 rfl ?_
      refine s_iand B X0 (pc' := 23) (v := (i2 &&& (2147483647 : Int32))) at_22 rfl rfl ?_
      refine s_iload B X0 (pc' := 25) at_23 rfl rfl ?_
      refine s_irem B X0 (pc' := 26) (v := R) at_25 (hR) hSne rfl ?_
      refine s_istore B X0 (pc' := 28) (Ls' := #[.val (.int i0), .val (.int i1), .val (.int i2), .val (.int i3), .val (.int (1 : Int32)), .val (.int S), .val (.int R), .unset, .unset, .unset, .unset, .unset, .unset, .unset]) at_26 rfl rfl ?_
      refine s_iloadN B X0 (pc' := 29) at_28 rfl rfl ?_
      refine s_ldc B X0 (pc' := 31) (v := (2147483647 : Int32)) (tw0 hw) at_29 rfl ?_
      refine s_iand B X0 (pc' := 32) (v := (i3 &&& (2147483647 : Int32))) at_31 rfl rfl ?_
      refine s_iload B X0 (pc' := 34) at_32 rfl rfl ?_
      refine s_irem B X0 (pc' := 35) (v := C) at_34 (hC) hSne rfl ?_
      refine s_istore B X0 (pc' := 37) (Ls' := #[.val (.int i0), .val (.int i1), .val (.int i2), .val (.int i3), .val (.int (1 : Int32)), .val (.int S), .val (.int R), .val (.int C), .unset, .unset, .unset, .unset, .unset, .unset]) at_35 rfl rfl ?_
      refine s_iload B X0 (pc' := 39) at_37 rfl rfl ?_
      refine p_static B X0 (y := mn0) (pc' := 42) (argsL := [(.int (1 : Int32))]) (under := []) (W := 0) e0 (tw2 hw) (tw3 hw) (tw5 hw) (tw4 hw) (by decide) (rm1_3 l Z a0 hw  w_FULL_MATRIX w_UPPER_DIAG_ROW w_LOWER_DIAG_ROW w_UPPER_ROW w_LOWER_ROW Z.heap F0 ) (lenOf pd_0 rfl) rfl rfl (by decide) (by decide) rfl rfl (by decide) (by decide) rfl at_39 rfl (fun T37 X37 e37 => ?_)
      show Go p e below _ (T37.setTop (mkF m 42 #[.val (.int i0), .val (.int i1), .val (.int i2), .val (.int i3), .val (.int (1 : Int32)), .val (.int S), .val (.int R), .val (.int C), .unset, .unset, .unset, .unset, .unset, .unset] [(.ref w_UPPER_ROW)]))
      refine s_astore B X37 (pc' := 44) (Ls' := #[.val (.int i0), .val (.int i1), .val (.int i2), .val (.int i3), .val (.int (1 : Int32)), .val (.int S), .val (.int R), .val (.int C), .val (.ref w_UPPER_ROW), .unset, .unset, .unset, .unset, .unset]) at_42 rfl rfl rfl ?_
      refine s_aload B X37 (pc' := 46) at_44 rfl rfl rfl ?_
      refine s_iload B X37 (pc' := 48) at_46 rfl rfl ?_
      refine s_iload B X37 (pc' := 50) at_48 rfl rfl ?_
      refine p_virtual B X37 (y := mn1) (pc' := 53) (argsL := [(.int R), (.int S)]) (under := []) (W := 0) e37 (tw9 hw) (tw10 hw) (tw12 hw) (tw11 hw) (tw13 hw) (tw7 hw) (by decide) (rm2_4 l Z a0 hw R S w_FULL_MATRIX w_UPPER_DIAG_ROW w_LOWER_DIAG_ROW w_UPPER_ROW w_LOWER_ROW Z.heap F0 ) E_UPPER_ROW (lenOf pd_1 rfl) rfl rfl (by decide) (by decide) rfl rfl (by decide) (by decide) rfl at_50 rfl (fun T38 X38 e38 => ?_)
      show Go p e below _ (T38.setTop (mkF m 53 #[.val (.int i0), .val (.int i1), .val (.int i2), .val (.int i3), .val (.int (1 : Int32)), .val (.int S), .val (.int R), .val (.int C), .val (.ref w_UPPER_ROW), .unset, .unset, .unset, .unset, .unset] [(.int S)]))
      refine s_istore B X38 (pc' := 55) (Ls' := #[.val (.int i0), .val (.int i1), .val (.int i2), .val (.int i3), .val (.int (1 : Int32)), .val (.int S), .val (.int R), .val (.int C), .val (.ref w_UPPER_ROW), .val (.int S), .unset, .unset, .unset, .unset]) at_53 rfl rfl ?_
      refine s_aload B X38 (pc' := 57) at_55 rfl rfl rfl ?_
      refine s_iload B X38 (pc' := 59) at_57 rfl rfl ?_
      refine p_virtual B X38 (y := mn2) (pc' := 62) (argsL := [(.int R)]) (under := []) (W := 0) e38 (tw16 hw) (tw17 hw) (tw19 hw) (tw18 hw) (tw20 hw) (tw7 hw) (by decide) (rm3_5 l Z a0 hw R w_FULL_MATRIX w_UPPER_DIAG_ROW w_LOWER_DIAG_ROW w_UPPER_ROW w_LOWER_ROW Z.heap F0 ) E_UPPER_ROW (lenOf pd_2 rfl) rfl rfl (by decide) (by decide) rfl rfl (by decide) (by decide) rfl at_59 rfl (fun T39 X39 e39 => ?_)
      show Go p e below _ (T39.setTop (mkF m 62 #[.val (.int i0), .val (.int i1), .val (.int i2), .val (.int i3), .val (.int (1 : Int32)), .val (.int S), .val (.int R), .val (.int C), .val (.ref w_UPPER_ROW), .val (.int S), .unset, .unset, .unset, .unset] [(.int (R + (1 : Int32)))]))
      refine s_istore B X39 (pc' := 64) (Ls' := #[.val (.int i0), .val (.int i1), .val (.int i2), .val (.int i3), .val (.int (1 : Int32)), .val (.int S), .val (.int R), .val (.int C), .val (.ref w_UPPER_ROW), .val (.int S), .val (.int (R + (1 : Int32))), .unset, .unset, .unset]) at_62 rfl rfl ?_
      refine s_iload B X39 (pc' := 66) at_64 rfl rfl ?_
      refine s_ifY B X39 (pc' := 79) at_66 (by decide) (by decide) (by decide) ?_
      refine s_iload B X39 (pc' := 81) at_79 rfl rfl ?_
      refine s_iconst B X39 (pc' := 82) (v := (1 : Int32)) at_81 rfl rfl ?_
      refine s_icmpN B X39 (pc' := 85) at_82 (by decide) rfl ?_
      refine s_iload B X39 (pc' := 87) at_85 rfl rfl ?_
      refine s_istore B X39 (pc' := 89) (Ls' := #[.val (.int i0), .val (.int i1), .val (.int i2), .val (.int i3), .val (.int (1 : Int32)), .val (.int S), .val (.int R), .val (.int C), .val (.ref w_UPPER_ROW), .val (.int S), .val (.int (R + (1 : Int32))), .val (.int S), .unset, .unset]) at_87 rfl rfl ?_
      refine s_iload B X39 (pc' := 91) at_89 rfl rfl ?_
      refine s_iload B X39 (pc' := 93) at_91 rfl rfl ?_
      refine b_icmp_le B X39 (py := 100) (pn := 96) at_93 (by decide) (by decide) rfl (fun q => absurd (by simp only [Int32.lt_iff_toInt_lt, ← Int32.toInt_inj, e1, z0]; omega) q) (fun _ => ?_)
      refine s_iconst B X39 (pc' := 97) (v := (1 : Int32)) at_96 rfl rfl ?_
      refine s_goto B X39 (pc' := 101) at_97 (by decide) (by decide) ?_
      refine s_istore B X39 (pc' := 103) (Ls' := #[.val (.int i0), .val (.int i1), .val (.int i2), .val (.int i3), .val (.int (1 : Int32)), .val (.int S), .val (.int R), .val (.int C), .val (.ref w_UPPER_ROW), .val (.int S), .val (.int (R + (1 : Int32))), .val (.int S), .val (.int (1 : Int32)), .unset]) at_101 rfl rfl ?_
      refine s_goto B X39 (pc' := 180) at_103 (by decide) (by decide) ?_
      refine s_iload B X39 (pc' := 182) at_180 rfl rfl ?_
      refine s_iload B X39 (pc' := 184) at_182 rfl rfl ?_
      refine b_icmp_gt B X39 (py := 198) (pn := 187) at_184 (by decide) (by decide) rfl (fun q => absurd q (by simp only [Int32.lt_iff_toInt_lt, ← Int32.toInt_inj, e1, z0]; omega)) (fun _ => ?_)
      refine s_iload B X39 (pc' := 189) at_187 rfl rfl ?_
      refine s_iload B X39 (pc' := 191) at_189 rfl rfl ?_
      refine b_icmp_ge B X39 (py := 198) (pn := 194) at_191 (by decide) (by decide) rfl (fun q => absurd (by simp only [Int32.lt_iff_toInt_lt, ← Int32.toInt_inj, e1, z0]; omega) q) (fun _ => ?_)
      refine s_iconst B X39 (pc' := 195) (v := (1 : Int32)) at_194 rfl rfl ?_
      refine s_goto B X39 (pc' := 199) at_195 (by decide) (by decide) ?_
      refine s_istore B X39 (pc' := 201) (Ls' := #[.val (.int i0), .val (.int i1), .val (.int i2), .val (.int i3), .val (.int (1 : Int32)), .val (.int S), .val (.int R), .val (.int C), .val (.ref w_UPPER_ROW), .val (.int S), .val (.int (R + (1 : Int32))), .val (.int S), .val (.int (1 : Int32)), .val (.int (1 : Int32))]) at_199 rfl rfl ?_
      refine s_iload B X39 (pc' := 203) at_201 rfl rfl ?_
      refine s_iload B X39 (pc' := 205) at_203 rfl rfl ?_
      refine b_icmp_ne B X39 (py := 219) (pn := 208) at_205 (by decide) (by decide) rfl (fun q => absurd rfl q) (fun _ => ?_)
      refine s_iload B X39 (pc' := 210) at_208 rfl rfl ?_
      refine s_iload B X39 (pc' := 212) at_210 rfl rfl ?_
      refine s_icmpN B X39 (pc' := 215) at_212 (by decide) rfl ?_
      refine s_iconst B X39 (pc' := 216) (v := (1 : Int32)) at_215 rfl rfl ?_
      refine s_goto B X39 (pc' := 220) at_216 (by decide) (by decide) ?_
      exact r_nar B X39 (t := .boolean) (by simp) rfl at_220 ⟨rfl, (Fr.nil _)⟩ (by decide) (by decide)
    · refine s_iloadN B X0 (pc' := 1) at_0 rfl rfl ?_
      refine s_ldc B X0 (pc' := 3) (v := (2147483647 : Int32)) (tw0 hw) at_1 rfl ?_
      refine s_iand B X0 (pc' := 4) (v := (i0 &&& (2147483647 : Int32))) at_3 rfl rfl ?_
      refine s_iconst B X0 (pc' := 5) (v := (5 : Int32)) at_4 rfl rfl ?_
      refine s_irem B X0 (pc' := 6) (v := (2 : Int32)) at_5 (hv33) (by decide) rfl ?_
      refine s_istore B X0 (pc' := 8) (Ls' := #[.val (.int i0), .val (.int i1), .val (.int i2), .val (.int i3), .val (.int (2 : Int32)), .unset, .unset, .unset, .unset, .unset, .unset, .unset, .unset, .unset]) at_6 rfl rfl ?_
      refine s_iloadN B X0 (pc' := 9) at_8 rfl rfl ?_
      refine s_ldc B X0 (pc' := 11) (v := (2147483647 : Int32)) (tw0 hw) at_9 rfl ?_
      refine s_iand B X0 (pc' := 12) (v := (i1 &&& (2147483647 : Int32))) at_11 rfl rfl ?_
      refine s_ldc B X0 (pc' := 14) (v := (65536 : Int32)) (tw1 hw) at_12 rfl ?_
      refine s_irem B X0 (pc' := 15) (v := ((i1 &&& (2147483647 : Int32)) % (65536 : Int32))) at_14 rfl (by decide) rfl ?_
      refine s_iconst B X0 (pc' := 16) (v := (1 : Int32)) at_15 rfl rfl ?_
      refine s_iadd B X0 (pc' := 17) (v := S) at_16 (hS) rfl ?_
      refine s_istore B X0 (pc' := 19) (Ls' := #[.val (.int i0), .val (.int i1), .val (.int i2), .val (.int i3), .val (.int (2 : Int32)), .val (.int S), .unset, .unset, .unset, .unset, .unset, .unset, .unset, .unset]) at_17 rfl rfl ?_
      refine s_iloadN B X0 (pc' := 20) at_19 rfl rfl ?_
      refine s_ldc B X0 (pc' := 22) (v := (2147483647 : Int32)) (tw0 hw) at_20 rfl ?_
      refine s_iand B X0 (pc' := 23) (v := (i2 &&& (2147483647 : Int32))) at_22 rfl rfl ?_
      refine s_iload B X0 (pc' := 25) at_23 rfl rfl ?_
      refine s_irem B X0 (pc' := 26) (v := R) at_25 (hR) hSne rfl ?_
      refine s_istore B X0 (pc' := 28) (Ls' := #[.val (.int i0), .val (.int i1), .val (.int i2), .val (.int i3), .val (.int (2 : Int32)), .val (.int S), .val (.int R), .unset, .unset, .unset, .unset, .unset, .unset, .unset]) at_26 rfl rfl ?_
      refine s_iloadN B X0 (pc' := 29) at_28 rfl rfl ?_
      refine s_ldc B X0 (pc' := 31) (v := (2147483647 : Int32)) (tw0 hw) at_29 rfl ?_
      refine s_iand B X0 (pc' := 32) (v := (i3 &&& (2147483647 : Int32))) at_31 rfl rfl ?_
      refine s_iload B X0 (pc' := 34) at_32 rfl rfl ?_
      refine s_irem B X0 (pc' := 35) (v := C) at_34 (hC) hSne rfl ?_
      refine s_istore B X0 (pc' := 37) (Ls' := #[.val (.int i0), .val (.int i1), .val (.int i2), .val (.int i3), .val (.int (2 : Int32)), .val (.int S), .val (.int R), .val (.int C), .unset, .unset, .unset, .unset, .unset, .unset]) at_35 rfl rfl ?_
      refine s_iload B X0 (pc' := 39) at_37 rfl rfl ?_
      refine p_static B X0 (y := mn0) (pc' := 42) (argsL := [(.int (2 : Int32))]) (under := []) (W := 0) e0 (tw2 hw) (tw3 hw) (tw5 hw) (tw4 hw) (by decide) (rm1_6 l Z a0 hw  w_FULL_MATRIX w_UPPER_DIAG_ROW w_LOWER_DIAG_ROW w_UPPER_ROW w_LOWER_ROW Z.heap F0 ) (lenOf pd_0 rfl) rfl rfl (by decide) (by decide) rfl rfl (by decide) (by decide) rfl at_39 rfl (fun T40 X40 e40 => ?_)
      show Go p e below _ (T40.setTop (mkF m 42 #[.val (.int i0), .val (.int i1), .val (.int i2), .val (.int i3), .val (.int (2 : Int32)), .val (.int S), .val (.int R), .val (.int C), .unset, .unset, .unset, .unset, .unset, .unset] [(.ref w_UPPER_DIAG_ROW)]))
      refine s_astore B X40 (pc' := 44) (Ls' := #[.val (.int i0), .val (.int i1), .val (.int i2), .val (.int i3), .val (.int (2 : Int32)), .val (.int S), .val (.int R), .val (.int C), .val (.ref w_UPPER_DIAG_ROW), .unset, .unset, .unset, .unset, .unset]) at_42 rfl rfl rfl ?_
      refine s_aload B X40 (pc' := 46) at_44 rfl rfl rfl ?_
      refine s_iload B X40 (pc' := 48) at_46 rfl rfl ?_
      refine s_iload B X40 (pc' := 50) at_48 rfl rfl ?_
      refine p_virtual B X40 (y := mn1) (pc' := 53) (argsL := [(.int R), (.int S)]) (under := []) (W := 0) e40 (tw9 hw) (tw10 hw) (tw12 hw) (tw11 hw) (tw13 hw) (tw7 hw) (by decide) (rm2_7 l Z a0 hw R S w_FULL_MATRIX w_UPPER_DIAG_ROW w_LOWER_DIAG_ROW w_UPPER_ROW w_LOWER_ROW Z.heap F0 ) E_UPPER_DIAG_ROW (lenOf pd_1 rfl) rfl rfl (by decide) (by decide) rfl rfl (by decide) (by decide) rfl at_50 rfl (fun T41 X41 e41 => ?_)
      show Go p e below _ (T41.setTop (mkF m 53 #[.val (.int i0), .val (.int i1), .val (.int i2), .val (.int i3), .val (.int (2 : Int32)), .val (.int S), .val (.int R), .val (.int C), .val (.ref w_UPPER_DIAG_ROW), .unset, .unset, .unset, .unset, .unset] [(.int S)]))
      refine s_istore B X41 (pc' := 55) (Ls' := #[.val (.int i0), .val (.int i1), .val (.int i2), .val (.int i3), .val (.int (2 : Int32)), .val (.int S), .val (.int R), .val (.int C), .val (.ref w_UPPER_DIAG_ROW), .val (.int S), .unset, .unset, .unset, .unset]) at_53 rfl rfl ?_
      refine s_aload B X41 (pc' := 57) at_55 rfl rfl rfl ?_
      refine s_iload B X41 (pc' := 59) at_57 rfl rfl ?_
      refine p_virtual B X41 (y := mn2) (pc' := 62) (argsL := [(.int R)]) (under := []) (W := 0) e41 (tw16 hw) (tw17 hw) (tw19 hw) (tw18 hw) (tw20 hw) (tw7 hw) (by decide) (rm3_8 l Z a0 hw R w_FULL_MATRIX w_UPPER_DIAG_ROW w_LOWER_DIAG_ROW w_UPPER_ROW w_LOWER_ROW Z.heap F0 ) E_UPPER_DIAG_ROW (lenOf pd_2 rfl) rfl rfl (by decide) (by decide) rfl rfl (by decide) (by decide) rfl at_59 rfl (fun T42 X42 e42 => ?_)
      show Go p e below _ (T42.setTop (mkF m 62 #[.val (.int i0), .val (.int i1), .val (.int i2), .val (.int i3), .val (.int (2 : Int32)), .val (.int S), .val (.int R), .val (.int C), .val (.ref w_UPPER_DIAG_ROW), .val (.int S), .unset, .unset, .unset, .unset] [(.int R)]))
      refine s_istore B X42 (pc' := 64) (Ls' := #[.val (.int i0), .val (.int i1), .val (.int i2), .val (.int i3), .val (.int (2 : Int32)), .val (.int S), .val (.int R), .val (.int C), .val (.ref w_UPPER_DIAG_ROW), .val (.int S), .val (.int R), .unset, .unset, .unset]) at_62 rfl rfl ?_
      refine s_iload B X42 (pc' := 66) at_64 rfl rfl ?_
      refine s_ifY B X42 (pc' := 79) at_66 (by decide) (by decide) (by decide) ?_
      refine s_iload B X42 (pc' := 81) at_79 rfl rfl ?_
      refine s_iconst B X42 (pc' := 82) (v := (1 : Int32)) at_81 rfl rfl ?_
      refine s_icmpY B X42 (pc' := 106) at_82 (by decide) (by decide) (by decide) ?_
      refine s_iload B X42 (pc' := 108) at_106 rfl rfl ?_
      refine s_iconst B X42 (pc' := 109) (v := (2 : Int32)) at_108 rfl rfl ?_
      refine s_icmpN B X42 (pc' := 112) at_109 (by decide) rfl ?_
      refine s_iload B X42 (pc' := 114) at_112 rfl rfl ?_
      refine s_istore B X42 (pc' := 116) (Ls' := #[.val (.int i0), .val (.int i1), .val (.int i2), .val (.int i3), .val (.int (2 : Int32)), .val (.int S), .val (.int R), .val (.int C), .val (.ref w_UPPER_DIAG_ROW), .val (.int S), .val (.int R), .val (.int S), .unset, .unset]) at_114 rfl rfl ?_
      refine s_iload B X42 (pc' := 118) at_116 rfl rfl ?_
      refine s_iload B X42 (pc' := 120) at_118 rfl rfl ?_
      refine b_icmp_lt B X42 (py := 127) (pn := 123) at_120 (by decide) (by decide) rfl (fun q => absurd q (by simp only [Int32.lt_iff_toInt_lt, ← Int32.toInt_inj, e1, z0]; omega)) (fun _ => ?_)
      refine s_iconst B X42 (pc' := 124) (v := (1 : Int32)) at_123 rfl rfl ?_
      refine s_goto B X42 (pc' := 128) at_124 (by decide) (by decide) ?_
      refine s_istore B X42 (pc' := 130) (Ls' := #[.val (.int i0), .val (.int i1), .val (.int i2), .val (.int i3), .val (.int (2 : Int32)), .val (.int S), .val (.int R), .val (.int C), .val (.ref w_UPPER_DIAG_ROW), .val (.int S), .val (.int R), .val (.int S), .val (.int (1 : Int32)), .unset]) at_128 rfl rfl ?_
      refine s_goto B X42 (pc' := 180) at_130 (by decide) (by decide) ?_
      refine s_iload B X42 (pc' := 182) at_180 rfl rfl ?_
      refine s_iload B X42 (pc' := 184) at_182 rfl rfl ?_
      refine b_icmp_gt B X42 (py := 198) (pn := 187) at_184 (by decide) (by decide) rfl (fun q => absurd q (by simp only [Int32.lt_iff_toInt_lt, ← Int32.toInt_inj, e1, z0]; omega)) (fun _ => ?_)
      refine s_iload B X42 (pc' := 189) at_187 rfl rfl ?_
      refine s_iload B X42 (pc' := 191) at_189 rfl rfl ?_
      refine b_icmp_ge B X42 (py := 198) (pn := 194) at_191 (by decide) (by decide) rfl (fun q => absurd (by simp only [Int32.lt_iff_toInt_lt, ← Int32.toInt_inj, e1, z0]; omega) q) (fun _ => ?_)
      refine s_iconst B X42 (pc' := 195) (v := (1 : Int32)) at_194 rfl rfl ?_
      refine s_goto B X42 (pc' := 199) at_195 (by decide) (by decide) ?_
      refine s_istore B X42 (pc' := 201) (Ls' := #[.val (.int i0), .val (.int i1), .val (.int i2), .val (.int i3), .val (.int (2 : Int32)), .val (.int S), .val (.int R), .val (.int C), .val (.ref w_UPPER_DIAG_ROW), .val (.int S), .val (.int R), .val (.int S), .val (.int (1 : Int32)), .val (.int (1 : Int32))]) at_199 rfl rfl ?_
      refine s_iload B X42 (pc' := 203) at_201 rfl rfl ?_
      refine s_iload B X42 (pc' := 205) at_203 rfl rfl ?_
      refine b_icmp_ne B X42 (py := 219) (pn := 208) at_205 (by decide) (by decide) rfl (fun q => absurd rfl q) (fun _ => ?_)
      refine s_iload B X42 (pc' := 210) at_208 rfl rfl ?_
      refine s_iload B X42 (pc' := 212) at_210 rfl rfl ?_
      refine s_icmpN B X42 (pc' := 215) at_212 (by decide) rfl ?_
      refine s_iconst B X42 (pc' := 216) (v := (1 : Int32)) at_215 rfl rfl ?_
      refine s_goto B X42 (pc' := 220) at_216 (by decide) (by decide) ?_
      exact r_nar B X42 (t := .boolean) (by simp) rfl at_220 ⟨rfl, (Fr.nil _)⟩ (by decide) (by decide)
    · refine s_iloadN B X0 (pc' := 1) at_0 rfl rfl ?_
      refine s_ldc B X0 (pc' := 3) (v := (2147483647 : Int32)) (tw0 hw) at_1 rfl ?_
      refine s_iand B X0 (pc' := 4) (v := (i0 &&& (2147483647 : Int32))) at_3 rfl rfl ?_
      refine s_iconst B X0 (pc' := 5) (v := (5 : Int32)) at_4 rfl rfl ?_
      refine s_irem B X0 (pc' := 6) (v := (3 : Int32)) at_5 (hv33) (by decide) rfl ?_
      refine s_istore B X0 (pc' := 8) (Ls' := #[.val (.int i0), .val (.int i1), .val (.int i2), .val (.int i3), .val (.int (3 : Int32)), .unset, .unset, .unset, .unset, .unset, .unset, .unset, .unset, .unset]) at_6 rfl rfl ?_
      refine s_iloadN B X0 (pc' := 9) at_8 rfl rfl ?_
      refine s_ldc B X0 (pc' := 11) (v := (2147483647 : Int32)) (tw0 hw) at_9 rfl ?_
      refine s_iand B X0 (pc' := 12) (v := (i1 &&& (2147483647 : Int32))) at_11 rfl rfl ?_
      refine s_ldc B X0 (pc' := 14) (v := (65536 : Int32)) (tw1 hw) at_12 rfl ?_
      refine s_irem B X0 (pc' := 15) (v := ((i1 &&& (2147483647 : Int32)) % (65536 : Int32))) at_14 rfl (by decide) rfl ?_
      refine s_iconst B X0 (pc' := 16) (v := (1 : Int32)) at_15 rfl rfl ?_
      refine s_iadd B X0 (pc' := 17) (v := S) at_16 (hS) rfl ?_
      refine s_istore B X0 (pc' := 19) (Ls' := #[.val (.int i0), .val (.int i1), .val (.int i2), .val (.int i3), .val (.int (3 : Int32)), .val (.int S), .unset, .unset, .unset, .unset, .unset, .unset, .unset, .unset]) at_17 rfl rfl ?_
      refine s_iloadN B X0 (pc' := 20) at_19 rfl rfl ?_
      refine s_ldc B X0 (pc' := 22) (v := (2147483647 : Int32)) (tw0 hw) at_20 rfl ?_
      refine s_iand B X0 (pc' := 23) (v := (i2 &&& (2147483647 : Int32))) at_22 rfl rfl ?_
      refine s_iload B X0 (pc' := 25) at_23 rfl rfl ?_
      refine s_irem B X0 (pc' := 26) (v := R) at_25 (hR) hSne rfl ?_
      refine s_istore B X0 (pc' := 28) (Ls' := #[.val (.int i0), .val (.int i1), .val (.int i2), .val (.int i3), .val (.int (3 : Int32)), .val (.int S), .val (.int R), .unset, .unset, .unset, .unset, .unset, .unset, .unset]) at_26 rfl rfl ?_
      refine s_iloadN B X0 (pc' := 29) at_28 rfl rfl ?_
      refine s_ldc B X0 (pc' := 31) (v := (2147483647 : Int32)) (tw0 hw) at_29 rfl ?_
      refine s_iand B X0 (pc' := 32) (v := (i3 &&& (2147483647 : Int32))) at_31 rfl rfl ?_
      refine s_iload B X0 (pc' := 34) at_32 rfl rfl ?_
      refine s_irem B X0 (pc' := 35) (v := C) at_34 (hC) hSne rfl ?_
      refine s_istore B X0 (pc' := 37) (Ls' := #[.val (.int i0), .val (.int i1), .val (.int i2), .val (.int i3), .val (.int (3 : Int32)), .val (.int S), .val (.int R), .val (.int C), .unset, .unset, .unset, .unset, .unset, .unset]) at_35 rfl rfl ?_
      refine s_iload B X0 (pc' := 39) at_37 rfl rfl ?_
      refine p_static B X0 (y := mn0) (pc' := 42) (argsL := [(.int (3 : Int32))]) (under := []) (W := 0) e0 (tw2 hw) (tw3 hw) (tw5 hw) (tw4 hw) (by decide) (rm1_9 l Z a0 hw  w_FULL_MATRIX w_UPPER_DIAG_ROW w_LOWER_DIAG_ROW w_UPPER_ROW w_LOWER_ROW Z.heap F0 ) (lenOf pd_0 rfl) rfl rfl (by decide) (by decide) rfl rfl (by decide) (by decide) rfl at_39 rfl (fun T43 X43 e43 => ?_)
      show Go p e below _ (T43.setTop (mkF m 42 #[.val (.int i0), .val (.int i1), .val (.int i2), .val (.int i3), .val (.int (3 : Int32)), .val (.int S), .val (.int R), .val (.int C), .unset, .unset, .unset, .unset, .unset, .unset] [(.ref w_LOWER_ROW)]))
      refine s_astore B X43 (pc' := 44) (Ls' := #[.val (.int i0), .val (.int i1), .val (.int i2), .val (.int i3), .val (.int (3 : Int32)), .val (.int S), .val (.int R), .val (.int C), .val (.ref w_LOWER_ROW), .unset, .unset, .unset, .unset, .unset]) at_42 rfl rfl rfl ?_
      refine s_aload B X43 (pc' := 46) at_44 rfl rfl rfl ?_
      refine s_iload B X43 (pc' := 48) at_46 rfl rfl ?_
      refine s_iload B X43 (pc' := 50) at_48 rfl rfl ?_
      refine p_virtual B X43 (y := mn1) (pc' := 53) (argsL := [(.int R), (.int S)]) (under := []) (W := 0) e43 (tw9 hw) (tw10 hw) (tw12 hw) (tw11 hw) (tw13 hw) (tw7 hw) (by decide) (rm2_10 l Z a0 hw R S w_FULL_MATRIX w_UPPER_DIAG_ROW w_LOWER_DIAG_ROW w_UPPER_ROW w_LOWER_ROW Z.heap F0 ) E_LOWER_ROW (lenOf pd_1 rfl) rfl rfl (by decide) (by decide) rfl rfl (by decide) (by decide) rfl at_50 rfl (fun T44 X44 e44 => ?_)
      show Go p e below _ (T44.setTop (mkF m 53 #[.val (.int i0), .val (.int i1), .val (.int i2), .val (.int i3), .val (.int (3 : Int32)), .val (.int S), .val (.int R), .val (.int C), .val (.ref w_LOWER_ROW), .unset, .unset, .unset, .unset, .unset] [(.int R)]))
      refine s_istore B X44 (pc' := 55) (Ls' := #[.val (.int i0), .val (.int i1), .val (.int i2), .val (.int i3), .val (.int (3 : Int32)), .val (.int S), .val (.int R), .val (.int C), .val (.ref w_LOWER_ROW), .val (.int R), .unset, .unset, .unset, .unset]) at_53 rfl rfl ?_
      refine s_aload B X44 (pc' := 57) at_55 rfl rfl rfl ?_
      refine s_iload B X44 (pc' := 59) at_57 rfl rfl ?_
      refine p_virtual B X44 (y := mn2) (pc' := 62) (argsL := [(.int R)]) (under := []) (W := 0) e44 (tw16 hw) (tw17 hw) (tw19 hw) (tw18 hw) (tw20 hw) (tw7 hw) (by decide) (rm3_11 l Z a0 hw R w_FULL_MATRIX w_UPPER_DIAG_ROW w_LOWER_DIAG_ROW w_UPPER_ROW w_LOWER_ROW Z.heap F0 ) E_LOWER_ROW (lenOf pd_2 rfl) rfl rfl (by decide) (by decide) rfl rfl (by decide) (by decide) rfl at_59 rfl (fun T45 X45 e45 => ?_)
      show Go p e below _ (T45.setTop (mkF m 62 #[.val (.int i0), .val (.int i1), .val (.int i2), .val (.int i3), .val (.int (3 : Int32)), .val (.int S), .val (.int R), .val (.int C), .val (.ref w_LOWER_ROW), .val (.int R), .unset, .unset, .unset, .unset] [(.int (0 : Int32))]))
      refine s_istore B X45 (pc' := 64) (Ls' := #[.val (.int i0), .val (.int i1), .val (.int i2), .val (.int i3), .val (.int (3 : Int32)), .val (.int S), .val (.int R), .val (.int C), .val (.ref w_LOWER_ROW), .val (.int R), .val (.int (0 : Int32)), .unset, .unset, .unset]) at_62 rfl rfl ?_
      refine s_iload B X45 (pc' := 66) at_64 rfl rfl ?_
      refine s_ifY B X45 (pc' := 79) at_66 (by decide) (by decide) (by decide) ?_
      refine s_iload B X45 (pc' := 81) at_79 rfl rfl ?_
      refine s_iconst B X45 (pc' := 82) (v := (1 : Int32)) at_81 rfl rfl ?_
      refine s_icmpY B X45 (pc' := 106) at_82 (by decide) (by decide) (by decide) ?_
      refine s_iload B X45 (pc' := 108) at_106 rfl rfl ?_
      refine s_iconst B X45 (pc' := 109) (v := (2 : Int32)) at_108 rfl rfl ?_
      refine s_icmpY B X45 (pc' := 133) at_109 (by decide) (by decide) (by decide) ?_
      refine s_iload B X45 (pc' := 135) at_133 rfl rfl ?_
      refine s_iconst B X45 (pc' := 136) (v := (3 : Int32)) at_135 rfl rfl ?_
      refine s_icmpN B X45 (pc' := 139) at_136 (by decide) rfl ?_
      refine s_iload B X45 (pc' := 141) at_139 rfl rfl ?_
      refine s_istore B X45 (pc' := 143) (Ls' := #[.val (.int i0), .val (.int i1), .val (.int i2), .val (.int i3), .val (.int (3 : Int32)), .val (.int S), .val (.int R), .val (.int C), .val (.ref w_LOWER_ROW), .val (.int R), .val (.int (0 : Int32)), .val (.int R), .unset, .unset]) at_141 rfl rfl ?_
      refine s_iload B X45 (pc' := 145) at_143 rfl rfl ?_
      refine s_iload B X45 (pc' := 147) at_145 rfl rfl ?_
      refine b_icmp_ge B X45 (py := 154) (pn := 150) at_147 (by decide) (by decide) rfl (fun _ => ?_) (fun q => absurd q (by simp only [Int32.lt_iff_toInt_lt, ← Int32.toInt_inj, e1, z0]; omega))
      refine s_iconst B X45 (pc' := 155) (v := (0 : Int32)) at_154 rfl rfl ?_
      refine s_istore B X45 (pc' := 157) (Ls' := #[.val (.int i0), .val (.int i1), .val (.int i2), .val (.int i3), .val (.int (3 : Int32)), .val (.int S), .val (.int R), .val (.int C), .val (.ref w_LOWER_ROW), .val (.int R), .val (.int (0 : Int32)), .val (.int R), .val (.int (0 : Int32)), .unset]) at_155 rfl rfl ?_
      refine s_goto B X45 (pc' := 180) at_157 (by decide) (by decide) ?_
      refine s_iload B X45 (pc' := 182) at_180 rfl rfl ?_
      refine s_iload B X45 (pc' := 184) at_182 rfl rfl ?_
      refine b_icmp_gt B X45 (py := 198) (pn := 187) at_184 (by decide) (by decide) rfl (fun q => absurd q (by simp only [Int32.lt_iff_toInt_lt, ← Int32.toInt_inj, e1, z0]; omega)) (fun _ => ?_)
      refine s_iload B X45 (pc' := 189) at_187 rfl rfl ?_
      refine s_iload B X45 (pc' := 191) at_189 rfl rfl ?_
      refine b_icmp_ge B X45 (py := 198) (pn := 194) at_191 (by decide) (by decide) rfl (fun _ => ?_) (fun q => absurd q (by simp only [Int32.lt_iff_toInt_lt, ← Int32.toInt_inj, e1, z0]; omega))
      refine s_iconst B X45 (pc' := 199) (v := (0 : Int32)) at_198 rfl rfl ?_
      refine s_istore B X45 (pc' := 201) (Ls' := #[.val (.int i0), .val (.int i1), .val (.int i2), .val (.int i3), .val (.int (3 : Int32)), .val (.int S), .val (.int R), .val (.int C), .val (.ref w_LOWER_ROW), .val (.int R), .val (.int (0 : Int32)), .val (.int R), .val (.int (0 : Int32)), .val (.int (0 : Int32))]) at_199 rfl rfl ?_
      refine s_iload B X45 (pc' := 203) at_201 rfl rfl ?_
      refine s_iload B X45 (pc' := 205) at_203 rfl rfl ?_
      refine b_icmp_ne B X45 (py := 219) (pn := 208) at_205 (by decide) (by decide) rfl (fun q => absurd rfl q) (fun _ => ?_)
      refine s_iload B X45 (pc' := 210) at_208 rfl rfl ?_
      refine s_iload B X45 (pc' := 212) at_210 rfl rfl ?_
      refine s_icmpN B X45 (pc' := 215) at_212 (by decide) rfl ?_
      refine s_iconst B X45 (pc' := 216) (v := (1 : Int32)) at_215 rfl rfl ?_
      refine s_goto B X45 (pc' := 220) at_216 (by decide) (by decide) ?_
      exact r_nar B X45 (t := .boolean) (by simp) rfl at_220 ⟨rfl, (Fr.nil _)⟩ (by decide) (by decide)
    · refine s_iloadN B X0 (pc' := 1) at_0 rfl rfl ?_
      refine s_ldc B X0 (pc' := 3) (v := (2147483647 : Int32)) (tw0 hw) at_1 rfl ?_
      refine s_iand B X0 (pc' := 4) (v := (i0 &&& (2147483647 : Int32))) at_3 rfl rfl ?_
      refine s_iconst B X0 (pc' := 5) (v := (5 : Int32)) at_4 rfl rfl ?_
      refine s_irem B X0 (pc' := 6) (v := (4 : Int32)) at_5 (hv33) (by decide) rfl ?_
      refine s_istore B X0 (pc' := 8) (Ls' := #[.val (.int i0), .val (.int i1), .val (.int i2), .val (.int i3), .val (.int (4 : Int32)), .unset, .unset, .unset, .unset, .unset, .unset, .unset, .unset, .unset]) at_6 rfl rfl ?_
      refine s_iloadN B X0 (pc' := 9) at_8 rfl rfl ?_
      refine s_ldc B X0 (pc' := 11) (v := (2147483647 : Int32)) (tw0 hw) at_9 rfl ?_
      refine s_iand B X0 (pc' := 12) (v := (i1 &&& (2147483647 : Int32))) at_11 rfl rfl ?_
      refine s_ldc B X0 (pc' := 14) (v := (65536 : Int32)) (tw1 hw) at_12 rfl ?_
      refine s_irem B X0 (pc' := 15) (v := ((i1 &&& (2147483647 : Int32)) % (65536 : Int32))) at_14 rfl (by decide) rfl ?_
      refine s_iconst B X0 (pc' := 16) (v := (1 : Int32)) at_15 rfl rfl ?_
      refine s_iadd B X0 (pc' := 17) (v := S) at_16 (hS) rfl ?_
      refine s_istore B X0 (pc' := 19) (Ls' := #[.val (.int i0), .val (.int i1), .val (.int i2), .val (.int i3), .val (.int (4 : Int32)), .val (.int S), .unset, .unset, .unset, .unset, .unset, .unset, .unset, .unset]) at_17 rfl rfl ?_
      refine s_iloadN B X0 (pc' := 20) at_19 rfl rfl ?_
      refine s_ldc B X0 (pc' := 22) (v := (2147483647 : Int32)) (tw0 hw) at_20 rfl ?_
      refine s_iand B X0 (pc' := 23) (v := (i2 &&& (2147483647 : Int32))) at_22 rfl rfl ?_
      refine s_iload B X0 (pc' := 25) at_23 rfl rfl ?_
      refine s_irem B X0 (pc' := 26) (v := R) at_25 (hR) hSne rfl ?_
      refine s_istore B X0 (pc' := 28) (Ls' := #[.val (.int i0), .val (.int i1), .val (.int i2), .val (.int i3), .val (.int (4 : Int32)), .val (.int S), .val (.int R), .unset, .unset, .unset, .unset, .unset, .unset, .unset]) at_26 rfl rfl ?_
      refine s_iloadN B X0 (pc' := 29) at_28 rfl rfl ?_
      refine s_ldc B X0 (pc' := 31) (v := (2147483647 : Int32)) (tw0 hw) at_29 rfl ?_
      refine s_iand B X0 (pc' := 32) (v := (i3 &&& (2147483647 : Int32))) at_31 rfl rfl ?_
      refine s_iload B X0 (pc' := 34) at_32 rfl rfl ?_
      refine s_irem B X0 (pc' := 35) (v := C) at_34 (hC) hSne rfl ?_
      refine s_istore B X0 (pc' := 37) (Ls' := #[.val (.int i0), .val (.int i1), .val (.int i2), .val (.int i3), .val (.int (4 : Int32)), .val (.int S), .val (.int R), .val (.int C), .unset, .unset, .unset, .unset, .unset, .unset]) at_35 rfl rfl ?_
      refine s_iload B X0 (pc' := 39) at_37 rfl rfl ?_
      refine p_static B X0 (y := mn0) (pc' := 42) (argsL := [(.int (4 : Int32))]) (under := []) (W := 0) e0 (tw2 hw) (tw3 hw) (tw5 hw) (tw4 hw) (by decide) (rm1_12 l Z a0 hw  w_FULL_MATRIX w_UPPER_DIAG_ROW w_LOWER_DIAG_ROW w_UPPER_ROW w_LOWER_ROW Z.heap F0 ) (lenOf pd_0 rfl) rfl rfl (by decide) (by decide) rfl rfl (by decide) (by decide) rfl at_39 rfl (fun T46 X46 e46 => ?_)
      show Go p e below _ (T46.setTop (mkF m 42 #[.val (.int i0), .val (.int i1), .val (.int i2), .val (.int i3), .val (.int (4 : Int32)), .val (.int S), .val (.int R), .val (.int C), .unset, .unset, .unset, .unset, .unset, .unset] [(.ref w_LOWER_DIAG_ROW)]))
      refine s_astore B X46 (pc' := 44) (Ls' := #[.val (.int i0), .val (.int i1), .val (.int i2), .val (.int i3), .val (.int (4 : Int32)), .val (.int S), .val (.int R), .val (.int C), .val (.ref w_LOWER_DIAG_ROW), .unset, .unset, .unset, .unset, .unset]) at_42 rfl rfl rfl ?_
      refine s_aload B X46 (pc' := 46) at_44 rfl rfl rfl ?_
      refine s_iload B X46 (pc' := 48) at_46 rfl rfl ?_
      refine s_iload B X46 (pc' := 50) at_48 rfl rfl ?_
      refine p_virtual B X46 (y := mn1) (pc' := 53) (argsL := [(.int R), (.int S)]) (under := []) (W := 0) e46 (tw9 hw) (tw10 hw) (tw12 hw) (tw11 hw) (tw13 hw) (tw7 hw) (by decide) (rm2_13 l Z a0 hw R S w_FULL_MATRIX w_UPPER_DIAG_ROW w_LOWER_DIAG_ROW w_UPPER_ROW w_LOWER_ROW Z.heap F0 ) E_LOWER_DIAG_ROW (lenOf pd_1 rfl) rfl rfl (by decide) (by decide) rfl rfl (by decide) (by decide) rfl at_50 rfl (fun T47 X47 e47 => ?_)
      show Go p e below _ (T47.setTop (mkF m 53 #[.val (.int i0), .val (.int i1), .val (.int i2), .val (.int i3), .val (.int (4 : Int32)), .val (.int S), .val (.int R), .val (.int C), .val (.ref w_LOWER_DIAG_ROW), .unset, .unset, .unset, .unset, .unset] [(.int (R + (1 : Int32)))]))
      refine s_istore B X47 (pc' := 55) (Ls' := #[.val (.int i0), .val (.int i1), .val (.int i2), .val (.int i3), .val (.int (4 : Int32)), .val (.int S), .val (.int R), .val (.int C), .val (.ref w_LOWER_DIAG_ROW), .val (.int (R + (1 : Int32))), .unset, .unset, .unset, .unset]) at_53 rfl rfl ?_
      refine s_aload B X47 (pc' := 57) at_55 rfl rfl rfl ?_
      refine s_iload B X47 (pc' := 59) at_57 rfl rfl ?_
      refine p_virtual B X47 (y := mn2) (pc' := 62) (argsL := [(.int R)]) (under := []) (W := 0) e47 (tw16 hw) (tw17 hw) (tw19 hw) (tw18 hw) (tw20 hw) (tw7 hw) (by decide) (rm3_14 l Z a0 hw R w_FULL_MATRIX w_UPPER_DIAG_ROW w_LOWER_DIAG_ROW w_UPPER_ROW w_LOWER_ROW Z.heap F0 ) E_LOWER_DIAG_ROW (lenOf pd_2 rfl) rfl rfl (by decide) (by decide) rfl rfl (by decide) (by decide) rfl at_59 rfl (fun T48 X48 e48 => ?_)
      show Go p e below _ (T48.setTop (mkF m 62 #[.val (.int i0), .val (.int i1), .val (.int i2), .val (.int i3), .val (.int (4 : Int32)), .val (.int S), .val (.int R), .val (.int C), .val (.ref w_LOWER_DIAG_ROW), .val (.int (R + (1 : Int32))), .unset, .unset, .unset, .unset] [(.int (0 : Int32))]))
      refine s_istore B X48 (pc' := 64) (Ls' := #[.val (.int i0), .val (.int i1), .val (.int i2), .val (.int i3), .val (.int (4 : Int32)), .val (.int S), .val (.int R), .val (.int C), .val (.ref w_LOWER_DIAG_ROW), .val (.int (R + (1 : Int32))), .val (.int (0 : Int32)), .unset, .unset, .unset]) at_62 rfl rfl ?_
      refine s_iload B X48 (pc' := 66) at_64 rfl rfl ?_
      refine s_ifY B X48 (pc' := 79) at_66 (by decide) (by decide) (by decide) ?_
      refine s_iload B X48 (pc' := 81) at_79 rfl rfl ?_
      refine s_iconst B X48 (pc' := 82) (v := (1 : Int32)) at_81 rfl rfl ?_
      refine s_icmpY B X48 (pc' := 106) at_82 (by decide) (by decide) (by decide) ?_
      refine s_iload B X48 (pc' := 108) at_106 rfl rfl ?_
      refine s_iconst B X48 (pc' := 109) (v := (2 : Int32)) at_108 rfl rfl ?_
      refine s_icmpY B X48 (pc' := 133) at_109 (by decide) (by decide) (by decide) ?_
      refine s_iload B X48 (pc' := 135) at_133 rfl rfl ?_
      refine s_iconst B X48 (pc' := 136) (v := (3 : Int32)) at_135 rfl rfl ?_
      refine s_icmpY B X48 (pc' := 160) at_136 (by decide) (by decide) (by decide) ?_
      refine s_iload B X48 (pc' := 162) at_160 rfl rfl ?_
      refine s_iconst B X48 (pc' := 163) (v := (1 : Int32)) at_162 rfl rfl ?_
      refine s_iadd B X48 (pc' := 164) (v := (R + (1 : Int32))) at_163 rfl rfl ?_
      refine s_istore B X48 (pc' := 166) (Ls' := #[.val (.int i0), .val (.int i1), .val (.int i2), .val (.int i3), .val (.int (4 : Int32)), .val (.int S), .val (.int R), .val (.int C), .val (.ref w_LOWER_DIAG_ROW), .val (.int (R + (1 : Int32))), .val (.int (0 : Int32)), .val (.int (R + (1 : Int32))), .unset, .unset]) at_164 rfl rfl ?_
      refine s_iload B X48 (pc' := 168) at_166 rfl rfl ?_
      refine s_iload B X48 (pc' := 170) at_168 rfl rfl ?_
      refine b_icmp_gt B X48 (py := 177) (pn := 173) at_170 (by decide) (by decide) rfl (fun _ => ?_) (fun q => absurd (by simp only [Int32.lt_iff_toInt_lt, ← Int32.toInt_inj, e1, z0]; omega) q)
      refine s_iconst B X48 (pc' := 178) (v := (0 : Int32)) at_177 rfl rfl ?_
      refine s_istore B X48 (pc' := 180) (Ls' := #[.val (.int i0), .val (.int i1), .val (.int i2), .val (.int i3), .val (.int (4 : Int32)), .val (.int S), .val (.int R), .val (.int C), .val (.ref w_LOWER_DIAG_ROW), .val (.int (R + (1 : Int32))), .val (.int (0 : Int32)), .val (.int (R + (1 : Int32))), .val (.int (0 : Int32)), .unset]) at_178 rfl rfl ?_
      refine s_iload B X48 (pc' := 182) at_180 rfl rfl ?_
      refine s_iload B X48 (pc' := 184) at_182 rfl rfl ?_
      refine b_icmp_gt B X48 (py := 198) (pn := 187) at_184 (by decide) (by decide) rfl (fun q => absurd q (by simp only [Int32.lt_iff_toInt_lt, ← Int32.toInt_inj, e1, z0]; omega)) (fun _ => ?_)
      refine s_iload B X48 (pc' := 189) at_187 rfl rfl ?_
      refine s_iload B X48 (pc' := 191) at_189 rfl rfl ?_
      refine b_icmp_ge B X48 (py := 198) (pn := 194) at_191 (by decide) (by decide) rfl (fun _ => ?_) (fun q => absurd q (by simp only [Int32.lt_iff_toInt_lt, ← Int32.toInt_inj, e1, z0]; omega))
      refine s_iconst B X48 (pc' := 199) (v := (0 : Int32)) at_198 rfl rfl ?_
      refine s_istore B X48 (pc' := 201) (Ls' := #[.val (.int i0), .val (.int i1), .val (.int i2), .val (.int i3), .val (.int (4 : Int32)), .val (.int S), .val (.int R), .val (.int C), .val (.ref w_LOWER_DIAG_ROW), .val (.int (R + (1 : Int32))), .val (.int (0 : Int32)), .val (.int (R + (1 : Int32))), .val (.int (0 : Int32)), .val (.int (0 : Int32))]) at_199 rfl rfl ?_
      refine s_iload B X48 (pc' := 203) at_201 rfl rfl ?_
      refine s_iload B X48 (pc' := 205) at_203 rfl rfl ?_
      refine b_icmp_ne B X48 (py := 219) (pn := 208) at_205 (by decide) (by decide) rfl (fun q => absurd rfl q) (fun _ => ?_)
      refine s_iload B X48 (pc' := 210) at_208 rfl rfl ?_
      refine s_iload B X48 (pc' := 212) at_210 rfl rfl ?_
      refine s_icmpN B X48 (pc' := 215) at_212 (by decide) rfl ?_
      refine s_iconst B X48 (pc' := 216) (v := (1 : Int32)) at_215 rfl rfl ?_
      refine s_goto B X48 (pc' := 220) at_216 (by decide) (by decide) ?_
      exact r_nar B X48 (t := .boolean) (by simp) rfl at_220 ⟨rfl, (Fr.nil _)⟩ (by decide) (by decide)
set_option maxRecDepth 65536 in
set_option maxHeartbeats 40000000 in
theorem comes_1 {Post : Tables → Env → Array Value → State → Outcome → State → Prop} (hpost : ∀ tb e args s v u, (limb_1_1.after args s (.returned v) u = true ∧ limb_1_2.after args s (.returned v) u = true ∧ True) → FrameEnd s (.returned v) u (Jvm.fieldLocs frame_1_writes args s ++ Jvm.arrayLocs frame_1_arrays args s ++ Jvm.staticLocs frame_1_statics s) 0 0 → Post tb e args s (.returned v) u) :
    ArmFor flags0 classFile x code maxLocals ret World_1 tables_1 room_1 Calls_1 rest_1 Pre_1 Post := by
  intro l hfl _ _ p e ha hc hk s m args below hf hA hF happ hP
  obtain ⟨hcalls, hrest, hpre⟩ := hP
  obtain ⟨-, -, -, hnamed, -, -, -, hat⟩ := (Spec.applies_iff hf).mp happ
  obtain ⟨hg, hn⟩ := and_e (Cond.before_iff.mp (show (Jvm.Cond.and given_1 narrow_1).before args s = true from hpre))
  obtain ⟨h1, hg⟩ := and_e hg
  obtain ⟨w0, w1, w2, w3, rfl⟩ : ∃ w0 w1 w2 w3 : Value, args = #[w0, w1, w2, w3] := by
    have hs : args.size = 4 := by simpa [Cond.value, given_1] using h1
    obtain ⟨L⟩ := args
    match L, hs with
    | [w0, w1, w2, w3], _ => exact ⟨w0, w1, w2, w3, rfl⟩
  have hw := fun d (hd : d ∈ tables_1) => atoms_spec (ws := Jvm.Cond.code x code maxLocals ret :: tables_1) hat d (List.mem_cons_of_mem _ hd)
  have hfit : Fit s := fun {y c} hc i hi => by
    obtain ⟨ha, rfl⟩ := Array.getElem?_eq_some_iff.mp hc
    have q := List.all_eq_true.mp ((Array.all_eq_true_iff_forall_mem.mp hF) _ (Array.getElem_mem ha)) i (List.mem_range.mpr hi)
    simpa [Array.getElem?_eq_getElem hi] using q
  obtain ⟨hg0, hg⟩ := and_e hg
  obtain ⟨hg1, hg⟩ := and_e hg
  obtain ⟨hg2, hg⟩ := and_e hg
  have hg3 := hg
  obtain ⟨i0, ei0⟩ := is_v hg0
  obtain rfl : w0 = (.int i0) := Option.some.inj ei0
  obtain ⟨i1, ei1⟩ := is_v hg1
  obtain rfl : w1 = (.int i1) := Option.some.inj ei1
  obtain ⟨i2, ei2⟩ := is_v hg2
  obtain rfl : w2 = (.int i2) := Option.some.inj ei2
  obtain ⟨i3, ei3⟩ := is_v hg3
  obtain rfl : w3 = (.int i3) := Option.some.inj ei3
  obtain ⟨hn0, hn⟩ := and_e hn
  obtain ⟨hn1, hn⟩ := and_e hn
  obtain ⟨hn2, hn⟩ := and_e hn
  obtain ⟨hn3, hn⟩ := and_e hn
  obtain ⟨hn4, hn⟩ := and_e hn
  obtain ⟨hn5, hn⟩ := and_e hn
  obtain ⟨hn6, hn⟩ := and_e hn
  obtain ⟨hn7, hn⟩ := and_e hn
  obtain ⟨hn8, hn⟩ := and_e hn
  obtain ⟨hn9, hn⟩ := and_e hn
  obtain ⟨hn10, hn⟩ := and_e hn
  obtain ⟨hn11, hn⟩ := and_e hn
  obtain ⟨hn12, hn⟩ := and_e hn
  obtain ⟨hn13, hn⟩ := and_e hn
  obtain ⟨hn14, hn⟩ := and_e hn
  obtain ⟨hn15, hn⟩ := and_e hn
  obtain ⟨hn16, hn⟩ := and_e hn
  obtain ⟨hn17, hn⟩ := and_e hn
  obtain ⟨hn18, hn⟩ := and_e hn
  have hn19 := hn
  obtain ⟨w_FULL_MATRIX, v_FULL_MATRIX⟩ := exa_v hn0
  have S_FULL_MATRIX := Sta.start v_FULL_MATRIX (Or.inr ⟨(tw7 hw), (tw8 hw)⟩)
  have E_FULL_MATRIX := Exa.start v_FULL_MATRIX hn0
  obtain ⟨w_UPPER_DIAG_ROW, v_UPPER_DIAG_ROW⟩ := exa_v hn3
  have S_UPPER_DIAG_ROW := Sta.start v_UPPER_DIAG_ROW (Or.inr ⟨(tw7 hw), (tw24 hw)⟩)
  have E_UPPER_DIAG_ROW := Exa.start v_UPPER_DIAG_ROW hn3
  obtain ⟨w_LOWER_DIAG_ROW, v_LOWER_DIAG_ROW⟩ := exa_v hn7
  have S_LOWER_DIAG_ROW := Sta.start v_LOWER_DIAG_ROW (Or.inr ⟨(tw7 hw), (tw28 hw)⟩)
  have E_LOWER_DIAG_ROW := Exa.start v_LOWER_DIAG_ROW hn7
  obtain ⟨w_UPPER_ROW, v_UPPER_ROW⟩ := exa_v hn11
  have S_UPPER_ROW := Sta.start v_UPPER_ROW (Or.inr ⟨(tw7 hw), (tw30 hw)⟩)
  have E_UPPER_ROW := Exa.start v_UPPER_ROW hn11
  obtain ⟨w_LOWER_ROW, v_LOWER_ROW⟩ := exa_v hn15
  have S_LOWER_ROW := Sta.start v_LOWER_ROW (Or.inr ⟨(tw7 hw), (tw32 hw)⟩)
  have E_LOWER_ROW := Exa.start v_LOWER_ROW hn15
  have F_FULL_MATRIX_upper := Fld.start ((fld_at v_FULL_MATRIX).symm.trans (eqI_v hn1))
  have F_FULL_MATRIX_lower := Fld.start ((fld_at v_FULL_MATRIX).symm.trans (eqI_v hn2))
  have F_UPPER_DIAG_ROW_upper := Fld.start ((fld_at v_UPPER_DIAG_ROW).symm.trans (eqI_v hn4))
  have F_UPPER_DIAG_ROW_lower := Fld.start ((fld_at v_UPPER_DIAG_ROW).symm.trans (eqI_v hn5))
  have F_UPPER_DIAG_ROW_diagonal := Fld.start ((fld_at v_UPPER_DIAG_ROW).symm.trans (eqI_v hn6))
  have F_LOWER_DIAG_ROW_upper := Fld.start ((fld_at v_LOWER_DIAG_ROW).symm.trans (eqI_v hn8))
  have F_LOWER_DIAG_ROW_diagonal := Fld.start ((fld_at v_LOWER_DIAG_ROW).symm.trans (eqI_v hn9))
  have F_LOWER_DIAG_ROW_lower := Fld.start ((fld_at v_LOWER_DIAG_ROW).symm.trans (eqI_v hn10))
  have F_UPPER_ROW_upper := Fld.start ((fld_at v_UPPER_ROW).symm.trans (eqI_v hn12))
  have F_UPPER_ROW_lower := Fld.start ((fld_at v_UPPER_ROW).symm.trans (eqI_v hn13))
  have F_UPPER_ROW_diagonal := Fld.start ((fld_at v_UPPER_ROW).symm.trans (eqI_v hn14))
  have F_LOWER_ROW_upper := Fld.start ((fld_at v_LOWER_ROW).symm.trans (eqI_v hn16))
  have F_LOWER_ROW_diagonal := Fld.start ((fld_at v_LOWER_ROW).symm.trans (eqI_v hn17))
  have F_LOWER_ROW_lower := Fld.start ((fld_at v_LOWER_ROW).symm.trans (eqI_v hn18))
  have F_FULL_MATRIX_diagonal := Fld.start ((fld_at v_FULL_MATRIX).symm.trans (eqI_v hn19))
  obtain ⟨n, o, h1, h2, h3, _, L, rfl, ⟨rfl, N⟩, hq⟩ := rm_law l s _ hw i0 i1 i2 i3 w_FULL_MATRIX w_UPPER_DIAG_ROW w_LOWER_DIAG_ROW w_UPPER_ROW w_LOWER_ROW ⟨S_FULL_MATRIX, E_FULL_MATRIX, S_UPPER_DIAG_ROW, E_UPPER_DIAG_ROW, S_LOWER_DIAG_ROW, E_LOWER_DIAG_ROW, S_UPPER_ROW, E_UPPER_ROW, S_LOWER_ROW, E_LOWER_ROW, F_FULL_MATRIX_upper, F_FULL_MATRIX_lower, F_UPPER_DIAG_ROW_upper, F_UPPER_DIAG_ROW_lower, F_UPPER_DIAG_ROW_diagonal, F_LOWER_DIAG_ROW_upper, F_LOWER_DIAG_ROW_diagonal, F_LOWER_DIAG_ROW_lower, F_UPPER_ROW_upper, F_UPPER_ROW_lower, F_UPPER_ROW_diagonal, F_LOWER_ROW_upper, F_LOWER_ROW_diagonal, F_LOWER_ROW_lower, F_FULL_MATRIX_diagonal⟩ p e ha hc hk s m _ below hf ((Spec.applies_iff_loose hf).mp happ).1 ⟨rfl, State.Warmed39.refl s, rfl⟩ trivial
  refine ⟨n, _, h1, h2, h3, hpost _ _ _ _ _ _ ⟨Cond.after_iff.mpr rfl, Cond.after_iff.mpr (eq_i res_at (Term.int_eval (1)) rfl), trivial⟩ ⟨hq.1, hq.2.1, (hq.2.2.sift fun y hy => Or.inr (N y hy)).mono (by decide) (by decide)⟩⟩
theorem main_1_1 : Claimed_1_1 := comes_1 fun _ _ _ _ _ _ h hF => ⟨h.1, hF⟩
theorem main_1_2 : Claimed_1_2 := comes_1 fun _ _ _ _ _ _ h hF => ⟨h.2.1, hF⟩
end Jvm.Pilot.@@N@@
namespace Jvm.Pilot.@@N@@
open Jvm Jvm.ClassFile Sem Op Lib Jvm.Free Jvm.Stand Jvm.Pilot.@@N@@.Jvm.D
/-! MADE BY PROGRAM (witnessworld.py) out of the Statement's table words and the real class files: 12 classes; the members and pool entries that the words name. The judged class is class 1, her method 2. -/
namespace start1
open Jvm.ClassFile
def u (s : String) : CpInfo := .utf8 (stringToUtf16 s)
/-- a pool by its gaps: so many unusable entries, then the entry; so many at the end -/
def gap : Nat → List CpInfo → List CpInfo
  | 0, r => r
  | n + 1, r => .unusable :: gap n r
def poolList (es : List (Nat × CpInfo)) (last : Nat) : List CpInfo := es.foldr (fun e r => gap e.1 (e.2 :: r)) (gap last [])
def pool (es : List (Nat × CpInfo)) (last : Nat) : Array CpInfo := ⟨poolList es last⟩
def fileOf (pool : Array CpInfo) (this : Nat) (attrs : Array Attribute := #[]) (ms : Array MethodInfo := #[]) (fl : Nat := 33) (sup : Nat := 0) (ifs : Array Nat := #[]) (fds : Array FieldInfo := #[]) : ClassFile where
  minorVersion := 0
  majorVersion := 65
  constantPool := pool
  accessFlags := fl
  thisClass := this
  superClass := sup
  interfaces := ifs
  fields := fds
  methods := ms
  attributes := attrs
def plain (name : String) (sup : Option ClassId) : Class where
  name := name
  kind := .ordinary
  loader := none
  accessFlags := 33
  super := sup
  interfaces := #[]
  cf := none
  fields := #[]
  methods := #[]
  instanceTypes := #[]
  staticTypes := #[]
  resolved := #[]
  callSites := []
  init := .initialized
  statics := none
  mirror := none

def pool0 : Array CpInfo := pool [(5, u "<init>"), (0, u "()V"), (1, .class_ 10), (1, u "java/lang/Object")] 113

def k0m0 : Method := { name := "<init>", desc := "()V", sig := { parameters := [], returnType := none }, accessFlags := 1, code := none }
/-- java/lang/Object -/
def k0 : Class := { plain "java/lang/Object" none with
  accessFlags := 33
  interfaces := #[]
  cf := some (fileOf pool0 8 #[] #[{ accessFlags := 1, nameIndex := 5, descriptorIndex := 6, attributes := #[] }] 33 0 #[] #[])
  fields := #[]
  methods := #[k0m0]
  instanceTypes := #[]
  staticTypes := #[]
  resolved := Array.replicate 124 none
  statics := none }

def pool1 : Array CpInfo := pool [(2, .class_ 4), (1, u "java/lang/Object"), (0, u "<init>"), (0, u "()V"), (0, .fieldref 8 9), (0, .class_ 10), (0, .nameAndType 11 12), (0, u "com/example/stroll/stroll/ExplicitMetric$Layout"), (0, u "FULL_MATRIX"), (0, u "Lcom/example/stroll/stroll/ExplicitMetric$Layout;"), (0, .fieldref 8 14), (0, .nameAndType 15 12), (0, u "UPPER_ROW"), (0, .fieldref 8 17), (0, .nameAndType 18 12), (0, u "UPPER_DIAG_ROW"), (0, .fieldref 8 20), (0, .nameAndType 21 12), (0, u "LOWER_ROW"), (0, .fieldref 8 23), (0, .nameAndType 24 12), (0, u "LOWER_DIAG_ROW"), (0, .integer 2147483647), (2, .integer 65536), (0, .methodref 30 31), (0, .class_ 32), (0, .nameAndType 33 34), (0, u "com/example/stroll/stroll/LayoutEndPinLaw"), (0, u "pick"), (0, u "(I)Lcom/example/stroll/stroll/ExplicitMetric$Layout;"), (0, .methodref 8 36), (0, .nameAndType 37 38), (0, u "end"), (0, u "(II)I"), (0, .methodref 8 40), (0, .nameAndType 41 42), (0, u "first"), (0, u "(I)I"), (3, u "law"), (0, u "(IIII)Z")] 4

def k1m0 : Method := { name := "<init>", desc := "()V", sig := { parameters := [], returnType := none }, accessFlags := 1, code := none }
def k1c1 : Code := { maxStack := 2, maxLocals := 1, code := method_2_code, exceptionTable := #[], attributes := #[] }
def k1m1 : Method := { name := "pick", desc := "(I)Lcom/example/stroll/stroll/ExplicitMetric$Layout;", sig := { parameters := [.int], returnType := some (.object "com/example/stroll/stroll/ExplicitMetric$Layout") }, accessFlags := 10, code := some k1c1 }
def k1c2 : Code := { maxStack := 3, maxLocals := 14, code := code, exceptionTable := #[], attributes := #[] }
def k1m2 : Method := { name := "law", desc := "(IIII)Z", sig := { parameters := [.int, .int, .int, .int], returnType := some .boolean }, accessFlags := 9, code := some k1c2 }
/-- com/example/stroll/stroll/LayoutEndPinLaw -/
def k1 : Class := { plain "com/example/stroll/stroll/LayoutEndPinLaw" (some 0) with
  accessFlags := 49
  interfaces := #[]
  cf := some (fileOf pool1 30 #[] #[{ accessFlags := 1, nameIndex := 5, descriptorIndex := 6, attributes := #[] }, { accessFlags := 10, nameIndex := 33, descriptorIndex := 34, attributes := #[] }, { accessFlags := 9, nameIndex := 46, descriptorIndex := 47, attributes := #[] }] 49 2 #[] #[])
  fields := #[]
  methods := #[k1m0, k1m1, k1m2]
  instanceTypes := #[]
  staticTypes := #[]
  resolved := Array.replicate 52 none
  statics := none }

def pool2 : Array CpInfo := pool [(1, .class_ 2), (0, u "java/lang/constant/Constable"), (0, .class_ 4), (0, u "java/lang/Object")] 6

/-- java/lang/constant/Constable -/
def k2 : Class := { plain "java/lang/constant/Constable" (some 0) with
  accessFlags := 1537
  interfaces := #[]
  cf := some (fileOf pool2 1 #[] #[] 1537 3 #[] #[])
  fields := #[]
  methods := #[]
  instanceTypes := #[]
  staticTypes := #[]
  resolved := Array.replicate 11 none
  statics := none }

def pool3 : Array CpInfo := pool [(1, .class_ 2), (0, u "java/lang/Comparable"), (0, .class_ 4), (0, u "java/lang/Object")] 7

/-- java/lang/Comparable -/
def k3 : Class := { plain "java/lang/Comparable" (some 0) with
  accessFlags := 1537
  interfaces := #[]
  cf := some (fileOf pool3 1 #[] #[] 1537 3 #[] #[])
  fields := #[]
  methods := #[]
  instanceTypes := #[]
  staticTypes := #[]
  resolved := Array.replicate 12 none
  statics := none }

def pool4 : Array CpInfo := pool [(1, .class_ 2), (0, u "java/io/Serializable"), (0, .class_ 4), (0, u "java/lang/Object")] 2

/-- java/io/Serializable -/
def k4 : Class := { plain "java/io/Serializable" (some 0) with
  accessFlags := 1537
  interfaces := #[]
  cf := some (fileOf pool4 1 #[] #[] 1537 3 #[] #[])
  fields := #[]
  methods := #[]
  instanceTypes := #[]
  staticTypes := #[]
  resolved := Array.replicate 7 none
  statics := none }

def pool5 : Array CpInfo := pool [(2, .class_ 4), (1, u "java/lang/Enum"), (0, u "name"), (0, u "Ljava/lang/String;"), (2, u "ordinal"), (0, u "I"), (1, .class_ 14), (1, u "java/lang/Object"), (4, u "hash"), (86, .class_ 108), (1, u "java/lang/Enum$EnumDesc"), (2, .class_ 112), (0, u "java/lang/constant/Constable"), (0, .class_ 114), (0, u "java/lang/Comparable"), (0, .class_ 116), (0, u "java/io/Serializable")] 87

/-- java/lang/Enum -/
def k5 : Class := { plain "java/lang/Enum" (some 0) with
  accessFlags := 1057
  interfaces := #[2, 3, 4]
  cf := some (fileOf pool5 2 #[.nestMembers #[106]] #[] 1057 12 #[111, 113, 115] #[{ accessFlags := 18, nameIndex := 5, descriptorIndex := 6, attributes := #[] }, { accessFlags := 18, nameIndex := 9, descriptorIndex := 10, attributes := #[] }, { accessFlags := 2, nameIndex := 19, descriptorIndex := 10, attributes := #[] }])
  fields := #[{ name := "name", type := (.object "java/lang/String"), accessFlags := 18, slot := 0, constantValue := 0 }, { name := "ordinal", type := .int, accessFlags := 18, slot := 1, constantValue := 0 }, { name := "hash", type := .int, accessFlags := 2, slot := 2, constantValue := 0 }]
  methods := #[]
  instanceTypes := #[(.object "java/lang/String"), .int, .int]
  staticTypes := #[]
  resolved := Array.replicate 204 none
  statics := none }

def pool6 : Array CpInfo := pool [(1, .class_ 2), (0, u "com/example/stroll/stroll/ExplicitMetric$Layout"), (2, u "FULL_MATRIX"), (0, u "Lcom/example/stroll/stroll/ExplicitMetric$Layout;"), (2, u "UPPER_ROW"), (2, u "UPPER_DIAG_ROW"), (2, u "LOWER_ROW"), (2, u "LOWER_DIAG_ROW"), (2, u "$VALUES"), (0, u "[Lcom/example/stroll/stroll/ExplicitMetric$Layout;"), (6, .class_ 31), (1, u "java/lang/Enum"), (6, .fieldref 1 39), (0, .nameAndType 40 41), (0, u "lower"), (0, u "Z"), (0, .fieldref 1 43), (0, .nameAndType 44 41), (0, u "diagonal"), (0, .fieldref 1 46), (0, .nameAndType 47 41), (0, u "upper"), (2, u "end"), (0, u "(II)I"), (2, u "first"), (0, u "(I)I"), (40, .class_ 97), (0, u "com/example/stroll/stroll/ExplicitMetric")] 2

def k6c0 : Code := { maxStack := 2, maxLocals := 2, code := prog_27_method_4_code, exceptionTable := #[], attributes := #[] }
def k6m0 : Method := { name := "first", desc := "(I)I", sig := { parameters := [.int], returnType := some .int }, accessFlags := 0, code := some k6c0 }
def k6c1 : Code := { maxStack := 2, maxLocals := 3, code := prog_27_method_5_code, exceptionTable := #[], attributes := #[] }
def k6m1 : Method := { name := "end", desc := "(II)I", sig := { parameters := [.int, .int], returnType := some .int }, accessFlags := 0, code := some k6c1 }
/-- com/example/stroll/stroll/ExplicitMetric$Layout -/
def k6 : Class := { plain "com/example/stroll/stroll/ExplicitMetric$Layout" (some 5) with
  accessFlags := 16432
  interfaces := #[]
  cf := some (fileOf pool6 1 #[.nestHost 96] #[{ accessFlags := 0, nameIndex := 54, descriptorIndex := 55, attributes := #[] }, { accessFlags := 0, nameIndex := 50, descriptorIndex := 51, attributes := #[] }] 16432 29 #[] #[{ accessFlags := 16409, nameIndex := 5, descriptorIndex := 6, attributes := #[] }, { accessFlags := 16409, nameIndex := 9, descriptorIndex := 6, attributes := #[] }, { accessFlags := 16409, nameIndex := 12, descriptorIndex := 6, attributes := #[] }, { accessFlags := 16409, nameIndex := 15, descriptorIndex := 6, attributes := #[] }, { accessFlags := 16409, nameIndex := 18, descriptorIndex := 6, attributes := #[] }, { accessFlags := 18, nameIndex := 40, descriptorIndex := 41, attributes := #[] }, { accessFlags := 18, nameIndex := 44, descriptorIndex := 41, attributes := #[] }, { accessFlags := 18, nameIndex := 47, descriptorIndex := 41, attributes := #[] }, { accessFlags := 4122, nameIndex := 21, descriptorIndex := 22, attributes := #[] }])
  fields := #[{ name := "FULL_MATRIX", type := (.object "com/example/stroll/stroll/ExplicitMetric$Layout"), accessFlags := 16409, slot := 0, constantValue := 0 }, { name := "UPPER_ROW", type := (.object "com/example/stroll/stroll/ExplicitMetric$Layout"), accessFlags := 16409, slot := 1, constantValue := 0 }, { name := "UPPER_DIAG_ROW", type := (.object "com/example/stroll/stroll/ExplicitMetric$Layout"), accessFlags := 16409, slot := 2, constantValue := 0 }, { name := "LOWER_ROW", type := (.object "com/example/stroll/stroll/ExplicitMetric$Layout"), accessFlags := 16409, slot := 3, constantValue := 0 }, { name := "LOWER_DIAG_ROW", type := (.object "com/example/stroll/stroll/ExplicitMetric$Layout"), accessFlags := 16409, slot := 4, constantValue := 0 }, { name := "lower", type := .boolean, accessFlags := 18, slot := 3, constantValue := 0 }, { name := "diagonal", type := .boolean, accessFlags := 18, slot := 4, constantValue := 0 }, { name := "upper", type := .boolean, accessFlags := 18, slot := 5, constantValue := 0 }, { name := "$VALUES", type := (.array (.object "com/example/stroll/stroll/ExplicitMetric$Layout")), accessFlags := 4122, slot := 5, constantValue := 0 }]
  methods := #[k6m0, k6m1]
  instanceTypes := #[(.object "java/lang/String"), .int, .int, .boolean, .boolean, .boolean]
  staticTypes := #[(.object "com/example/stroll/stroll/ExplicitMetric$Layout"), (.object "com/example/stroll/stroll/ExplicitMetric$Layout"), (.object "com/example/stroll/stroll/ExplicitMetric$Layout"), (.object "com/example/stroll/stroll/ExplicitMetric$Layout"), (.object "com/example/stroll/stroll/ExplicitMetric$Layout"), (.array (.object "com/example/stroll/stroll/ExplicitMetric$Layout"))]
  resolved := Array.replicate 100 none
  statics := some 0 }

def pool7 : Array CpInfo := pool [(1, u "java/lang/Cloneable"), (0, .class_ 1), (0, u "java/lang/Object"), (0, .class_ 3)] 3

/-- java/lang/Cloneable -/
def k7 : Class := { plain "java/lang/Cloneable" (some 0) with
  accessFlags := 1537
  interfaces := #[]
  cf := some (fileOf pool7 2 #[] #[] 1537 4 #[] #[])
  fields := #[]
  methods := #[]
  instanceTypes := #[]
  staticTypes := #[]
  resolved := Array.replicate 8 none
  statics := none }

/-- the primitive byte -/
def k8 : Class := { plain "byte" none with kind := .primitive 'B', accessFlags := 0x411 }
/-- [B -/
def k9 : Class := { plain "[B" (some 0) with kind := .array 8 .byte, interfaces := #[7, 4], accessFlags := 1041 }

/-- the primitive int -/
def k10 : Class := { plain "int" none with kind := .primitive 'I', accessFlags := 0x411 }
/-- [I -/
def k11 : Class := { plain "[I" (some 0) with kind := .array 10 .int, interfaces := #[7, 4], accessFlags := 1041 }

def heap : Heap := #[{ cls := 6, slots := #[.ref 1, .ref 4, .ref 2, .ref 5, .ref 3, .null], vm := .statics 6 },
  { cls := 6, slots := #[.null, .int 0, .int 0, .int 1, .int 1, .int 1], vm := .none },
  { cls := 6, slots := #[.null, .int 0, .int 0, .int 0, .int 1, .int 1], vm := .none },
  { cls := 6, slots := #[.null, .int 0, .int 0, .int 1, .int 1, .int 0], vm := .none },
  { cls := 6, slots := #[.null, .int 0, .int 0, .int 0, .int 0, .int 1], vm := .none },
  { cls := 6, slots := #[.null, .int 0, .int 0, .int 1, .int 0, .int 0], vm := .none }]
def classes : Array Class := #[k0, k1, k2, k3, k4, k5, k6, k7, k8, k9, k10, k11]
def interned : List (Array UInt16 × Addr) := []
def slotsUsed : Nat := 36
def theMethod : MethodId := ⟨1, 2⟩
def args0 : Array Value := #[.int 5, .int 6, .int 7, .int 8]
def aboutOver (below : List Frame) : State where
  vm := { classes := classes, interned := interned.toArray }
  heap := heap
  slotsUsed := slotsUsed
  threads := #[{ frames := .invoking theMethod args0 :: below }]
def below0 : List Frame := [.native { method := ⟨0, 0⟩, args := #[] }]
def about1 : State := aboutOver below0
def p0 : Program := .bare "" "" ""
def e0 : Env := launch0.env 0 0 0
theorem w_frames : about1.frames = Frame.invoking theMethod args0 :: below0 := rfl
set_option maxRecDepth 65536 in
theorem w_args : argsFit about1.vm theMethod args0 = true := by decide +kernel
set_option maxRecDepth 65536 in
theorem w_heap : heapFits about1 = true := by decide +kernel
set_option maxRecDepth 65536 in
theorem w_runnable : about1.curStatus? = some .runnable := by decide +kernel
set_option maxRecDepth 65536 in
theorem w_alone : about1.alone = true := by decide +kernel
set_option maxRecDepth 65536 in
theorem w_named : about1.methodNamed? x = some theMethod := by decide +kernel
set_option maxRecDepth 65536 in
theorem w_hears : about1.hears theMethod below0 = true := by decide +kernel
set_option maxRecDepth 65536 in
theorem w_ripe : about1.ripe theMethod args0 below0 = true := by decide +kernel
theorem w_running : about1.status = .running := rfl
set_option maxRecDepth 65536 in
theorem w_room : about1.hasRoom e0.platform room_1 = true :=
  launch0.hasRoom_least _ room_1 (by decide +kernel) (by decide +kernel) (by decide +kernel) (by decide +kernel) (by decide +kernel) (by decide +kernel)
theorem allAtoms_all (ts : List Jvm.Cond) (a : Array Jvm.Value) (st : Jvm.State) : (allAtoms ts).before a st = ts.all (fun c => c.before a st) := by
  induction ts with
  | nil => rfl
  | cons c t ih =>
    show (Jvm.Cond.and c (allAtoms t)).before a st = _
    rw [Jvm.Cond.before_and, ih, List.all_cons]
def words1 : List Jvm.Cond := Jvm.Cond.code x code maxLocals ret :: tables_1
/-- a 'code' word, met by the world's own term for the bytes: nothing is compared byte by byte -/
theorem code_word {y : MethodName} {bytes : ByteArray} {mx : Nat} {rt : Option FieldType} {a : Array Value} {s : State} {m : MethodId} {meth : Method} {c : Code} (h1 : s.methodNamed? y = some m) (h2 : s.vm.method? m = some meth) (h3 : meth.code = some c) (h4 : c.code = bytes)
    (h5 : (c.maxLocals == mx && c.exceptionTable.isEmpty && decide (c.maxStack ≤ mostOperands) && decide (meth.sig.returnType = rt) && !meth.locks && decide (parseMethodDescriptor y.desc = some meth.sig)) = true) : (Jvm.Cond.code y bytes mx rt).before a s = true := by
  simp only [Bool.and_eq_true, beq_iff_eq, Bool.not_eq_true', decide_eq_true_eq] at h5
  obtain ⟨⟨⟨⟨⟨g1, g2⟩, g3⟩, g4⟩, g5⟩, g6⟩ := h5
  simp [Cond.before, Cond.holds, Cond.value, h1, h2, h3, h4, g1, g2, g3, g4, g5, g6]
def isCode : Jvm.Cond → Bool
  | .code _ _ _ _ => true
  | _ => false
theorem all_split {L : List Jvm.Cond} {P : Jvm.Cond → Bool} (h1 : L.all (fun c => isCode c || P c) = true) (h2 : ∀ c ∈ L.filter isCode, P c = true) : L.all P = true := by
  refine List.all_eq_true.mpr fun c hc => ?_
  have h := List.all_eq_true.mp h1 c hc
  rcases Bool.eq_false_or_eq_true (isCode c) with hi | hi
  · exact h2 c (List.mem_filter.mpr ⟨hc, hi⟩)
  · simpa [hi] using h
set_option maxRecDepth 65536 in
theorem w_c0 : (Jvm.Cond.code x code maxLocals ret).before args0 about1 = true := code_word (m := ⟨1, 2⟩) (meth := k1m2) (c := k1c2) (by decide +kernel) rfl rfl rfl (by decide +kernel)
set_option maxRecDepth 65536 in
theorem w_c1 : (Jvm.Cond.code ({ cls := "com/example/stroll/stroll/LayoutEndPinLaw", name := "pick", desc := "(I)Lcom/example/stroll/stroll/ExplicitMetric$Layout;" } : Jvm.MethodName) method_2_code (1 : Nat) (Option.some (Jvm.ClassFile.FieldType.object "com/example/stroll/stroll/ExplicitMetric$Layout"))).before args0 about1 = true := code_word (m := ⟨1, 1⟩) (meth := k1m1) (c := k1c1) (by decide +kernel) rfl rfl rfl (by decide +kernel)
set_option maxRecDepth 65536 in
theorem w_c2 : (Jvm.Cond.code ({ cls := "com/example/stroll/stroll/ExplicitMetric$Layout", name := "end", desc := "(II)I" } : Jvm.MethodName) prog_27_method_5_code (3 : Nat) (Option.some Jvm.ClassFile.FieldType.int)).before args0 about1 = true := code_word (m := ⟨6, 1⟩) (meth := k6m1) (c := k6c1) (by decide +kernel) rfl rfl rfl (by decide +kernel)
set_option maxRecDepth 65536 in
theorem w_c3 : (Jvm.Cond.code ({ cls := "com/example/stroll/stroll/ExplicitMetric$Layout", name := "first", desc := "(I)I" } : Jvm.MethodName) prog_27_method_4_code (2 : Nat) (Option.some Jvm.ClassFile.FieldType.int)).before args0 about1 = true := code_word (m := ⟨6, 0⟩) (meth := k6m0) (c := k6c0) (by decide +kernel) rfl rfl rfl (by decide +kernel)
def codes1 : List Jvm.Cond := [Jvm.Cond.code x code maxLocals ret, Jvm.Cond.code ({ cls := "com/example/stroll/stroll/LayoutEndPinLaw", name := "pick", desc := "(I)Lcom/example/stroll/stroll/ExplicitMetric$Layout;" } : Jvm.MethodName) method_2_code (1 : Nat) (Option.some (Jvm.ClassFile.FieldType.object "com/example/stroll/stroll/ExplicitMetric$Layout")), Jvm.Cond.code ({ cls := "com/example/stroll/stroll/ExplicitMetric$Layout", name := "end", desc := "(II)I" } : Jvm.MethodName) prog_27_method_5_code (3 : Nat) (Option.some Jvm.ClassFile.FieldType.int), Jvm.Cond.code ({ cls := "com/example/stroll/stroll/ExplicitMetric$Layout", name := "first", desc := "(I)I" } : Jvm.MethodName) prog_27_method_4_code (2 : Nat) (Option.some Jvm.ClassFile.FieldType.int)]
set_option maxRecDepth 65536 in
theorem codes_eq : words1.filter isCode = codes1 := rfl
theorem w_codes : ∀ c ∈ words1.filter isCode, c.before args0 about1 = true := by
  rw [codes_eq]
  intro c hc
  simp only [codes1, List.mem_cons, List.not_mem_nil, or_false] at hc
  rcases hc with rfl | rfl | rfl | rfl
  · exact w_c0
  · exact w_c1
  · exact w_c2
  · exact w_c3
set_option maxRecDepth 65536 in
theorem w_t1 : (words1.take 24).all (fun c => isCode c || c.before args0 about1) = true := by decide +kernel
set_option maxRecDepth 65536 in
theorem w_t2 : (words1.drop 24).all (fun c => isCode c || c.before args0 about1) = true := by decide +kernel
theorem w_tables : (allAtoms (Jvm.Cond.code x code maxLocals ret :: tables_1)).before args0 about1 = true := by
  rw [allAtoms_all]
  show words1.all (fun c => c.before args0 about1) = true
  refine all_split ?_ w_codes
  rw [← List.take_append_drop 24 words1, List.all_append, w_t1, w_t2]
  rfl
set_option maxRecDepth 65536 in
theorem w_case : (Jvm.Cond.and given_1 narrow_1).before args0 about1 = true := by decide +kernel
theorem w_applies : (headSpec (Jvm.Cond.code x code maxLocals ret :: tables_1) room_1).applies x e0.platform about1 = true :=
  (Spec.applies_iff w_frames).mpr ⟨w_running, w_runnable, w_alone, w_named, w_hears, w_ripe, w_room, w_tables⟩
theorem atStart : AtStart classFile x code maxLocals ret World_1 tables_1 room_1 Calls_1 rest_1 Pre_1 launch0 p0 e0 about1 theMethod args0 below0 :=
  ⟨lists_1, trivial, launch0.admits_env _ _ _, launch0.least_env, fairChoices_fair.cas, fairChoices_fair.clock, w_frames, w_args, w_heap, w_applies, trivial, trivial, w_case⟩
end start1
theorem witness_1 : WitnessClaimed_1 := ⟨start1.p0, start1.e0, start1.about1, start1.theMethod, start1.args0, start1.below0, start1.atStart⟩
end Jvm.Pilot.@@N@@
