import JvmDerived
import JvmDerived.Pilot.@@N@@Statement
import JvmDerived.Pilot.@@N@@Code
set_option linter.unusedVariables false
set_option linter.unusedSimpArgs false

namespace Jvm.OwnKit
open Sem ClassFile Op Lib Jvm.Stand Jvm.Free Jvm.LawKit Jvm.RoadKit
section Kit
variable {p : Program} {l : Launch} {e : Env} {R : Room} {s : State} {m : MethodId} {args : Array Value} {below : List Frame} {meth : Method} {c : Code} {T : State} {locs : List Loc} {cells slots : Nat} {Z : State} {a0 : Array Value} {h : Heap} {own nm : String} {bytes : ByteArray} {maxL : Nat} {ret : Option FieldType} {P : Outcome → State → Prop} {pc pc' : Nat} {Ls Ls' : Array Slot} {rest : List Value}
/-- from here the run ends, and P holds of its end -/
def Go (p : Program) (e : Env) (below : List Frame) (P : Outcome → State → Prop) (T0 : State) : Prop := ∃ t o, Steps p.tables e below T0 t ∧ t.status = .running ∧ Ended t below o ∧ P o t
theorem Go.on {T1 T2 : State} (st : ∀ t, Steps p.tables e below T2 t → Steps p.tables e below T1 t) (k : Go p e below P T2) : Go p e below P T1 := by
  obtain ⟨t, o, h1, h2⟩ := k; exact ⟨t, o, st t h1, h2⟩
/-- what a walk knows of the method that it walks -/
def Ctx (p : Program) (s : State) (m : MethodId) (meth : Method) (c : Code) (Z : State) (own nm : String) (bytes : ByteArray) (maxL : Nat) (ret : Option FieldType) : Prop :=
  p.tables.exec = Jvm.exec ∧ c.code = bytes ∧ c.maxLocals = maxL ∧ s.vm.findClass own = some m.cls ∧ meth.name = nm ∧ meth.sig.returnType = ret ∧ meth.locks = false ∧ Z.Warmed39 s.vm
/-- what a body's end says -/
def OEnds (s : State) (Q : Option Value → Heap → List Loc → Prop) (k n : Nat) (o : Outcome) (t : State) : Prop := ∃ v L, o = .returned v ∧ Q v t.heap L ∧ FrameEnd s o t L k n
/-- a contract: called with the arguments 'as' at the heap h0 it returns as Q says -/
abbrev OMeets (l : Launch) (Z : State) (y : MethodName) (bytes : ByteArray) (maxL : Nat) (ret : Option FieldType) (ws : List Jvm.Cond) (rm : Room) (as : Array Value) (h0 : Heap) (Q : Option Value → Heap → List Loc → Prop) : Prop :=
  MetFree l y (head1 (Jvm.Cond.code y bytes maxL ret :: ws) rm) (fun a U => a = as ∧ Z.Warmed39 U.vm ∧ U.heap = h0) (fun _ _ _ _ _ => True) (fun _ U o U' => ∃ v L, o = .returned v ∧ Q v U'.heap L ∧ FrameEnd U o U' L rm.cells rm.slots)
/-- it returns r, writes nothing and makes nothing -/
def PureQ (r : Option Value) (h0 : Heap) (v : Option Value) (h : Heap) (L : List Loc) : Prop := v = r ∧ L = [] ∧ h = h0
theorem OMeets.of {y : MethodName} {ws : List Jvm.Cond} {rm : Room} {as : Array Value} {h0 : Heap} {Q : Option Value → Heap → List Loc → Prop} (hpn : plainName y.cls = true) (ls : Array Slot) (hent : ∀ m, entryFrame m as maxL = mkF m 0 ls [])
    (body : ∀ p e s m below meth c s₁, Ctx p s m meth c Z y.cls y.name bytes maxL ret → Stand p l e rm s m as below meth c s₁ [] 0 0 → s₁.heap = h0 → Go p e below (OEnds s Q rm.cells rm.slots) (s₁.setTop (mkF m 0 ls []))) : OMeets l Z y bytes maxL ret ws rm as h0 Q := by
  refine MetFree.of_bodySF (plainFor_of_name hpn) hisR ?_
  intro p e s m args below meth c s₁ Bd hml0 hP hK
  obtain ⟨rfl, hZ, hh⟩ := hP
  have e0 : s₁.heap = h0 := by rw [← hh, Bd.state]; rfl
  have X0 := Stand.of_body Bd
  have B : Ctx p s m meth c Z y.cls y.name bytes maxL ret := ⟨Bd.exec, Bd.bytes, hml0, findClass_of_methodNamed Bd.named, (name_of_methodNamed Bd.named Bd.method).1, Bd.returns, Bd.notSynchronized, hZ⟩
  obtain ⟨t, o, h1, h2, h3, h4⟩ := body p e s m below meth c s₁ B X0 e0
  exact ⟨t, o, castTop (hent m) h1, h2, h3, h4⟩
/-! the single steps -/

theorem s_iloadN (B : Ctx p s m meth c Z own nm bytes maxL ret) (X : Stand p l e R s m args below meth c T locs cells slots) {k0 : Fin 4} {v : Int32} (hd : decode bytes pc = .ok (.iload_n k0, 1)) (hl : Ls[k0.val]? = some (.val (.int v))) (hp : pc + 1 = pc') (k : Go p e below P (T.setTop (mkF m pc' Ls (.int v :: rest)))) : Go p e below P (T.setTop (mkF m pc Ls (rest))) := by
  subst hp; exact Go.on (fun t => XS.iloadN X.here B.1 rfl (hb B.2.1 hd) hl) k
theorem s_iload (B : Ctx p s m meth c Z own nm bytes maxL ret) (X : Stand p l e R s m args below meth c T locs cells slots) {k0 : Nat} {v : Int32} (hd : decode bytes pc = .ok (.iload k0, 2)) (hl : Ls[k0]? = some (.val (.int v))) (hp : pc + 2 = pc') (k : Go p e below P (T.setTop (mkF m pc' Ls (.int v :: rest)))) : Go p e below P (T.setTop (mkF m pc Ls (rest))) := by
  subst hp; exact Go.on (fun t => XS.iload X.here B.1 rfl (hb B.2.1 hd) hl) k
theorem s_istoreN (B : Ctx p s m meth c Z own nm bytes maxL ret) (X : Stand p l e R s m args below meth c T locs cells slots) {k0 : Fin 4} {v : Int32} (hd : decode bytes pc = .ok (.istore_n k0, 1)) (hl : storeLocals Ls k0.val (.int v) = some Ls') (hp : pc + 1 = pc') (k : Go p e below P (T.setTop (mkF m pc' Ls' (rest)))) : Go p e below P (T.setTop (mkF m pc Ls (.int v :: rest))) := by
  subst hp; exact Go.on (fun t => XS.istoreN X.here B.1 rfl (hb B.2.1 hd) rfl hl) k
theorem s_istore (B : Ctx p s m meth c Z own nm bytes maxL ret) (X : Stand p l e R s m args below meth c T locs cells slots) {k0 : Nat} {v : Int32} (hd : decode bytes pc = .ok (.istore k0, 2)) (hl : storeLocals Ls k0 (.int v) = some Ls') (hp : pc + 2 = pc') (k : Go p e below P (T.setTop (mkF m pc' Ls' (rest)))) : Go p e below P (T.setTop (mkF m pc Ls (.int v :: rest))) := by
  subst hp; exact Go.on (fun t => XS.istore X.here B.1 rfl (hb B.2.1 hd) rfl hl) k
theorem s_lloadN (B : Ctx p s m meth c Z own nm bytes maxL ret) (X : Stand p l e R s m args below meth c T locs cells slots) {k0 : Fin 4} {v : Int64} (hd : decode bytes pc = .ok (.lload_n k0, 1)) (hl : Ls[k0.val]? = some (.val (.long v))) (hp : pc + 1 = pc') (k : Go p e below P (T.setTop (mkF m pc' Ls (.long v :: rest)))) : Go p e below P (T.setTop (mkF m pc Ls (rest))) := by
  subst hp; exact Go.on (fun t => XS.lloadN X.here B.1 rfl (hb B.2.1 hd) hl) k
theorem s_lload (B : Ctx p s m meth c Z own nm bytes maxL ret) (X : Stand p l e R s m args below meth c T locs cells slots) {k0 : Nat} {v : Int64} (hd : decode bytes pc = .ok (.lload k0, 2)) (hl : Ls[k0]? = some (.val (.long v))) (hp : pc + 2 = pc') (k : Go p e below P (T.setTop (mkF m pc' Ls (.long v :: rest)))) : Go p e below P (T.setTop (mkF m pc Ls (rest))) := by
  subst hp; exact Go.on (fun t => XS.lload X.here B.1 rfl (hb B.2.1 hd) hl) k
theorem s_lstoreN (B : Ctx p s m meth c Z own nm bytes maxL ret) (X : Stand p l e R s m args below meth c T locs cells slots) {k0 : Fin 4} {v : Int64} (hd : decode bytes pc = .ok (.lstore_n k0, 1)) (hl : storeLocals Ls k0.val (.long v) = some Ls') (hp : pc + 1 = pc') (k : Go p e below P (T.setTop (mkF m pc' Ls' (rest)))) : Go p e below P (T.setTop (mkF m pc Ls (.long v :: rest))) := by
  subst hp; exact Go.on (fun t => XS.lstoreN X.here B.1 rfl (hb B.2.1 hd) rfl hl) k
theorem s_lstore (B : Ctx p s m meth c Z own nm bytes maxL ret) (X : Stand p l e R s m args below meth c T locs cells slots) {k0 : Nat} {v : Int64} (hd : decode bytes pc = .ok (.lstore k0, 2)) (hl : storeLocals Ls k0 (.long v) = some Ls') (hp : pc + 2 = pc') (k : Go p e below P (T.setTop (mkF m pc' Ls' (rest)))) : Go p e below P (T.setTop (mkF m pc Ls (.long v :: rest))) := by
  subst hp; exact Go.on (fun t => XS.lstore X.here B.1 rfl (hb B.2.1 hd) rfl hl) k
theorem s_aloadN (B : Ctx p s m meth c Z own nm bytes maxL ret) (X : Stand p l e R s m args below meth c T locs cells slots) {k0 : Fin 4} {v : Value} (hd : decode bytes pc = .ok (.aload_n k0, 1)) (hl : Ls[k0.val]? = some (.val v)) (hv : v.isRef = true) (hp : pc + 1 = pc') (k : Go p e below P (T.setTop (mkF m pc' Ls (v :: rest)))) : Go p e below P (T.setTop (mkF m pc Ls (rest))) := by
  subst hp; exact Go.on (fun t => XS.aloadN X.here B.1 rfl (hb B.2.1 hd) hl hv) k
theorem s_aload (B : Ctx p s m meth c Z own nm bytes maxL ret) (X : Stand p l e R s m args below meth c T locs cells slots) {k0 : Nat} {v : Value} (hd : decode bytes pc = .ok (.aload k0, 2)) (hl : Ls[k0]? = some (.val v)) (hv : v.isRef = true) (hp : pc + 2 = pc') (k : Go p e below P (T.setTop (mkF m pc' Ls (v :: rest)))) : Go p e below P (T.setTop (mkF m pc Ls (rest))) := by
  subst hp; exact Go.on (fun t => XS.aload X.here B.1 rfl (hb B.2.1 hd) hl hv) k
theorem s_astoreN (B : Ctx p s m meth c Z own nm bytes maxL ret) (X : Stand p l e R s m args below meth c T locs cells slots) {k0 : Fin 4} {v : Value} (hd : decode bytes pc = .ok (.astore_n k0, 1)) (hv : v.isRef = true) (hl : storeLocals Ls k0.val v = some Ls') (hp : pc + 1 = pc') (k : Go p e below P (T.setTop (mkF m pc' Ls' (rest)))) : Go p e below P (T.setTop (mkF m pc Ls (v :: rest))) := by
  subst hp; exact Go.on (fun t => XS.astoreN X.here B.1 rfl (hb B.2.1 hd) rfl hv hl) k
theorem s_astore (B : Ctx p s m meth c Z own nm bytes maxL ret) (X : Stand p l e R s m args below meth c T locs cells slots) {k0 : Nat} {v : Value} (hd : decode bytes pc = .ok (.astore k0, 2)) (hv : v.isRef = true) (hl : storeLocals Ls k0 v = some Ls') (hp : pc + 2 = pc') (k : Go p e below P (T.setTop (mkF m pc' Ls' (rest)))) : Go p e below P (T.setTop (mkF m pc Ls (v :: rest))) := by
  subst hp; exact Go.on (fun t => XS.astore X.here B.1 rfl (hb B.2.1 hd) rfl hv hl) k
theorem s_iconst (B : Ctx p s m meth c Z own nm bytes maxL ret) (X : Stand p l e R s m args below meth c T locs cells slots) {i : Int} {v : Int32} (hd : decode bytes pc = .ok (.iconst i, 1)) (hv : Int32.ofInt i = v) (hp : pc + 1 = pc') (k : Go p e below P (T.setTop (mkF m pc' Ls (.int v :: rest)))) : Go p e below P (T.setTop (mkF m pc Ls (rest))) := by
  subst hp; subst hv; exact Go.on (fun t => XS.iconst X.here B.1 rfl (hb B.2.1 hd)) k
theorem s_bipush (B : Ctx p s m meth c Z own nm bytes maxL ret) (X : Stand p l e R s m args below meth c T locs cells slots) {i : Int} {v : Int32} (hd : decode bytes pc = .ok (.bipush i, 2)) (hv : (Int8.ofInt i).toInt32 = v) (hp : pc + 2 = pc') (k : Go p e below P (T.setTop (mkF m pc' Ls (.int v :: rest)))) : Go p e below P (T.setTop (mkF m pc Ls (rest))) := by
  subst hp; subst hv; exact Go.on (fun t => XS.bipush X.here B.1 rfl (hb B.2.1 hd)) k
theorem s_sipush (B : Ctx p s m meth c Z own nm bytes maxL ret) (X : Stand p l e R s m args below meth c T locs cells slots) {i : Int} {v : Int32} (hd : decode bytes pc = .ok (.sipush i, 3)) (hv : (Int16.ofInt i).toInt32 = v) (hp : pc + 3 = pc') (k : Go p e below P (T.setTop (mkF m pc' Ls (.int v :: rest)))) : Go p e below P (T.setTop (mkF m pc Ls (rest))) := by
  subst hp; subst hv; exact Go.on (fun t => XS.sipush X.here B.1 rfl (hb B.2.1 hd)) k
theorem s_lconst (B : Ctx p s m meth c Z own nm bytes maxL ret) (X : Stand p l e R s m args below meth c T locs cells slots) {i : Fin 2} {v : Int64} (hd : decode bytes pc = .ok (.lconst i, 1)) (hv : Int64.ofNat i = v) (hp : pc + 1 = pc') (k : Go p e below P (T.setTop (mkF m pc' Ls (.long v :: rest)))) : Go p e below P (T.setTop (mkF m pc Ls (rest))) := by
  subst hp; subst hv; exact Go.on (fun t => XS.lconst X.here B.1 rfl (hb B.2.1 hd)) k
theorem s_aconst_null (B : Ctx p s m meth c Z own nm bytes maxL ret) (X : Stand p l e R s m args below meth c T locs cells slots)  (hd : decode bytes pc = .ok (.aconst_null, 1))  (hp : pc + 1 = pc') (k : Go p e below P (T.setTop (mkF m pc' Ls (.null :: rest)))) : Go p e below P (T.setTop (mkF m pc Ls (rest))) := by
  subst hp; exact Go.on (fun t => XS.aconstNull X.here B.1 rfl (hb B.2.1 hd)) k
theorem s_iadd (B : Ctx p s m meth c Z own nm bytes maxL ret) (X : Stand p l e R s m args below meth c T locs cells slots) {x : Int32} {y : Int32} {v : Int32} (hd : decode bytes pc = .ok (.iadd, 1)) (hv : x + y = v)  (hp : pc + 1 = pc') (k : Go p e below P (T.setTop (mkF m pc' Ls (.int v :: rest)))) : Go p e below P (T.setTop (mkF m pc Ls (.int y :: .int x :: rest))) := by
  subst hp; subst hv; exact Go.on (fun t => XS.iadd X.here B.1 rfl (hb B.2.1 hd) rfl ) k
theorem s_isub (B : Ctx p s m meth c Z own nm bytes maxL ret) (X : Stand p l e R s m args below meth c T locs cells slots) {x : Int32} {y : Int32} {v : Int32} (hd : decode bytes pc = .ok (.isub, 1)) (hv : x - y = v)  (hp : pc + 1 = pc') (k : Go p e below P (T.setTop (mkF m pc' Ls (.int v :: rest)))) : Go p e below P (T.setTop (mkF m pc Ls (.int y :: .int x :: rest))) := by
  subst hp; subst hv; exact Go.on (fun t => XS.isub X.here B.1 rfl (hb B.2.1 hd) rfl ) k
theorem s_imul (B : Ctx p s m meth c Z own nm bytes maxL ret) (X : Stand p l e R s m args below meth c T locs cells slots) {x : Int32} {y : Int32} {v : Int32} (hd : decode bytes pc = .ok (.imul, 1)) (hv : x * y = v)  (hp : pc + 1 = pc') (k : Go p e below P (T.setTop (mkF m pc' Ls (.int v :: rest)))) : Go p e below P (T.setTop (mkF m pc Ls (.int y :: .int x :: rest))) := by
  subst hp; subst hv; exact Go.on (fun t => XS.imul X.here B.1 rfl (hb B.2.1 hd) rfl ) k
theorem s_iand (B : Ctx p s m meth c Z own nm bytes maxL ret) (X : Stand p l e R s m args below meth c T locs cells slots) {x : Int32} {y : Int32} {v : Int32} (hd : decode bytes pc = .ok (.iand, 1)) (hv : x &&& y = v)  (hp : pc + 1 = pc') (k : Go p e below P (T.setTop (mkF m pc' Ls (.int v :: rest)))) : Go p e below P (T.setTop (mkF m pc Ls (.int y :: .int x :: rest))) := by
  subst hp; subst hv; exact Go.on (fun t => XS.iand X.here B.1 rfl (hb B.2.1 hd) rfl ) k
theorem s_ior (B : Ctx p s m meth c Z own nm bytes maxL ret) (X : Stand p l e R s m args below meth c T locs cells slots) {x : Int32} {y : Int32} {v : Int32} (hd : decode bytes pc = .ok (.ior, 1)) (hv : x ||| y = v)  (hp : pc + 1 = pc') (k : Go p e below P (T.setTop (mkF m pc' Ls (.int v :: rest)))) : Go p e below P (T.setTop (mkF m pc Ls (.int y :: .int x :: rest))) := by
  subst hp; subst hv; exact Go.on (fun t => XS.ior X.here B.1 rfl (hb B.2.1 hd) rfl ) k
theorem s_ixor (B : Ctx p s m meth c Z own nm bytes maxL ret) (X : Stand p l e R s m args below meth c T locs cells slots) {x : Int32} {y : Int32} {v : Int32} (hd : decode bytes pc = .ok (.ixor, 1)) (hv : x ^^^ y = v)  (hp : pc + 1 = pc') (k : Go p e below P (T.setTop (mkF m pc' Ls (.int v :: rest)))) : Go p e below P (T.setTop (mkF m pc Ls (.int y :: .int x :: rest))) := by
  subst hp; subst hv; exact Go.on (fun t => XS.ixor X.here B.1 rfl (hb B.2.1 hd) rfl ) k
theorem s_ladd (B : Ctx p s m meth c Z own nm bytes maxL ret) (X : Stand p l e R s m args below meth c T locs cells slots) {x : Int64} {y : Int64} {v : Int64} (hd : decode bytes pc = .ok (.ladd, 1)) (hv : x + y = v)  (hp : pc + 1 = pc') (k : Go p e below P (T.setTop (mkF m pc' Ls (.long v :: rest)))) : Go p e below P (T.setTop (mkF m pc Ls (.long y :: .long x :: rest))) := by
  subst hp; subst hv; exact Go.on (fun t => XS.ladd X.here B.1 rfl (hb B.2.1 hd) rfl ) k
theorem s_lsub (B : Ctx p s m meth c Z own nm bytes maxL ret) (X : Stand p l e R s m args below meth c T locs cells slots) {x : Int64} {y : Int64} {v : Int64} (hd : decode bytes pc = .ok (.lsub, 1)) (hv : x - y = v)  (hp : pc + 1 = pc') (k : Go p e below P (T.setTop (mkF m pc' Ls (.long v :: rest)))) : Go p e below P (T.setTop (mkF m pc Ls (.long y :: .long x :: rest))) := by
  subst hp; subst hv; exact Go.on (fun t => XS.lsub X.here B.1 rfl (hb B.2.1 hd) rfl ) k
theorem s_lmul (B : Ctx p s m meth c Z own nm bytes maxL ret) (X : Stand p l e R s m args below meth c T locs cells slots) {x : Int64} {y : Int64} {v : Int64} (hd : decode bytes pc = .ok (.lmul, 1)) (hv : x * y = v)  (hp : pc + 1 = pc') (k : Go p e below P (T.setTop (mkF m pc' Ls (.long v :: rest)))) : Go p e below P (T.setTop (mkF m pc Ls (.long y :: .long x :: rest))) := by
  subst hp; subst hv; exact Go.on (fun t => XS.lmul X.here B.1 rfl (hb B.2.1 hd) rfl ) k
theorem s_land (B : Ctx p s m meth c Z own nm bytes maxL ret) (X : Stand p l e R s m args below meth c T locs cells slots) {x : Int64} {y : Int64} {v : Int64} (hd : decode bytes pc = .ok (.land, 1)) (hv : x &&& y = v)  (hp : pc + 1 = pc') (k : Go p e below P (T.setTop (mkF m pc' Ls (.long v :: rest)))) : Go p e below P (T.setTop (mkF m pc Ls (.long y :: .long x :: rest))) := by
  subst hp; subst hv; exact Go.on (fun t => XS.land X.here B.1 rfl (hb B.2.1 hd) rfl ) k
theorem s_lor (B : Ctx p s m meth c Z own nm bytes maxL ret) (X : Stand p l e R s m args below meth c T locs cells slots) {x : Int64} {y : Int64} {v : Int64} (hd : decode bytes pc = .ok (.lor, 1)) (hv : x ||| y = v)  (hp : pc + 1 = pc') (k : Go p e below P (T.setTop (mkF m pc' Ls (.long v :: rest)))) : Go p e below P (T.setTop (mkF m pc Ls (.long y :: .long x :: rest))) := by
  subst hp; subst hv; exact Go.on (fun t => XS.lor X.here B.1 rfl (hb B.2.1 hd) rfl ) k
theorem s_lxor (B : Ctx p s m meth c Z own nm bytes maxL ret) (X : Stand p l e R s m args below meth c T locs cells slots) {x : Int64} {y : Int64} {v : Int64} (hd : decode bytes pc = .ok (.lxor, 1)) (hv : x ^^^ y = v)  (hp : pc + 1 = pc') (k : Go p e below P (T.setTop (mkF m pc' Ls (.long v :: rest)))) : Go p e below P (T.setTop (mkF m pc Ls (.long y :: .long x :: rest))) := by
  subst hp; subst hv; exact Go.on (fun t => XS.lxor X.here B.1 rfl (hb B.2.1 hd) rfl ) k
theorem s_idiv (B : Ctx p s m meth c Z own nm bytes maxL ret) (X : Stand p l e R s m args below meth c T locs cells slots) {x : Int32} {y : Int32} {v : Int32} (hd : decode bytes pc = .ok (.idiv, 1)) (hv : x / y = v) (hy : y ≠ 0) (hp : pc + 1 = pc') (k : Go p e below P (T.setTop (mkF m pc' Ls (.int v :: rest)))) : Go p e below P (T.setTop (mkF m pc Ls (.int y :: .int x :: rest))) := by
  subst hp; subst hv; exact Go.on (fun t => XS.idiv X.here B.1 rfl (hb B.2.1 hd) rfl hy) k
theorem s_ldiv (B : Ctx p s m meth c Z own nm bytes maxL ret) (X : Stand p l e R s m args below meth c T locs cells slots) {x : Int64} {y : Int64} {v : Int64} (hd : decode bytes pc = .ok (.ldiv, 1)) (hv : x / y = v) (hy : y ≠ 0) (hp : pc + 1 = pc') (k : Go p e below P (T.setTop (mkF m pc' Ls (.long v :: rest)))) : Go p e below P (T.setTop (mkF m pc Ls (.long y :: .long x :: rest))) := by
  subst hp; subst hv; exact Go.on (fun t => XS.ldiv X.here B.1 rfl (hb B.2.1 hd) rfl hy) k
theorem s_irem (B : Ctx p s m meth c Z own nm bytes maxL ret) (X : Stand p l e R s m args below meth c T locs cells slots) {x y v : Int32} (hd : decode bytes pc = .ok (.irem, 1)) (hv : x % y = v) (hy : y ≠ 0) (hp : pc + 1 = pc') (k : Go p e below P (T.setTop (mkF m pc' Ls (.int v :: rest)))) : Go p e below P (T.setTop (mkF m pc Ls (.int y :: .int x :: rest))) := by
  subst hp; subst hv; exact Go.on (fun t => iremM X B.1 rfl (hb B.2.1 hd) rfl hy) k
theorem s_ishl (B : Ctx p s m meth c Z own nm bytes maxL ret) (X : Stand p l e R s m args below meth c T locs cells slots) {x : Int32} {y : Int32} {v : Int32} (hd : decode bytes pc = .ok (.ishl, 1)) (hv : x <<< (y &&& 31) = v)  (hp : pc + 1 = pc') (k : Go p e below P (T.setTop (mkF m pc' Ls (.int v :: rest)))) : Go p e below P (T.setTop (mkF m pc Ls (.int y :: .int x :: rest))) := by
  subst hp; subst hv; exact Go.on (fun t => XS.ishl X.here B.1 rfl (hb B.2.1 hd) rfl ) k
theorem s_ishr (B : Ctx p s m meth c Z own nm bytes maxL ret) (X : Stand p l e R s m args below meth c T locs cells slots) {x : Int32} {y : Int32} {v : Int32} (hd : decode bytes pc = .ok (.ishr, 1)) (hv : x >>> (y &&& 31) = v)  (hp : pc + 1 = pc') (k : Go p e below P (T.setTop (mkF m pc' Ls (.int v :: rest)))) : Go p e below P (T.setTop (mkF m pc Ls (.int y :: .int x :: rest))) := by
  subst hp; subst hv; exact Go.on (fun t => XS.ishr X.here B.1 rfl (hb B.2.1 hd) rfl ) k
theorem s_iushr (B : Ctx p s m meth c Z own nm bytes maxL ret) (X : Stand p l e R s m args below meth c T locs cells slots) {x : Int32} {y : Int32} {v : Int32} (hd : decode bytes pc = .ok (.iushr, 1)) (hv : (x.toUInt32 >>> (y &&& 31).toUInt32).toInt32 = v)  (hp : pc + 1 = pc') (k : Go p e below P (T.setTop (mkF m pc' Ls (.int v :: rest)))) : Go p e below P (T.setTop (mkF m pc Ls (.int y :: .int x :: rest))) := by
  subst hp; subst hv; exact Go.on (fun t => XS.iushr X.here B.1 rfl (hb B.2.1 hd) rfl ) k
theorem s_lshl (B : Ctx p s m meth c Z own nm bytes maxL ret) (X : Stand p l e R s m args below meth c T locs cells slots) {x : Int64} {y : Int32} {v : Int64} (hd : decode bytes pc = .ok (.lshl, 1)) (hv : x <<< (y &&& 0x3f).toInt64 = v)  (hp : pc + 1 = pc') (k : Go p e below P (T.setTop (mkF m pc' Ls (.long v :: rest)))) : Go p e below P (T.setTop (mkF m pc Ls (.int y :: .long x :: rest))) := by
  subst hp; subst hv; exact Go.on (fun t => XS.lshl X.here B.1 rfl (hb B.2.1 hd) rfl ) k
theorem s_lshr (B : Ctx p s m meth c Z own nm bytes maxL ret) (X : Stand p l e R s m args below meth c T locs cells slots) {x : Int64} {y : Int32} {v : Int64} (hd : decode bytes pc = .ok (.lshr, 1)) (hv : x >>> (y &&& 0x3f).toInt64 = v)  (hp : pc + 1 = pc') (k : Go p e below P (T.setTop (mkF m pc' Ls (.long v :: rest)))) : Go p e below P (T.setTop (mkF m pc Ls (.int y :: .long x :: rest))) := by
  subst hp; subst hv; exact Go.on (fun t => XS.lshr X.here B.1 rfl (hb B.2.1 hd) rfl ) k
theorem s_lushr (B : Ctx p s m meth c Z own nm bytes maxL ret) (X : Stand p l e R s m args below meth c T locs cells slots) {x : Int64} {y : Int32} {v : Int64} (hd : decode bytes pc = .ok (.lushr, 1)) (hv : (x.toUInt64 >>> (y &&& 0x3f).toInt64.toUInt64).toInt64 = v)  (hp : pc + 1 = pc') (k : Go p e below P (T.setTop (mkF m pc' Ls (.long v :: rest)))) : Go p e below P (T.setTop (mkF m pc Ls (.int y :: .long x :: rest))) := by
  subst hp; subst hv; exact Go.on (fun t => XS.lushr X.here B.1 rfl (hb B.2.1 hd) rfl ) k
theorem s_i2b (B : Ctx p s m meth c Z own nm bytes maxL ret) (X : Stand p l e R s m args below meth c T locs cells slots) {x : Int32} {v : Int32} (hd : decode bytes pc = .ok (.i2b, 1)) (hv : x.toInt8.toInt32 = v) (hp : pc + 1 = pc') (k : Go p e below P (T.setTop (mkF m pc' Ls (.int v :: rest)))) : Go p e below P (T.setTop (mkF m pc Ls (.int x :: rest))) := by
  subst hp; subst hv; exact Go.on (fun t => XS.i2b X.here B.1 rfl (hb B.2.1 hd) rfl) k
theorem s_i2c (B : Ctx p s m meth c Z own nm bytes maxL ret) (X : Stand p l e R s m args below meth c T locs cells slots) {x : Int32} {v : Int32} (hd : decode bytes pc = .ok (.i2c, 1)) (hv : x.toUInt32.toUInt16.toUInt32.toInt32 = v) (hp : pc + 1 = pc') (k : Go p e below P (T.setTop (mkF m pc' Ls (.int v :: rest)))) : Go p e below P (T.setTop (mkF m pc Ls (.int x :: rest))) := by
  subst hp; subst hv; exact Go.on (fun t => XS.i2c X.here B.1 rfl (hb B.2.1 hd) rfl) k
theorem s_i2s (B : Ctx p s m meth c Z own nm bytes maxL ret) (X : Stand p l e R s m args below meth c T locs cells slots) {x : Int32} {v : Int32} (hd : decode bytes pc = .ok (.i2s, 1)) (hv : x.toInt16.toInt32 = v) (hp : pc + 1 = pc') (k : Go p e below P (T.setTop (mkF m pc' Ls (.int v :: rest)))) : Go p e below P (T.setTop (mkF m pc Ls (.int x :: rest))) := by
  subst hp; subst hv; exact Go.on (fun t => XS.i2s X.here B.1 rfl (hb B.2.1 hd) rfl) k
theorem s_i2l (B : Ctx p s m meth c Z own nm bytes maxL ret) (X : Stand p l e R s m args below meth c T locs cells slots) {x : Int32} {v : Int64} (hd : decode bytes pc = .ok (.i2l, 1)) (hv : x.toInt64 = v) (hp : pc + 1 = pc') (k : Go p e below P (T.setTop (mkF m pc' Ls (.long v :: rest)))) : Go p e below P (T.setTop (mkF m pc Ls (.int x :: rest))) := by
  subst hp; subst hv; exact Go.on (fun t => XS.i2l X.here B.1 rfl (hb B.2.1 hd) rfl) k
theorem s_l2i (B : Ctx p s m meth c Z own nm bytes maxL ret) (X : Stand p l e R s m args below meth c T locs cells slots) {x : Int64} {v : Int32} (hd : decode bytes pc = .ok (.l2i, 1)) (hv : x.toInt32 = v) (hp : pc + 1 = pc') (k : Go p e below P (T.setTop (mkF m pc' Ls (.int v :: rest)))) : Go p e below P (T.setTop (mkF m pc Ls (.long x :: rest))) := by
  subst hp; subst hv; exact Go.on (fun t => XS.l2i X.here B.1 rfl (hb B.2.1 hd) rfl) k
theorem s_ineg (B : Ctx p s m meth c Z own nm bytes maxL ret) (X : Stand p l e R s m args below meth c T locs cells slots) {x : Int32} {v : Int32} (hd : decode bytes pc = .ok (.ineg, 1)) (hv : -x = v) (hp : pc + 1 = pc') (k : Go p e below P (T.setTop (mkF m pc' Ls (.int v :: rest)))) : Go p e below P (T.setTop (mkF m pc Ls (.int x :: rest))) := by
  subst hp; subst hv; exact Go.on (fun t => XS.ineg X.here B.1 rfl (hb B.2.1 hd) rfl) k
theorem s_lneg (B : Ctx p s m meth c Z own nm bytes maxL ret) (X : Stand p l e R s m args below meth c T locs cells slots) {x : Int64} {v : Int64} (hd : decode bytes pc = .ok (.lneg, 1)) (hv : -x = v) (hp : pc + 1 = pc') (k : Go p e below P (T.setTop (mkF m pc' Ls (.long v :: rest)))) : Go p e below P (T.setTop (mkF m pc Ls (.long x :: rest))) := by
  subst hp; subst hv; exact Go.on (fun t => XS.lneg X.here B.1 rfl (hb B.2.1 hd) rfl) k
theorem s_lcmp (B : Ctx p s m meth c Z own nm bytes maxL ret) (X : Stand p l e R s m args below meth c T locs cells slots) {x y : Int64} (hd : decode bytes pc = .ok (.lcmp, 1))  (hp : pc + 1 = pc') (k : Go p e below P (T.setTop (mkF m pc' Ls (.int (lcmpW x y) :: rest)))) : Go p e below P (T.setTop (mkF m pc Ls (.long y :: .long x :: rest))) := by
  subst hp; exact Go.on (fun t => XS.lcmp X.here B.1 rfl (hb B.2.1 hd) rfl) k
theorem s_dup (B : Ctx p s m meth c Z own nm bytes maxL ret) (X : Stand p l e R s m args below meth c T locs cells slots) {v : Value} (hd : decode bytes pc = .ok (.dup, 1)) (hc : v.category = 1) (hp : pc + 1 = pc') (k : Go p e below P (T.setTop (mkF m pc' Ls (v :: v :: rest)))) : Go p e below P (T.setTop (mkF m pc Ls (v :: rest))) := by
  subst hp; exact Go.on (fun t => XS.dup X.here B.1 rfl (hb B.2.1 hd) rfl hc) k
theorem s_pop (B : Ctx p s m meth c Z own nm bytes maxL ret) (X : Stand p l e R s m args below meth c T locs cells slots) {v : Value} (hd : decode bytes pc = .ok (.pop, 1)) (hc : v.category = 1) (hp : pc + 1 = pc') (k : Go p e below P (T.setTop (mkF m pc' Ls (rest)))) : Go p e below P (T.setTop (mkF m pc Ls (v :: rest))) := by
  subst hp; exact Go.on (fun t => XS.pop X.here B.1 rfl (hb B.2.1 hd) rfl hc) k
theorem s_swap (B : Ctx p s m meth c Z own nm bytes maxL ret) (X : Stand p l e R s m args below meth c T locs cells slots) {v w : Value} (hd : decode bytes pc = .ok (.swap, 1)) (hc : v.category = 1) (hc2 : w.category = 1) (hp : pc + 1 = pc') (k : Go p e below P (T.setTop (mkF m pc' Ls (w :: v :: rest)))) : Go p e below P (T.setTop (mkF m pc Ls (v :: w :: rest))) := by
  subst hp; exact Go.on (fun t => XS.swap X.here B.1 rfl (hb B.2.1 hd) rfl hc hc2) k
theorem s_dup_x1 (B : Ctx p s m meth c Z own nm bytes maxL ret) (X : Stand p l e R s m args below meth c T locs cells slots) {v w : Value} (hd : decode bytes pc = .ok (.dup_x1, 1)) (hc : v.category = 1) (hc2 : w.category = 1) (hp : pc + 1 = pc') (k : Go p e below P (T.setTop (mkF m pc' Ls (v :: w :: v :: rest)))) : Go p e below P (T.setTop (mkF m pc Ls (v :: w :: rest))) := by
  subst hp; exact Go.on (fun t => XS.dupX1 X.here B.1 rfl (hb B.2.1 hd) rfl hc hc2) k
theorem s_dup2 (B : Ctx p s m meth c Z own nm bytes maxL ret) (X : Stand p l e R s m args below meth c T locs cells slots) {v w : Value} (hd : decode bytes pc = .ok (.dup2, 1)) (hc : v.category = 1) (hc2 : w.category = 1) (hp : pc + 1 = pc') (k : Go p e below P (T.setTop (mkF m pc' Ls (v :: w :: v :: w :: rest)))) : Go p e below P (T.setTop (mkF m pc Ls (v :: w :: rest))) := by
  subst hp; exact Go.on (fun t => XT.dup2 X.here B.1 rfl (hb B.2.1 hd) rfl hc hc2) k
theorem s_iinc (B : Ctx p s m meth c Z own nm bytes maxL ret) (X : Stand p l e R s m args below meth c T locs cells slots) {k0 : Nat} {i : Int} {x v : Int32} (hd : decode bytes pc = .ok (.iinc k0 i, 3)) (hl : Ls[k0]? = some (.val (.int x))) (hv : x + Int32.ofInt i = v) (hl' : storeLocals Ls k0 (.int v) = some Ls') (hp : pc + 3 = pc') (k : Go p e below P (T.setTop (mkF m pc' Ls' (rest)))) : Go p e below P (T.setTop (mkF m pc Ls (rest))) := by
  subst hp; subst hv; exact Go.on (fun t => XS.iinc X.here B.1 rfl (hb B.2.1 hd) hl hl') k
theorem s_goto (B : Ctx p s m meth c Z own nm bytes maxL ret) (X : Stand p l e R s m args below meth c T locs cells slots)  {o : Int} (hd : decode bytes pc = .ok (.goto o, 3))  (ho : 0 ≤ (pc : Int) + o) (hp : ((pc : Int) + o).toNat = pc') (k : Go p e below P (T.setTop (mkF m pc' Ls (rest)))) : Go p e below P (T.setTop (mkF m pc Ls (rest))) := Go.on (fun t => XS.goto X.here B.1 rfl rfl (hb B.2.1 hd) ho hp) k
theorem s_ifY (B : Ctx p s m meth c Z own nm bytes maxL ret) (X : Stand p l e R s m args below meth c T locs cells slots) {cd : ClassFile.Cond} {x : Int32} {o : Int} (hd : decode bytes pc = .ok (.ifCond cd o, 3)) (hc : ifCond.holds cd x = true) (ho : 0 ≤ (pc : Int) + o) (hp : ((pc : Int) + o).toNat = pc') (k : Go p e below P (T.setTop (mkF m pc' Ls (rest)))) : Go p e below P (T.setTop (mkF m pc Ls (.int x :: rest))) := Go.on (fun t => XS.ifYes X.here B.1 rfl rfl (hb B.2.1 hd) rfl hc ho hp) k
theorem s_ifN (B : Ctx p s m meth c Z own nm bytes maxL ret) (X : Stand p l e R s m args below meth c T locs cells slots) {cd : ClassFile.Cond} {x : Int32} {o : Int} (hd : decode bytes pc = .ok (.ifCond cd o, 3)) (hc : ifCond.holds cd x = false) (hp : pc + 3 = pc') (k : Go p e below P (T.setTop (mkF m pc' Ls (rest)))) : Go p e below P (T.setTop (mkF m pc Ls (.int x :: rest))) := by
  subst hp; exact Go.on (fun t => XS.ifNo X.here B.1 rfl (hb B.2.1 hd) rfl hc) k
theorem s_icmpY (B : Ctx p s m meth c Z own nm bytes maxL ret) (X : Stand p l e R s m args below meth c T locs cells slots) {cd : ClassFile.Cond} {x y : Int32} {o : Int} (hd : decode bytes pc = .ok (.if_icmp cd o, 3)) (hc : if_icmp.holds cd x y = true) (ho : 0 ≤ (pc : Int) + o) (hp : ((pc : Int) + o).toNat = pc') (k : Go p e below P (T.setTop (mkF m pc' Ls (rest)))) : Go p e below P (T.setTop (mkF m pc Ls (.int y :: .int x :: rest))) := Go.on (fun t => XS.icmpYes X.here B.1 rfl rfl (hb B.2.1 hd) rfl hc ho hp) k
theorem s_icmpN (B : Ctx p s m meth c Z own nm bytes maxL ret) (X : Stand p l e R s m args below meth c T locs cells slots) {cd : ClassFile.Cond} {x y : Int32} {o : Int} (hd : decode bytes pc = .ok (.if_icmp cd o, 3)) (hc : if_icmp.holds cd x y = false) (hp : pc + 3 = pc') (k : Go p e below P (T.setTop (mkF m pc' Ls (rest)))) : Go p e below P (T.setTop (mkF m pc Ls (.int y :: .int x :: rest))) := by
  subst hp; exact Go.on (fun t => XS.icmpNo X.here B.1 rfl (hb B.2.1 hd) rfl hc) k
theorem s_ifnullY (B : Ctx p s m meth c Z own nm bytes maxL ret) (X : Stand p l e R s m args below meth c T locs cells slots)  {o : Int} (hd : decode bytes pc = .ok (.ifnull o, 3))  (ho : 0 ≤ (pc : Int) + o) (hp : ((pc : Int) + o).toNat = pc') (k : Go p e below P (T.setTop (mkF m pc' Ls (rest)))) : Go p e below P (T.setTop (mkF m pc Ls (.null :: rest))) := Go.on (fun t => XS.ifnullYes X.here B.1 rfl rfl (hb B.2.1 hd) rfl ho hp) k
theorem s_ifnullN (B : Ctx p s m meth c Z own nm bytes maxL ret) (X : Stand p l e R s m args below meth c T locs cells slots) {b : Addr} {o : Int} (hd : decode bytes pc = .ok (.ifnull o, 3))  (hp : pc + 3 = pc') (k : Go p e below P (T.setTop (mkF m pc' Ls (rest)))) : Go p e below P (T.setTop (mkF m pc Ls (.ref b :: rest))) := by
  subst hp; exact Go.on (fun t => XS.ifnullNo X.here B.1 rfl (hb B.2.1 hd) rfl) k
theorem s_ifnonnullY (B : Ctx p s m meth c Z own nm bytes maxL ret) (X : Stand p l e R s m args below meth c T locs cells slots) {b : Addr} {o : Int} (hd : decode bytes pc = .ok (.ifnonnull o, 3))  (ho : 0 ≤ (pc : Int) + o) (hp : ((pc : Int) + o).toNat = pc') (k : Go p e below P (T.setTop (mkF m pc' Ls (rest)))) : Go p e below P (T.setTop (mkF m pc Ls (.ref b :: rest))) := Go.on (fun t => XS.ifnonnullYes X.here B.1 rfl rfl (hb B.2.1 hd) rfl ho hp) k
theorem s_ifnonnullN (B : Ctx p s m meth c Z own nm bytes maxL ret) (X : Stand p l e R s m args below meth c T locs cells slots)  {o : Int} (hd : decode bytes pc = .ok (.ifnonnull o, 3))  (hp : pc + 3 = pc') (k : Go p e below P (T.setTop (mkF m pc' Ls (rest)))) : Go p e below P (T.setTop (mkF m pc Ls (.null :: rest))) := by
  subst hp; exact Go.on (fun t => XS.ifnonnullNo X.here B.1 rfl (hb B.2.1 hd) rfl) k
theorem b_icmp_eq (B : Ctx p s m meth c Z own nm bytes maxL ret) (X : Stand p l e R s m args below meth c T locs cells slots) {x y : Int32} {o : Int} {py pn : Nat} (hd : decode bytes pc = .ok (.if_icmp .eq o, 3)) (ho : 0 ≤ (pc : Int) + o) (hy : ((pc : Int) + o).toNat = py) (hn : pc + 3 = pn) (k1 : x = y → Go p e below P (T.setTop (mkF m py Ls (rest)))) (k2 : ¬ x = y → Go p e below P (T.setTop (mkF m pn Ls (rest)))) : Go p e below P (T.setTop (mkF m pc Ls (.int y :: .int x :: rest))) := by
  by_cases q : x = y
  · exact s_icmpY B X hd (teq q).1 ho hy (k1 q)
  · exact s_icmpN B X hd (feq q).1 hn (k2 q)
theorem b_if_eq (B : Ctx p s m meth c Z own nm bytes maxL ret) (X : Stand p l e R s m args below meth c T locs cells slots) {x : Int32} {o : Int} {py pn : Nat} (hd : decode bytes pc = .ok (.ifCond .eq o, 3)) (ho : 0 ≤ (pc : Int) + o) (hy : ((pc : Int) + o).toNat = py) (hn : pc + 3 = pn) (k1 : x = 0 → Go p e below P (T.setTop (mkF m py Ls (rest)))) (k2 : ¬ x = 0 → Go p e below P (T.setTop (mkF m pn Ls (rest)))) : Go p e below P (T.setTop (mkF m pc Ls (.int x :: rest))) := by
  by_cases q : x = 0
  · exact s_ifY B X hd ((if0 _ _).trans (teq q).1) ho hy (k1 q)
  · exact s_ifN B X hd ((if0 _ _).trans (feq q).1) hn (k2 q)
theorem b_icmp_ne (B : Ctx p s m meth c Z own nm bytes maxL ret) (X : Stand p l e R s m args below meth c T locs cells slots) {x y : Int32} {o : Int} {py pn : Nat} (hd : decode bytes pc = .ok (.if_icmp .ne o, 3)) (ho : 0 ≤ (pc : Int) + o) (hy : ((pc : Int) + o).toNat = py) (hn : pc + 3 = pn) (k1 : ¬ x = y → Go p e below P (T.setTop (mkF m py Ls (rest)))) (k2 : x = y → Go p e below P (T.setTop (mkF m pn Ls (rest)))) : Go p e below P (T.setTop (mkF m pc Ls (.int y :: .int x :: rest))) := by
  by_cases q : x = y
  · exact s_icmpN B X hd (teq q).2 hn (k2 q)
  · exact s_icmpY B X hd (feq q).2 ho hy (k1 q)
theorem b_if_ne (B : Ctx p s m meth c Z own nm bytes maxL ret) (X : Stand p l e R s m args below meth c T locs cells slots) {x : Int32} {o : Int} {py pn : Nat} (hd : decode bytes pc = .ok (.ifCond .ne o, 3)) (ho : 0 ≤ (pc : Int) + o) (hy : ((pc : Int) + o).toNat = py) (hn : pc + 3 = pn) (k1 : ¬ x = 0 → Go p e below P (T.setTop (mkF m py Ls (rest)))) (k2 : x = 0 → Go p e below P (T.setTop (mkF m pn Ls (rest)))) : Go p e below P (T.setTop (mkF m pc Ls (.int x :: rest))) := by
  by_cases q : x = 0
  · exact s_ifN B X hd ((if0 _ _).trans (teq q).2) hn (k2 q)
  · exact s_ifY B X hd ((if0 _ _).trans (feq q).2) ho hy (k1 q)
theorem b_icmp_lt (B : Ctx p s m meth c Z own nm bytes maxL ret) (X : Stand p l e R s m args below meth c T locs cells slots) {x y : Int32} {o : Int} {py pn : Nat} (hd : decode bytes pc = .ok (.if_icmp .lt o, 3)) (ho : 0 ≤ (pc : Int) + o) (hy : ((pc : Int) + o).toNat = py) (hn : pc + 3 = pn) (k1 : x < y → Go p e below P (T.setTop (mkF m py Ls (rest)))) (k2 : ¬ x < y → Go p e below P (T.setTop (mkF m pn Ls (rest)))) : Go p e below P (T.setTop (mkF m pc Ls (.int y :: .int x :: rest))) := by
  by_cases q : x < y
  · exact s_icmpY B X hd (tlt q).1 ho hy (k1 q)
  · exact s_icmpN B X hd (flt q).1 hn (k2 q)
theorem b_if_lt (B : Ctx p s m meth c Z own nm bytes maxL ret) (X : Stand p l e R s m args below meth c T locs cells slots) {x : Int32} {o : Int} {py pn : Nat} (hd : decode bytes pc = .ok (.ifCond .lt o, 3)) (ho : 0 ≤ (pc : Int) + o) (hy : ((pc : Int) + o).toNat = py) (hn : pc + 3 = pn) (k1 : x < 0 → Go p e below P (T.setTop (mkF m py Ls (rest)))) (k2 : ¬ x < 0 → Go p e below P (T.setTop (mkF m pn Ls (rest)))) : Go p e below P (T.setTop (mkF m pc Ls (.int x :: rest))) := by
  by_cases q : x < 0
  · exact s_ifY B X hd ((if0 _ _).trans (tlt q).1) ho hy (k1 q)
  · exact s_ifN B X hd ((if0 _ _).trans (flt q).1) hn (k2 q)
theorem b_icmp_ge (B : Ctx p s m meth c Z own nm bytes maxL ret) (X : Stand p l e R s m args below meth c T locs cells slots) {x y : Int32} {o : Int} {py pn : Nat} (hd : decode bytes pc = .ok (.if_icmp .ge o, 3)) (ho : 0 ≤ (pc : Int) + o) (hy : ((pc : Int) + o).toNat = py) (hn : pc + 3 = pn) (k1 : ¬ x < y → Go p e below P (T.setTop (mkF m py Ls (rest)))) (k2 : x < y → Go p e below P (T.setTop (mkF m pn Ls (rest)))) : Go p e below P (T.setTop (mkF m pc Ls (.int y :: .int x :: rest))) := by
  by_cases q : x < y
  · exact s_icmpN B X hd (tlt q).2.1 hn (k2 q)
  · exact s_icmpY B X hd (flt q).2.1 ho hy (k1 q)
theorem b_if_ge (B : Ctx p s m meth c Z own nm bytes maxL ret) (X : Stand p l e R s m args below meth c T locs cells slots) {x : Int32} {o : Int} {py pn : Nat} (hd : decode bytes pc = .ok (.ifCond .ge o, 3)) (ho : 0 ≤ (pc : Int) + o) (hy : ((pc : Int) + o).toNat = py) (hn : pc + 3 = pn) (k1 : ¬ x < 0 → Go p e below P (T.setTop (mkF m py Ls (rest)))) (k2 : x < 0 → Go p e below P (T.setTop (mkF m pn Ls (rest)))) : Go p e below P (T.setTop (mkF m pc Ls (.int x :: rest))) := by
  by_cases q : x < 0
  · exact s_ifN B X hd ((if0 _ _).trans (tlt q).2.1) hn (k2 q)
  · exact s_ifY B X hd ((if0 _ _).trans (flt q).2.1) ho hy (k1 q)
theorem b_icmp_gt (B : Ctx p s m meth c Z own nm bytes maxL ret) (X : Stand p l e R s m args below meth c T locs cells slots) {x y : Int32} {o : Int} {py pn : Nat} (hd : decode bytes pc = .ok (.if_icmp .gt o, 3)) (ho : 0 ≤ (pc : Int) + o) (hy : ((pc : Int) + o).toNat = py) (hn : pc + 3 = pn) (k1 : y < x → Go p e below P (T.setTop (mkF m py Ls (rest)))) (k2 : ¬ y < x → Go p e below P (T.setTop (mkF m pn Ls (rest)))) : Go p e below P (T.setTop (mkF m pc Ls (.int y :: .int x :: rest))) := by
  by_cases q : y < x
  · exact s_icmpY B X hd (tlt q).2.2.1 ho hy (k1 q)
  · exact s_icmpN B X hd (flt q).2.2.1 hn (k2 q)
theorem b_if_gt (B : Ctx p s m meth c Z own nm bytes maxL ret) (X : Stand p l e R s m args below meth c T locs cells slots) {x : Int32} {o : Int} {py pn : Nat} (hd : decode bytes pc = .ok (.ifCond .gt o, 3)) (ho : 0 ≤ (pc : Int) + o) (hy : ((pc : Int) + o).toNat = py) (hn : pc + 3 = pn) (k1 : 0 < x → Go p e below P (T.setTop (mkF m py Ls (rest)))) (k2 : ¬ 0 < x → Go p e below P (T.setTop (mkF m pn Ls (rest)))) : Go p e below P (T.setTop (mkF m pc Ls (.int x :: rest))) := by
  by_cases q : 0 < x
  · exact s_ifY B X hd ((if0 _ _).trans (tlt q).2.2.1) ho hy (k1 q)
  · exact s_ifN B X hd ((if0 _ _).trans (flt q).2.2.1) hn (k2 q)
theorem b_icmp_le (B : Ctx p s m meth c Z own nm bytes maxL ret) (X : Stand p l e R s m args below meth c T locs cells slots) {x y : Int32} {o : Int} {py pn : Nat} (hd : decode bytes pc = .ok (.if_icmp .le o, 3)) (ho : 0 ≤ (pc : Int) + o) (hy : ((pc : Int) + o).toNat = py) (hn : pc + 3 = pn) (k1 : ¬ y < x → Go p e below P (T.setTop (mkF m py Ls (rest)))) (k2 : y < x → Go p e below P (T.setTop (mkF m pn Ls (rest)))) : Go p e below P (T.setTop (mkF m pc Ls (.int y :: .int x :: rest))) := by
  by_cases q : y < x
  · exact s_icmpN B X hd (tlt q).2.2.2 hn (k2 q)
  · exact s_icmpY B X hd (flt q).2.2.2 ho hy (k1 q)
theorem b_if_le (B : Ctx p s m meth c Z own nm bytes maxL ret) (X : Stand p l e R s m args below meth c T locs cells slots) {x : Int32} {o : Int} {py pn : Nat} (hd : decode bytes pc = .ok (.ifCond .le o, 3)) (ho : 0 ≤ (pc : Int) + o) (hy : ((pc : Int) + o).toNat = py) (hn : pc + 3 = pn) (k1 : ¬ 0 < x → Go p e below P (T.setTop (mkF m py Ls (rest)))) (k2 : 0 < x → Go p e below P (T.setTop (mkF m pn Ls (rest)))) : Go p e below P (T.setTop (mkF m pc Ls (.int x :: rest))) := by
  by_cases q : 0 < x
  · exact s_ifN B X hd ((if0 _ _).trans (tlt q).2.2.2) hn (k2 q)
  · exact s_ifY B X hd ((if0 _ _).trans (flt q).2.2.2) ho hy (k1 q)
theorem b_lcmp_eq (B : Ctx p s m meth c Z own nm bytes maxL ret) (X : Stand p l e R s m args below meth c T locs cells slots) {x y : Int64} {pc0 : Nat} {o : Int} {py pn : Nat} (hd0 : decode bytes pc0 = .ok (.lcmp, 1)) (hp0 : pc0 + 1 = pc) (hd : decode bytes pc = .ok (.ifCond .eq o, 3)) (ho : 0 ≤ (pc : Int) + o) (hy : ((pc : Int) + o).toNat = py) (hn : pc + 3 = pn) (k1 : x = y → Go p e below P (T.setTop (mkF m py Ls (rest)))) (k2 : ¬ x = y → Go p e below P (T.setTop (mkF m pn Ls (rest)))) : Go p e below P (T.setTop (mkF m pc0 Ls (.long y :: .long x :: rest))) := by
  by_cases q : x = y
  · exact s_lcmp B X hd0 hp0 (s_ifY B X hd ((if0 _ _).trans (teq ((lw_eq x y).mpr q)).1) ho hy (k1 q))
  · exact s_lcmp B X hd0 hp0 (s_ifN B X hd ((if0 _ _).trans (feq (fun z => q ((lw_eq x y).mp z))).1) hn (k2 q))
theorem b_lcmp_ne (B : Ctx p s m meth c Z own nm bytes maxL ret) (X : Stand p l e R s m args below meth c T locs cells slots) {x y : Int64} {pc0 : Nat} {o : Int} {py pn : Nat} (hd0 : decode bytes pc0 = .ok (.lcmp, 1)) (hp0 : pc0 + 1 = pc) (hd : decode bytes pc = .ok (.ifCond .ne o, 3)) (ho : 0 ≤ (pc : Int) + o) (hy : ((pc : Int) + o).toNat = py) (hn : pc + 3 = pn) (k1 : ¬ x = y → Go p e below P (T.setTop (mkF m py Ls (rest)))) (k2 : x = y → Go p e below P (T.setTop (mkF m pn Ls (rest)))) : Go p e below P (T.setTop (mkF m pc0 Ls (.long y :: .long x :: rest))) := by
  by_cases q : x = y
  · exact s_lcmp B X hd0 hp0 (s_ifN B X hd ((if0 _ _).trans (teq ((lw_eq x y).mpr q)).2) hn (k2 q))
  · exact s_lcmp B X hd0 hp0 (s_ifY B X hd ((if0 _ _).trans (feq (fun z => q ((lw_eq x y).mp z))).2) ho hy (k1 q))
theorem b_lcmp_lt (B : Ctx p s m meth c Z own nm bytes maxL ret) (X : Stand p l e R s m args below meth c T locs cells slots) {x y : Int64} {pc0 : Nat} {o : Int} {py pn : Nat} (hd0 : decode bytes pc0 = .ok (.lcmp, 1)) (hp0 : pc0 + 1 = pc) (hd : decode bytes pc = .ok (.ifCond .lt o, 3)) (ho : 0 ≤ (pc : Int) + o) (hy : ((pc : Int) + o).toNat = py) (hn : pc + 3 = pn) (k1 : x < y → Go p e below P (T.setTop (mkF m py Ls (rest)))) (k2 : ¬ x < y → Go p e below P (T.setTop (mkF m pn Ls (rest)))) : Go p e below P (T.setTop (mkF m pc0 Ls (.long y :: .long x :: rest))) := by
  by_cases q : x < y
  · exact s_lcmp B X hd0 hp0 (s_ifY B X hd ((if0 _ _).trans (tlt ((lw_lt x y).mpr q)).1) ho hy (k1 q))
  · exact s_lcmp B X hd0 hp0 (s_ifN B X hd ((if0 _ _).trans (flt (fun z => q ((lw_lt x y).mp z))).1) hn (k2 q))
theorem b_lcmp_ge (B : Ctx p s m meth c Z own nm bytes maxL ret) (X : Stand p l e R s m args below meth c T locs cells slots) {x y : Int64} {pc0 : Nat} {o : Int} {py pn : Nat} (hd0 : decode bytes pc0 = .ok (.lcmp, 1)) (hp0 : pc0 + 1 = pc) (hd : decode bytes pc = .ok (.ifCond .ge o, 3)) (ho : 0 ≤ (pc : Int) + o) (hy : ((pc : Int) + o).toNat = py) (hn : pc + 3 = pn) (k1 : ¬ x < y → Go p e below P (T.setTop (mkF m py Ls (rest)))) (k2 : x < y → Go p e below P (T.setTop (mkF m pn Ls (rest)))) : Go p e below P (T.setTop (mkF m pc0 Ls (.long y :: .long x :: rest))) := by
  by_cases q : x < y
  · exact s_lcmp B X hd0 hp0 (s_ifN B X hd ((if0 _ _).trans (tlt ((lw_lt x y).mpr q)).2.1) hn (k2 q))
  · exact s_lcmp B X hd0 hp0 (s_ifY B X hd ((if0 _ _).trans (flt (fun z => q ((lw_lt x y).mp z))).2.1) ho hy (k1 q))
theorem b_lcmp_gt (B : Ctx p s m meth c Z own nm bytes maxL ret) (X : Stand p l e R s m args below meth c T locs cells slots) {x y : Int64} {pc0 : Nat} {o : Int} {py pn : Nat} (hd0 : decode bytes pc0 = .ok (.lcmp, 1)) (hp0 : pc0 + 1 = pc) (hd : decode bytes pc = .ok (.ifCond .gt o, 3)) (ho : 0 ≤ (pc : Int) + o) (hy : ((pc : Int) + o).toNat = py) (hn : pc + 3 = pn) (k1 : y < x → Go p e below P (T.setTop (mkF m py Ls (rest)))) (k2 : ¬ y < x → Go p e below P (T.setTop (mkF m pn Ls (rest)))) : Go p e below P (T.setTop (mkF m pc0 Ls (.long y :: .long x :: rest))) := by
  by_cases q : y < x
  · exact s_lcmp B X hd0 hp0 (s_ifY B X hd ((if0 _ _).trans (tlt ((lw_gt x y).mpr q)).2.2.1) ho hy (k1 q))
  · exact s_lcmp B X hd0 hp0 (s_ifN B X hd ((if0 _ _).trans (flt (fun z => q ((lw_gt x y).mp z))).2.2.1) hn (k2 q))
theorem b_lcmp_le (B : Ctx p s m meth c Z own nm bytes maxL ret) (X : Stand p l e R s m args below meth c T locs cells slots) {x y : Int64} {pc0 : Nat} {o : Int} {py pn : Nat} (hd0 : decode bytes pc0 = .ok (.lcmp, 1)) (hp0 : pc0 + 1 = pc) (hd : decode bytes pc = .ok (.ifCond .le o, 3)) (ho : 0 ≤ (pc : Int) + o) (hy : ((pc : Int) + o).toNat = py) (hn : pc + 3 = pn) (k1 : ¬ y < x → Go p e below P (T.setTop (mkF m py Ls (rest)))) (k2 : y < x → Go p e below P (T.setTop (mkF m pn Ls (rest)))) : Go p e below P (T.setTop (mkF m pc0 Ls (.long y :: .long x :: rest))) := by
  by_cases q : y < x
  · exact s_lcmp B X hd0 hp0 (s_ifN B X hd ((if0 _ _).trans (tlt ((lw_gt x y).mpr q)).2.2.2) hn (k2 q))
  · exact s_lcmp B X hd0 hp0 (s_ifY B X hd ((if0 _ _).trans (flt (fun z => q ((lw_gt x y).mp z))).2.2.2) ho hy (k1 q))
theorem b_acmp_eq (B : Ctx p s m meth c Z own nm bytes maxL ret) (X : Stand p l e R s m args below meth c T locs cells slots) {a b : Addr} {o : Int} {py pn : Nat} (hd : decode bytes pc = .ok (.if_acmp .eq o, 3)) (ho : 0 ≤ (pc : Int) + o) (hy : ((pc : Int) + o).toNat = py) (hn : pc + 3 = pn) (k1 : a = b → Go p e below P (T.setTop (mkF m py Ls (rest)))) (k2 : ¬ a = b → Go p e below P (T.setTop (mkF m pn Ls (rest)))) : Go p e below P (T.setTop (mkF m pc Ls (.ref b :: .ref a :: rest))) := by
  by_cases q : a = b
  · exact Go.on (fun t => Jvm.RoadKit.acmp X B.1 rfl rfl rfl (same := true) rfl (hb B.2.1 hd) rfl (decide_eq_true (congrArg Value.ref q)) ho (by simp [acV, hy])) (k1 q)
  · exact Go.on (fun t => Jvm.RoadKit.acmp X B.1 rfl rfl rfl (same := false) rfl (hb B.2.1 hd) rfl (decide_eq_false fun z => q (Value.ref.inj z)) ho (by simp [acV, hn])) (k2 q)
theorem b_acmp_ne (B : Ctx p s m meth c Z own nm bytes maxL ret) (X : Stand p l e R s m args below meth c T locs cells slots) {a b : Addr} {o : Int} {py pn : Nat} (hd : decode bytes pc = .ok (.if_acmp .ne o, 3)) (ho : 0 ≤ (pc : Int) + o) (hy : ((pc : Int) + o).toNat = py) (hn : pc + 3 = pn) (k1 : ¬ a = b → Go p e below P (T.setTop (mkF m py Ls (rest)))) (k2 : a = b → Go p e below P (T.setTop (mkF m pn Ls (rest)))) : Go p e below P (T.setTop (mkF m pc Ls (.ref b :: .ref a :: rest))) := by
  by_cases q : a = b
  · exact Go.on (fun t => Jvm.RoadKit.acmp X B.1 rfl rfl rfl (same := true) rfl (hb B.2.1 hd) rfl (decide_eq_true (congrArg Value.ref q)) ho (by simp [acV, hn])) (k2 q)
  · exact Go.on (fun t => Jvm.RoadKit.acmp X B.1 rfl rfl rfl (same := false) rfl (hb B.2.1 hd) rfl (decide_eq_false fun z => q (Value.ref.inj z)) ho (by simp [acV, hy])) (k1 q)
theorem b_ifnull (B : Ctx p s m meth c Z own nm bytes maxL ret) (X : Stand p l e R s m args below meth c T locs cells slots) {v : Value} {o : Int} {py pn : Nat} (hv : v.isRef = true) (hd : decode bytes pc = .ok (.ifnull o, 3)) (ho : 0 ≤ (pc : Int) + o) (hy : ((pc : Int) + o).toNat = py) (hn : pc + 3 = pn) (k1 : v = .null → Go p e below P (T.setTop (mkF m py Ls (rest)))) (k2 : ¬ v = .null → Go p e below P (T.setTop (mkF m pn Ls (rest)))) : Go p e below P (T.setTop (mkF m pc Ls (v :: rest))) := by
  rcases ref_cases hv with rfl | ⟨a, rfl⟩
  · exact s_ifnullY B X hd ho hy (k1 rfl)
  · exact s_ifnullN B X hd hn (k2 nofun)
theorem b_ifnonnull (B : Ctx p s m meth c Z own nm bytes maxL ret) (X : Stand p l e R s m args below meth c T locs cells slots) {v : Value} {o : Int} {py pn : Nat} (hv : v.isRef = true) (hd : decode bytes pc = .ok (.ifnonnull o, 3)) (ho : 0 ≤ (pc : Int) + o) (hy : ((pc : Int) + o).toNat = py) (hn : pc + 3 = pn) (k1 : ¬ v = .null → Go p e below P (T.setTop (mkF m py Ls (rest)))) (k2 : v = .null → Go p e below P (T.setTop (mkF m pn Ls (rest)))) : Go p e below P (T.setTop (mkF m pc Ls (v :: rest))) := by
  rcases ref_cases hv with rfl | ⟨a, rfl⟩
  · exact s_ifnonnullN B X hd hn (k2 rfl)
  · exact s_ifnonnullY B X hd ho hy (k1 nofun)
theorem s_ldc (B : Ctx p s m meth c Z own nm bytes maxL ret) (X : Stand p l e R s m args below meth c T locs cells slots) {i : Nat} {v : Int32} (w : (Jvm.Cond.constant own i v).before a0 Z = true) (hd : decode bytes pc = .ok (.ldc i, 2)) (hp : pc + 2 = pc') (k : Go p e below P (T.setTop (mkF m pc' Ls (.int v :: rest)))) : Go p e below P (T.setTop (mkF m pc Ls (rest))) := by
  subst hp; exact Go.on (fun t => X.ldcI B.1 B.2.2.2.1 (mv B.2.2.2.2.2.2.2 w) rfl (hb B.2.1 hd)) k
theorem s_ldc2 (B : Ctx p s m meth c Z own nm bytes maxL ret) (X : Stand p l e R s m args below meth c T locs cells slots) {i : Nat} {v : Int64} (w : (Jvm.Cond.constantLong own i v).before a0 Z = true) (hd : decode bytes pc = .ok (.ldc2_w i, 3)) (hp : pc + 3 = pc') (k : Go p e below P (T.setTop (mkF m pc' Ls (.long v :: rest)))) : Go p e below P (T.setTop (mkF m pc Ls (rest))) := by
  subst hp; exact Go.on (fun t => X.ldc2J B.1 B.2.2.2.1 (mv B.2.2.2.2.2.2.2 w) rfl (hb B.2.1 hd)) k
theorem s_getS (B : Ctx p s m meth c Z own nm bytes maxL ret) (X : Stand p l e R s m args below meth c T locs cells slots) {i : Nat} {R0 O n d : String} {v : Value} (eT : T.heap = h) (w : (Jvm.Cond.fieldLink own i R0 n d).before a0 Z = true) (via : Via Z R0 O n d) (F : Sta Z h O n d v) (hd : decode bytes pc = .ok (.getstatic i, 3)) (hp : pc + 3 = pc') (k : ∀ T', Stand p l e R s m args below meth c T' locs cells slots → T'.heap = h → Go p e below P (T'.setTop (mkF m pc' Ls (v :: rest)))) : Go p e below P (T.setTop (mkF m pc Ls (rest))) := by
  subst hp
  obtain ⟨T', X', e', st⟩ := getS X B.1 B.2.2.2.2.2.2.2 (host := "") B.2.2.2.1 w via eT F (g := mkF m pc Ls rest) rfl (hb B.2.1 hd)
  exact Go.on st (k T' X' e')
theorem s_getF (B : Ctx p s m meth c Z own nm bytes maxL ret) (X : Stand p l e R s m args below meth c T locs cells slots) {i : Nat} {R0 O n d host : String} {a : Addr} {v : Value} (eT : T.heap = h) (w : (Jvm.Cond.fieldLink own i R0 n d).before a0 Z = true ∨ (Jvm.Cond.fieldLinkNest own i R0 n d host).before a0 Z = true) (via : Via Z R0 O n d) (F : Fld Z h a O n d v) (hd : decode bytes pc = .ok (.getfield i, 3)) (hp : pc + 3 = pc') (k : ∀ T', Stand p l e R s m args below meth c T' locs cells slots → T'.heap = h → Go p e below P (T'.setTop (mkF m pc' Ls (v :: rest)))) : Go p e below P (T.setTop (mkF m pc Ls (.ref a :: rest))) := by
  subst hp
  obtain ⟨T', X', e', st⟩ := getF X B.1 B.2.2.2.2.2.2.2 B.2.2.2.1 w via eT F (g := mkF m pc Ls (.ref a :: rest)) rfl rfl (hb B.2.1 hd)
  exact Go.on st (k T' X' e')
theorem r_nar (B : Ctx p s m meth c Z own nm bytes maxL ret) (X : Stand p l e R s m args below meth c T locs cells slots) {Q : Option Value → Heap → List Loc → Prop} {kc kn : Nat} {z : Int32} {t : FieldType} (ht : t = .boolean ∨ t = .byte ∨ t = .char ∨ t = .short) (hr : ret = some t) (hd : decode bytes pc = .ok (.ireturn, 1)) (hq : Q (some (.int (nar t z))) T.heap locs) (hc : cells ≤ kc) (hs : slots ≤ kn) : Go p e below (OEnds s Q kc kn) (T.setTop (mkF m pc Ls (.int z :: rest))) := by
  obtain ⟨fs, hl, hrun, hended, hW, hsame⟩ := X.leave (v := (some (.int (nar t z)))) (fun h => by rw [B.2.2.2.2.2.1, hr] at h; first | rfl | cases h) B.2.2.2.2.2.2.1
  exact ⟨_, _, retN X B.1 (by rw [B.2.2.2.2.2.1, hr]) ht (hb B.2.1 hd) hl, hrun, hended, _, _, rfl, hq, ⟨_, rfl⟩, hW, hsame.mono hc hs⟩
theorem r_int (B : Ctx p s m meth c Z own nm bytes maxL ret) (X : Stand p l e R s m args below meth c T locs cells slots) {Q : Option Value → Heap → List Loc → Prop} {kc kn : Nat} {z : Int32} (hr : ret = some .int) (hd : decode bytes pc = .ok (.ireturn, 1)) (hq : Q (some (.int z)) T.heap locs) (hc : cells ≤ kc) (hs : slots ≤ kn) : Go p e below (OEnds s Q kc kn) (T.setTop (mkF m pc Ls (.int z :: rest))) := by
  obtain ⟨fs, hl, hrun, hended, hW, hsame⟩ := X.leave (v := (some (.int z))) (fun h => by rw [B.2.2.2.2.2.1, hr] at h; first | rfl | cases h) B.2.2.2.2.2.2.1
  exact ⟨_, _, retOut X B.1 (t := .int) (by rw [B.2.2.2.2.2.1, hr]) rfl (Or.inl ⟨rfl, Or.inl rfl, _, rfl⟩) (hb B.2.1 hd) hl, hrun, hended, _, _, rfl, hq, ⟨_, rfl⟩, hW, hsame.mono hc hs⟩
theorem r_long (B : Ctx p s m meth c Z own nm bytes maxL ret) (X : Stand p l e R s m args below meth c T locs cells slots) {Q : Option Value → Heap → List Loc → Prop} {kc kn : Nat} {z : Int64} (hr : ret = some .long) (hd : decode bytes pc = .ok (.lreturn, 1)) (hq : Q (some (.long z)) T.heap locs) (hc : cells ≤ kc) (hs : slots ≤ kn) : Go p e below (OEnds s Q kc kn) (T.setTop (mkF m pc Ls (.long z :: rest))) := by
  obtain ⟨fs, hl, hrun, hended, hW, hsame⟩ := X.leave (v := (some (.long z))) (fun h => by rw [B.2.2.2.2.2.1, hr] at h; first | rfl | cases h) B.2.2.2.2.2.2.1
  exact ⟨_, _, retOut X B.1 (t := .long) (by rw [B.2.2.2.2.2.1, hr]) rfl (Or.inr (Or.inl ⟨rfl, rfl, _, rfl⟩)) (hb B.2.1 hd) hl, hrun, hended, _, _, rfl, hq, ⟨_, rfl⟩, hW, hsame.mono hc hs⟩
theorem r_ref (B : Ctx p s m meth c Z own nm bytes maxL ret) (X : Stand p l e R s m args below meth c T locs cells slots) {Q : Option Value → Heap → List Loc → Prop} {kc kn : Nat} {v : Value} {t : FieldType} (ht : t.isReference = true) (hn : narrow t v = v) (hv : v.isRef = true) (hr : ret = some t) (hd : decode bytes pc = .ok (.areturn, 1)) (hq : Q (some v) T.heap locs) (hc : cells ≤ kc) (hs : slots ≤ kn) : Go p e below (OEnds s Q kc kn) (T.setTop (mkF m pc Ls (v :: rest))) := by
  obtain ⟨fs, hl, hrun, hended, hW, hsame⟩ := X.leave (v := (some v)) (fun h => by rw [B.2.2.2.2.2.1, hr] at h; first | rfl | cases h) B.2.2.2.2.2.2.1
  exact ⟨_, _, retOut X B.1 (t := t) (by rw [B.2.2.2.2.2.1, hr]) hn (Or.inr (Or.inr (Or.inr (Or.inr ⟨rfl, ht, hv⟩)))) (hb B.2.1 hd) hl, hrun, hended, _, _, rfl, hq, ⟨_, rfl⟩, hW, hsame.mono hc hs⟩
theorem r_void (B : Ctx p s m meth c Z own nm bytes maxL ret) (X : Stand p l e R s m args below meth c T locs cells slots) {Q : Option Value → Heap → List Loc → Prop} {kc kn : Nat} (hr : ret = none) (hd : decode bytes pc = .ok (.return_, 1)) (hq : Q none T.heap locs) (hc : cells ≤ kc) (hs : slots ≤ kn) : Go p e below (OEnds s Q kc kn) (T.setTop (mkF m pc Ls [])) := by
  obtain ⟨fs, hl, hrun, hended, hW, hsame⟩ := X.leave (v := none) (fun _ => rfl) B.2.2.2.2.2.2.1
  exact ⟨_, _, X.returnOut B.1 (by rw [B.2.2.2.2.2.1, hr]) (hb B.2.1 hd) hl, hrun, hended, _, _, rfl, hq, ⟨_, rfl⟩, hW, hsame.mono hc hs⟩
theorem c_virtual (B : Ctx p s m meth c Z own nm bytes maxL ret) (X : Stand p l e R s m args below meth c T locs cells slots) {y : MethodName} {bs : ByteArray} {mx : Nat} {rt : Option FieldType} {rm : Room} {i W : Nat} {argsL under : List Value} {Q : Option Value → Heap → List Loc → Prop} {st : List Value} {C : String} {b : Addr} (eT : T.heap = h) (w1 : (Jvm.Cond.methodLink own i y).before a0 Z = true) (w2 : (Jvm.Cond.declares y).before a0 Z = true) (w3 : (Jvm.Cond.selects C y y).before a0 Z = true) (w4 : (Jvm.Cond.instanceMethod y).before a0 Z = true) (wc : (Jvm.Cond.code y bs mx rt).before a0 Z = true) (wz : (Jvm.Cond.initialized y.cls).before a0 Z = true) (hy : y.cls ≠ "java/lang/invoke/MethodHandle" ∧ y.cls ≠ "java/lang/invoke/VarHandle") (hM : OMeets l Z y bs mx rt [] rm (.ref b :: argsL).toArray h Q) (E : Exa Z h b C) (hlen : ∀ sig, parseMethodDescriptor y.desc = some sig → argsL.length = sig.parameters.length) (hst : st = argsL.reverse ++ .ref b :: under) (hW : (under.map fun v => v.category).sum = W) (hf : rm.frames + 1 ≤ R.frames) (hlo : W + (mx + 11) + rm.locals ≤ R.locals) (hce : cells + rm.cells ≤ R.cells) (hsl : slots + rm.slots ≤ R.slots) (hsz : Ls.size = maxL) (hd : decode bytes pc = .ok (.invokevirtual i, 3)) (hp : pc + 3 = pc') (k : ∀ v T' L, Stand p l e R s m args below meth c T' (locs ++ L) (cells + rm.cells) (slots + rm.slots) → Q v T'.heap L → Go p e below P (T'.setTop (mkF m pc' Ls (v.toList ++ under)))) : Go p e below P (T.setTop (mkF m pc Ls st)) := by
  subst hp hst
  obtain ⟨cq, kq, qa, qb, qc⟩ := isOf B.2.2.2.2.2.2.2 eT E
  obtain ⟨v, _, ⟨T', L', k', n'⟩, -, X', ⟨Lc, hQ, l', y', z'⟩, st'⟩ := X.virtualBack B.1 (y := y) B.2.2.2.1 (mvT B.2.2.2.2.2.2.2 w1) (mvT B.2.2.2.2.2.2.2 w2) (notFace_of_selects (args := #[]) (mvT B.2.2.2.2.2.2.2 w3)) (mvT B.2.2.2.2.2.2.2 w3) (mvT B.2.2.2.2.2.2.2 w4) hy (z := y) (backOf (W := W) hM B.2.2.2.2.2.2.2 wc wz hf hlo) qa qc (g := mkF m pc Ls (argsL.reverse ++ .ref b :: under)) rfl (by rw [B.2.2.1]; exact hsz) (Steps.refl _) (argsL := argsL) (rest := under) hlen rfl (by show 2 * 0 + _ ≤ _; rw [Nat.mul_zero, Nat.zero_add]; exact Nat.le_of_eq hW) (hb B.2.1 hd) (fun _ _ => ⟨rfl, eT, hce, hsl⟩)
  dsimp only [Pt.U, Pt.locs, Pt.cells, Pt.slots] at X' l' y' z' st' hQ
  subst l' y' z'
  exact Go.on (fun t q => st'.trans q) (k v T' Lc X' hQ)
theorem c_static (B : Ctx p s m meth c Z own nm bytes maxL ret) (X : Stand p l e R s m args below meth c T locs cells slots) {y : MethodName} {bs : ByteArray} {mx : Nat} {rt : Option FieldType} {rm : Room} {i W : Nat} {argsL under : List Value} {Q : Option Value → Heap → List Loc → Prop} {st : List Value} (eT : T.heap = h) (w1 : (Jvm.Cond.methodLink own i y).before a0 Z = true) (w2 : (Jvm.Cond.static y).before a0 Z = true) (wc : (Jvm.Cond.code y bs mx rt).before a0 Z = true) (wz : (Jvm.Cond.initialized y.cls).before a0 Z = true) (hy : y.cls ≠ "java/lang/invoke/MethodHandle" ∧ y.cls ≠ "java/lang/invoke/VarHandle") (hM : OMeets l Z y bs mx rt [] rm argsL.toArray h Q) (hlen : ∀ sig, parseMethodDescriptor y.desc = some sig → argsL.length = sig.parameters.length) (hst : st = argsL.reverse ++ under) (hW : (under.map fun v => v.category).sum = W) (hf : rm.frames + 1 ≤ R.frames) (hlo : W + (mx + 11) + rm.locals ≤ R.locals) (hce : cells + rm.cells ≤ R.cells) (hsl : slots + rm.slots ≤ R.slots) (hsz : Ls.size = maxL) (hd : decode bytes pc = .ok (.invokestatic i, 3)) (hp : pc + 3 = pc') (k : ∀ v T' L, Stand p l e R s m args below meth c T' (locs ++ L) (cells + rm.cells) (slots + rm.slots) → Q v T'.heap L → Go p e below P (T'.setTop (mkF m pc' Ls (v.toList ++ under)))) : Go p e below P (T.setTop (mkF m pc Ls st)) := by
  subst hp hst
  obtain ⟨v, _, ⟨T', L', k', n'⟩, -, X', ⟨Lc, hQ, l', y', z'⟩, st'⟩ := Jvm.LawKit.callS X B.1 (y := y) B.2.2.2.1 (mvT B.2.2.2.2.2.2.2 w1) (mvT B.2.2.2.2.2.2.2 w2) (mvT B.2.2.2.2.2.2.2 wz) (mvT B.2.2.2.2.2.2.2 wc) hy (backOf (W := W) hM B.2.2.2.2.2.2.2 wc wz hf hlo) (g := mkF m pc Ls (argsL.reverse ++ under)) rfl (by rw [B.2.2.1]; exact hsz) (argsL := argsL) (rest := under) hlen rfl (by show 2 * 0 + _ ≤ _; rw [Nat.mul_zero, Nat.zero_add]; exact Nat.le_of_eq hW) (hb B.2.1 hd) (fun _ _ => ⟨rfl, eT, hce, hsl⟩)
  dsimp only [Pt.U, Pt.locs, Pt.cells, Pt.slots] at X' l' y' z' st' hQ
  subst l' y' z'
  exact Go.on st' (k v T' Lc X' hQ)
theorem c_init (B : Ctx p s m meth c Z own nm bytes maxL ret) (X : Stand p l e R s m args below meth c T locs cells slots) {y : MethodName} {bs : ByteArray} {mx : Nat} {rm : Room} {i W : Nat} {argsL under : List Value} {Q : Option Value → Heap → List Loc → Prop} {st : List Value} {b : Addr} (eT : T.heap = h) (hy1 : y.name = "<init>") (w1 : (Jvm.Cond.methodLink own i y).before a0 Z = true) (w2 : (Jvm.Cond.instanceMethod y).before a0 Z = true) (wc : (Jvm.Cond.code y bs mx none).before a0 Z = true) (wz : (Jvm.Cond.initialized y.cls).before a0 Z = true) (hy : y.cls ≠ "java/lang/invoke/MethodHandle" ∧ y.cls ≠ "java/lang/invoke/VarHandle") (hM : OMeets l Z y bs mx none [] rm (.ref b :: argsL).toArray h Q) (hlen : ∀ sig, parseMethodDescriptor y.desc = some sig → argsL.length = sig.parameters.length) (hst : st = argsL.reverse ++ .ref b :: under) (hW : (under.map fun v => v.category).sum = W) (hf : rm.frames + 1 ≤ R.frames) (hlo : W + (mx + 11) + rm.locals ≤ R.locals) (hce : cells + rm.cells ≤ R.cells) (hsl : slots + rm.slots ≤ R.slots) (hsz : Ls.size = maxL) (hd : decode bytes pc = .ok (.invokespecial i, 3)) (hp : pc + 3 = pc') (k : ∀ v T' L, Stand p l e R s m args below meth c T' (locs ++ L) (cells + rm.cells) (slots + rm.slots) → Q v T'.heap L → Go p e below P (T'.setTop (mkF m pc' Ls (v.toList ++ under)))) : Go p e below P (T.setTop (mkF m pc Ls st)) := by
  subst hp hst
  obtain ⟨v, _, ⟨T', L', k', n'⟩, -, X', ⟨Lc, hQ, l', y', z'⟩, st'⟩ := X.specialBack B.1 (y := y) hy1 B.2.2.2.1 (mvT B.2.2.2.2.2.2.2 w1) (mvT B.2.2.2.2.2.2.2 w2) (mvT B.2.2.2.2.2.2.2 wc) hy (backOf (W := W) hM B.2.2.2.2.2.2.2 wc wz hf hlo) (g := mkF m pc Ls (argsL.reverse ++ .ref b :: under)) rfl (by rw [B.2.2.1]; exact hsz) (Steps.refl _) (a := b) (argsL := argsL) (rest := under) hlen rfl (by show 2 * 0 + _ ≤ _; rw [Nat.mul_zero, Nat.zero_add]; exact Nat.le_of_eq hW) (hb B.2.1 hd) (fun _ _ => ⟨rfl, eT, hce, hsl⟩)
  dsimp only [Pt.U, Pt.locs, Pt.cells, Pt.slots] at X' l' y' z' st' hQ
  subst l' y' z'
  exact Go.on (fun t q => st'.trans q) (k v T' Lc X' hQ)
theorem p_virtual (B : Ctx p s m meth c Z own nm bytes maxL ret) (X : Stand p l e R s m args below meth c T locs cells slots) {y : MethodName} {bs : ByteArray} {mx : Nat} {rt : Option FieldType} {rm : Room} {i W : Nat} {argsL under : List Value} {st : List Value} {C : String} {b : Addr} {r : Option Value} (eT : T.heap = h) (w1 : (Jvm.Cond.methodLink own i y).before a0 Z = true) (w2 : (Jvm.Cond.declares y).before a0 Z = true) (w3 : (Jvm.Cond.selects C y y).before a0 Z = true) (w4 : (Jvm.Cond.instanceMethod y).before a0 Z = true) (wc : (Jvm.Cond.code y bs mx rt).before a0 Z = true) (wz : (Jvm.Cond.initialized y.cls).before a0 Z = true) (hy : y.cls ≠ "java/lang/invoke/MethodHandle" ∧ y.cls ≠ "java/lang/invoke/VarHandle") (hM : OMeets l Z y bs mx rt [] rm (.ref b :: argsL).toArray h (PureQ r h)) (E : Exa Z h b C) (hlen : ∀ sig, parseMethodDescriptor y.desc = some sig → argsL.length = sig.parameters.length) (hst : st = argsL.reverse ++ .ref b :: under) (hW : (under.map fun v => v.category).sum = W) (hf : rm.frames + 1 ≤ R.frames) (hlo : W + (mx + 11) + rm.locals ≤ R.locals) (hce : rm.cells = 0) (hsl : rm.slots = 0) (hc0 : cells ≤ R.cells) (hs0 : slots ≤ R.slots) (hsz : Ls.size = maxL) (hd : decode bytes pc = .ok (.invokevirtual i, 3)) (hp : pc + 3 = pc') (k : ∀ T', Stand p l e R s m args below meth c T' locs cells slots → T'.heap = h → Go p e below P (T'.setTop (mkF m pc' Ls (r.toList ++ under)))) : Go p e below P (T.setTop (mkF m pc Ls st)) := by
  refine c_virtual B X eT w1 w2 w3 w4 wc wz hy hM E hlen hst hW hf hlo (by omega) (by omega) hsz hd hp ?_
  intro v T' L X' hQ
  obtain ⟨rfl, rfl, e'⟩ := hQ
  rw [hce, hsl, List.append_nil] at X'
  exact k T' X' e'
theorem p_static (B : Ctx p s m meth c Z own nm bytes maxL ret) (X : Stand p l e R s m args below meth c T locs cells slots) {y : MethodName} {bs : ByteArray} {mx : Nat} {rt : Option FieldType} {rm : Room} {i W : Nat} {argsL under : List Value} {st : List Value}  {r : Option Value} (eT : T.heap = h) (w1 : (Jvm.Cond.methodLink own i y).before a0 Z = true) (w2 : (Jvm.Cond.static y).before a0 Z = true) (wc : (Jvm.Cond.code y bs mx rt).before a0 Z = true) (wz : (Jvm.Cond.initialized y.cls).before a0 Z = true) (hy : y.cls ≠ "java/lang/invoke/MethodHandle" ∧ y.cls ≠ "java/lang/invoke/VarHandle") (hM : OMeets l Z y bs mx rt [] rm argsL.toArray h (PureQ r h))  (hlen : ∀ sig, parseMethodDescriptor y.desc = some sig → argsL.length = sig.parameters.length) (hst : st = argsL.reverse ++ under) (hW : (under.map fun v => v.category).sum = W) (hf : rm.frames + 1 ≤ R.frames) (hlo : W + (mx + 11) + rm.locals ≤ R.locals) (hce : rm.cells = 0) (hsl : rm.slots = 0) (hc0 : cells ≤ R.cells) (hs0 : slots ≤ R.slots) (hsz : Ls.size = maxL) (hd : decode bytes pc = .ok (.invokestatic i, 3)) (hp : pc + 3 = pc') (k : ∀ T', Stand p l e R s m args below meth c T' locs cells slots → T'.heap = h → Go p e below P (T'.setTop (mkF m pc' Ls (r.toList ++ under)))) : Go p e below P (T.setTop (mkF m pc Ls st)) := by
  refine c_static B X eT w1 w2 wc wz hy hM hlen hst hW hf hlo (by omega) (by omega) hsz hd hp ?_
  intro v T' L X' hQ
  obtain ⟨rfl, rfl, e'⟩ := hQ
  rw [hce, hsl, List.append_nil] at X'
  exact k T' X' e'
theorem p_init (B : Ctx p s m meth c Z own nm bytes maxL ret) (X : Stand p l e R s m args below meth c T locs cells slots) {y : MethodName} {bs : ByteArray} {mx : Nat} {rm : Room} {i W : Nat} {argsL under : List Value} {st : List Value} {b : Addr} (eT : T.heap = h) (hy1 : y.name = "<init>") (w1 : (Jvm.Cond.methodLink own i y).before a0 Z = true) (w2 : (Jvm.Cond.instanceMethod y).before a0 Z = true) (wc : (Jvm.Cond.code y bs mx none).before a0 Z = true) (wz : (Jvm.Cond.initialized y.cls).before a0 Z = true) (hy : y.cls ≠ "java/lang/invoke/MethodHandle" ∧ y.cls ≠ "java/lang/invoke/VarHandle") (hM : OMeets l Z y bs mx none [] rm (.ref b :: argsL).toArray h (PureQ none h)) (hlen : ∀ sig, parseMethodDescriptor y.desc = some sig → argsL.length = sig.parameters.length) (hst : st = argsL.reverse ++ .ref b :: under) (hW : (under.map fun v => v.category).sum = W) (hf : rm.frames + 1 ≤ R.frames) (hlo : W + (mx + 11) + rm.locals ≤ R.locals) (hce : rm.cells = 0) (hsl : rm.slots = 0) (hc0 : cells ≤ R.cells) (hs0 : slots ≤ R.slots) (hsz : Ls.size = maxL) (hd : decode bytes pc = .ok (.invokespecial i, 3)) (hp : pc + 3 = pc') (k : ∀ T', Stand p l e R s m args below meth c T' locs cells slots → T'.heap = h → Go p e below P (T'.setTop (mkF m pc' Ls under))) : Go p e below P (T.setTop (mkF m pc Ls st)) := by
  refine c_init B X eT hy1 w1 w2 wc wz hy hM hlen hst hW hf hlo (by omega) (by omega) hsz hd hp ?_
  intro v T' L X' hQ
  obtain ⟨rfl, rfl, e'⟩ := hQ
  rw [hce, hsl, List.append_nil] at X'
  exact k T' X' e'
theorem c_virtualUp (B : Ctx p s m meth c Z own nm bytes maxL ret) (X : Stand p l e R s m args below meth c T locs cells slots) {y z : MethodName} {bs : ByteArray} {mx : Nat} {rt : Option FieldType} {rm : Room} {i W : Nat} {argsL under : List Value} {Q : Option Value → Heap → List Loc → Prop} {st : List Value} {C owner : String} {b : Addr} (eT : T.heap = h) (w1 : (Jvm.Cond.methodLink own i y).before a0 Z = true) (ws : (Jvm.Cond.sameMethod y.cls owner y.name y.desc).before a0 Z = true) (w2 : (Jvm.Cond.declares ⟨owner, y.name, y.desc⟩).before a0 Z = true) (w3 : (Jvm.Cond.selects C y z).before a0 Z = true) (w4 : (Jvm.Cond.instanceMethod z).before a0 Z = true) (wc : (Jvm.Cond.code z bs mx rt).before a0 Z = true) (wz : (Jvm.Cond.initialized z.cls).before a0 Z = true) (hy : owner ≠ "java/lang/invoke/MethodHandle" ∧ owner ≠ "java/lang/invoke/VarHandle") (hM : OMeets l Z z bs mx rt [] rm (.ref b :: argsL).toArray h Q) (E : Exa Z h b C) (hlen : ∀ sig, parseMethodDescriptor y.desc = some sig → argsL.length = sig.parameters.length) (hst : st = argsL.reverse ++ .ref b :: under) (hW : (under.map fun v => v.category).sum = W) (hf : rm.frames + 1 ≤ R.frames) (hlo : W + (mx + 11) + rm.locals ≤ R.locals) (hce : cells + rm.cells ≤ R.cells) (hsl : slots + rm.slots ≤ R.slots) (hsz : Ls.size = maxL) (hd : decode bytes pc = .ok (.invokevirtual i, 3)) (hp : pc + 3 = pc') (k : ∀ v T' L, Stand p l e R s m args below meth c T' (locs ++ L) (cells + rm.cells) (slots + rm.slots) → Q v T'.heap L → Go p e below P (T'.setTop (mkF m pc' Ls (v.toList ++ under)))) : Go p e below P (T.setTop (mkF m pc Ls st)) := by
  subst hp hst
  obtain ⟨cq, kq, qa, qb, qc⟩ := isOf B.2.2.2.2.2.2.2 eT E
  obtain ⟨v, _, ⟨T', L', k', n'⟩, -, X', ⟨Lc, hQ, l', y', z'⟩, st'⟩ := X.virtualBackUp B.1 (x := y) (y := z) B.2.2.2.1 (mvT B.2.2.2.2.2.2.2 w1) (mvT B.2.2.2.2.2.2.2 ws) (mvT B.2.2.2.2.2.2.2 w2) hy (mvT B.2.2.2.2.2.2.2 w3) (mvT B.2.2.2.2.2.2.2 w4) (backOf (W := W) hM B.2.2.2.2.2.2.2 wc wz hf hlo) qa qc (g := mkF m pc Ls (argsL.reverse ++ .ref b :: under)) rfl (by rw [B.2.2.1]; exact hsz) (Steps.refl _) (argsL := argsL) (rest := under) hlen rfl (by show 2 * 0 + _ ≤ _; rw [Nat.mul_zero, Nat.zero_add]; exact Nat.le_of_eq hW) (hb B.2.1 hd) (fun _ _ => ⟨rfl, eT, hce, hsl⟩)
  dsimp only [Pt.U, Pt.locs, Pt.cells, Pt.slots] at X' l' y' z' st' hQ
  subst l' y' z'
  exact Go.on (fun t q => st'.trans q) (k v T' Lc X' hQ)
theorem p_virtualUp (B : Ctx p s m meth c Z own nm bytes maxL ret) (X : Stand p l e R s m args below meth c T locs cells slots) {y z : MethodName} {bs : ByteArray} {mx : Nat} {rt : Option FieldType} {rm : Room} {i W : Nat} {argsL under : List Value} {st : List Value} {C owner : String} {b : Addr} {r : Option Value} (eT : T.heap = h) (w1 : (Jvm.Cond.methodLink own i y).before a0 Z = true) (ws : (Jvm.Cond.sameMethod y.cls owner y.name y.desc).before a0 Z = true) (w2 : (Jvm.Cond.declares ⟨owner, y.name, y.desc⟩).before a0 Z = true) (w3 : (Jvm.Cond.selects C y z).before a0 Z = true) (w4 : (Jvm.Cond.instanceMethod z).before a0 Z = true) (wc : (Jvm.Cond.code z bs mx rt).before a0 Z = true) (wz : (Jvm.Cond.initialized z.cls).before a0 Z = true) (hy : owner ≠ "java/lang/invoke/MethodHandle" ∧ owner ≠ "java/lang/invoke/VarHandle") (hM : OMeets l Z z bs mx rt [] rm (.ref b :: argsL).toArray h (PureQ r h)) (E : Exa Z h b C) (hlen : ∀ sig, parseMethodDescriptor y.desc = some sig → argsL.length = sig.parameters.length) (hst : st = argsL.reverse ++ .ref b :: under) (hW : (under.map fun v => v.category).sum = W) (hf : rm.frames + 1 ≤ R.frames) (hlo : W + (mx + 11) + rm.locals ≤ R.locals) (hce : rm.cells = 0) (hsl : rm.slots = 0) (hc0 : cells ≤ R.cells) (hs0 : slots ≤ R.slots) (hsz : Ls.size = maxL) (hd : decode bytes pc = .ok (.invokevirtual i, 3)) (hp : pc + 3 = pc') (k : ∀ T', Stand p l e R s m args below meth c T' locs cells slots → T'.heap = h → Go p e below P (T'.setTop (mkF m pc' Ls (r.toList ++ under)))) : Go p e below P (T.setTop (mkF m pc Ls st)) := by
  refine c_virtualUp B X eT w1 ws w2 w3 w4 wc wz hy hM E hlen hst hW hf hlo (by omega) (by omega) hsz hd hp ?_
  intro v T' L X' hQ
  obtain ⟨rfl, rfl, e'⟩ := hQ
  rw [hce, hsl, List.append_nil] at X'
  exact k T' X' e'
end Kit
end Jvm.OwnKit

namespace Jvm.OwnKit
open Sem ClassFile Op Lib Jvm.Stand Jvm.Free Jvm.LawKit Jvm.RoadKit
section Heap
variable {p : Program} {l : Launch} {e : Env} {R : Room} {s : State} {m : MethodId} {args : Array Value} {below : List Frame} {meth : Method} {c : Code} {T : State} {locs : List Loc} {cells slots : Nat} {Z : State} {a0 : Array Value} {h h' : Heap} {own nm : String} {bytes : ByteArray} {maxL : Nat} {ret : Option FieldType} {P : Outcome → State → Prop} {pc pc' : Nat} {Ls Ls' : Array Slot} {rest : List Value} {a b : Addr} {k : ClassId} {ty : FieldType} {n i : Nat} {f g : Nat → Value} {v w : Value} {sl : Nat} {ws : List Addr}
/-- an array at a: n places, place i holds f i -/
def Ary (Z : State) (h : Heap) (a : Addr) (k : ClassId) (ty : FieldType) (n : Nat) (f : Nat → Value) : Prop := ∃ c : Cell, Arr Z h a c ty ∧ c.cls = k ∧ c.slots.size = n ∧ n < 2 ^ 31 ∧ ∀ i, i < n → c.slots[i]? = some (f i)
def upd (f : Nat → Value) (j : Nat) (v : Value) : Nat → Value := fun i => if i = j then v else f i
def lst (L : List Value) (d : Value) : Nat → Value := fun i => L.getD i d
theorem Ary.lt (F : Ary Z h a k ty n f) : a < h.size := by obtain ⟨c, A, -⟩ := F; exact A.lt
theorem Ary.ext (E : Ext h h') (F : Ary Z h a k ty n f) : Ary Z h' a k ty n f := by obtain ⟨c, A, r⟩ := F; exact ⟨c, A.ext E, r⟩
theorem Ary.other (W : Wr h h' b sl v) (F : Ary Z h a k ty n f) (q : a ≠ b) : Ary Z h' a k ty n f := by obtain ⟨c, A, r⟩ := F; exact ⟨c, A.other W q, r⟩
theorem Ary.keep (F : Ary Z h a k ty n f) (K : Keep h h' ws) (q : a ∉ ws) : Ary Z h' a k ty n f := by obtain ⟨c, A, r⟩ := F; exact ⟨c, ⟨K.2.1 a c A.1 q, A.2⟩, r⟩
theorem Ary.congr (F : Ary Z h a k ty n f) (q : ∀ i, i < n → f i = g i) : Ary Z h a k ty n g := by obtain ⟨c, A, r1, r2, r3, r4⟩ := F; exact ⟨c, A, r1, r2, r3, fun i hi => by rw [r4 i hi, q i hi]⟩
theorem upd_lst {L : List Value} {d v : Value} {j : Nat} (hj : j < L.length) {L' : List Value} (e : L.set j v = L') : upd (lst L d) j v = lst L' d := by
  subst e; funext i
  simp only [upd, lst, List.getD_eq_getElem?_getD, List.getElem?_set]
  by_cases q : i = j
  · subst q; simp [hj]
  · simp [q, Ne.symm q]
theorem Ary.same {j : Nat} (W : Wr h h' a j v) (F : Ary Z h a k ty n f) : Ary Z h' a k ty n (upd f j v) := by
  obtain ⟨c, A, r1, r2, r3, r4⟩ := F
  obtain ⟨cell, w1, w2, w3, -⟩ := id W
  cases w1.symm.trans A.1
  refine ⟨_, A.same W, r1, by rw [sz_set]; exact r2, r3, fun i hi => ?_⟩
  by_cases q : i = j
  · subst q; simp [Cell.setSlot, upd, w3]
  · simp only [Cell.setSlot, upd, if_neg q]; rw [Array.getElem?_setIfInBounds_ne (Ne.symm q)]; exact r4 i hi
theorem Ary.of_new {x : Int32} {N : Nat} (A : Arr Z h a (newA k ty x) ty) (hx : ¬ x < 0) (hN : x.toNatClampNeg = N) : Ary Z h a k ty N (fun _ => defaultValue ty) := by
  subst hN
  refine ⟨_, A, rfl, sz_new _ _ _, (back32 hx).2, fun i hi => ?_⟩
  simp [newA, hi]
theorem Ary.of_rep (F : Ary Z h a k ty n (fun _ => v)) {L : List Value} (q : ∀ i, i < n → L.getD i v = v) : Ary Z h a k ty n (lst L v) := F.congr fun i hi => (q i hi).symm

theorem Ary.sto {C : String} {y : Addr} (F : Ary Z h a k ty n f) (O : Ovr Z k C) (I : Ins Z h y C true) : Sto Z h a (.ref y) := by obtain ⟨c, A, r, -⟩ := F; exact Sto.of A (r ▸ O) I
theorem Ary.full {L : List Value} {j : Nat} {L' : List Value} (F : Ary Z h a k ty n (upd (lst L w) j v)) (hj : j < L.length) (e : L.set j v = L') : Ary Z h a k ty n (lst L' w) := by rw [← upd_lst (d := w) hj e]; exact F
theorem Ary.stoA {C : String} {y : Addr} {t0 : FieldType} (F : Ary Z h a k ty n f) (O : OvrA Z k t0 C) (I : Ins Z h y C true) : Sto Z h a (.ref y) := by obtain ⟨c, A, r, -⟩ := F; exact Sto.ofVA A r O I
theorem old_le {n0 : Nat} (O : Old Z n0 h) : n0 ≤ h.size := O.1 ▸ O.2.1
theorem s_new (B : Ctx p s m meth c Z own nm bytes maxL ret) (X : Stand p l e R s m args below meth c T locs cells slots) {C : String} {i0 n0 : Nat} (eT : T.heap = h) (w : (Jvm.Cond.classLink own i0 C).before a0 Z = true) (wi : (Jvm.Cond.instantiable C n0).before a0 Z = true) (wz : (Jvm.Cond.initialized C).before a0 Z = true) (hc : cells + 1 ≤ R.cells) (hl : slots + n0 ≤ R.slots) (hd : decode bytes pc = .ok (.new i0, 3)) (hp : pc + 3 = pc') (k : ∀ T' h' a, a = h.size → Stand p l e R s m args below meth c T' locs (cells + 1) (slots + n0) → T'.heap = h' → Ext h h' → Exa Z h' a C → (∀ {O nm d : String} {ty : FieldType}, Laid Z a0 C O nm d → parseFieldDescriptor d = some ty → Fld Z h' a O nm d (defaultValue ty)) → Go p e below P (T'.setTop (mkF m pc' Ls (.ref a :: rest)))) : Go p e below P (T.setTop (mkF m pc Ls (rest))) := by
  subst hp
  obtain ⟨T', h', X', e', E, A, D, -, st⟩ := newO X B.1 B.2.2.2.2.2.2.2 B.2.2.2.1 w wi wz eT (g := mkF m pc Ls rest) rfl (hb B.2.1 hd) hc hl
  exact Go.on st (k T' h' _ rfl X' e' E A D)
theorem s_initO (B : Ctx p s m meth c Z own nm bytes maxL ret) (X : Stand p l e R s m args below meth c T locs cells slots) {i0 W : Nat} {a : Addr} (eT : T.heap = h) (w1 : (Jvm.Cond.methodLink own i0 Lib.objectInit).before a0 Z = true) (w2 : (Jvm.Cond.instanceMethod Lib.objectInit).before a0 Z = true) (w3 : (Jvm.Cond.code Lib.objectInit ⟨#[0xb1]⟩ 1 none).before a0 Z = true) (hW : (rest.map fun v => v.category).sum = W) (hf : 1 ≤ R.frames) (hl : W + 12 ≤ R.locals) (hsz : Ls.size = maxL) (hd : decode bytes pc = .ok (.invokespecial i0, 3)) (hp : pc + 3 = pc') (k : ∀ T', Stand p l e R s m args below meth c T' locs cells slots → T'.heap = h → Go p e below P (T'.setTop (mkF m pc' Ls (rest)))) : Go p e below P (T.setTop (mkF m pc Ls (.ref a :: rest))) := by
  subst hp
  obtain ⟨T', X', e', st⟩ := initO X B.1 B.2.2.2.2.2.2.2 B.2.2.2.1 w1 w2 w3 eT (g := mkF m pc Ls (.ref a :: rest)) rfl (by rw [B.2.2.1]; exact hsz) rfl (hb B.2.1 hd) hf (W := W) (by show 2 * 0 + _ ≤ _; rw [Nat.mul_zero, Nat.zero_add]; exact Nat.le_of_eq hW) hl
  exact Go.on st (k T' X' e')
theorem s_putF (B : Ctx p s m meth c Z own nm bytes maxL ret) (X : Stand p l e R s m args below meth c T locs cells slots) {i0 kk : Nat} {R0 O n d host C : String} {ty : FieldType} {a : Addr} {v old : Value} (eT : T.heap = h) (w : (Jvm.Cond.fieldLink own i0 R0 n d).before a0 Z = true ∨ (Jvm.Cond.fieldLinkNest own i0 R0 n d host).before a0 Z = true) (via : Via Z R0 O n d) (F : Fld Z h a O n d old) (E : Exa Z h a C) (L : (Jvm.Cond.lays C O n d).before a0 Z = true ∨ ((Jvm.Cond.laysFinal C O n d).before a0 Z = true ∧ own = O ∧ nm = "<init>")) (wi : (Jvm.Cond.instantiable C kk).before a0 Z = true) (hty : parseFieldDescriptor d = some ty) (hn : narrow ty v = v) (hf : fits ty v = true) (hd : decode bytes pc = .ok (.putfield i0, 3)) (hp : pc + 3 = pc') (k : ∀ T' h', Stand p l e R s m args below meth c T' (locs ++ [⟨a, Jvm.RoadKit.slotOf Z O n d⟩]) cells slots → T'.heap = h' → Wr h h' a (Jvm.RoadKit.slotOf Z O n d) v → Go p e below P (T'.setTop (mkF m pc' Ls (rest)))) : Go p e below P (T.setTop (mkF m pc Ls (v :: .ref a :: rest))) := by
  subst hp
  obtain ⟨T', h', X', e', W, st⟩ := putF X B.1 B.2.2.2.2.2.2.2 B.2.2.2.1 w via eT F E (L.imp id fun q => ⟨q.1, q.2.1, by rw [B.2.2.2.2.1]; exact q.2.2⟩) wi hty hn hf (g := mkF m pc Ls (v :: .ref a :: rest)) rfl rfl (hb B.2.1 hd)
  exact Go.on st (k T' h' X' e' W)
theorem s_putFN (B : Ctx p s m meth c Z own nm bytes maxL ret) (X : Stand p l e R s m args below meth c T locs cells slots) {i0 kk : Nat} {R0 O n d C : String} {ty : FieldType} {a : Addr} {v v' old : Value} (eT : T.heap = h) (w : (Jvm.Cond.fieldLink own i0 R0 n d).before a0 Z = true) (via : Via Z R0 O n d) (F : Fld Z h a O n d old) (E : Exa Z h a C) (L : (Jvm.Cond.lays C O n d).before a0 Z = true ∨ ((Jvm.Cond.laysFinal C O n d).before a0 Z = true ∧ own = O ∧ nm = "<init>")) (wi : (Jvm.Cond.instantiable C kk).before a0 Z = true) (hty : parseFieldDescriptor d = some ty) (hn : narrow ty v = v') (hf : fits ty v' = true) (hd : decode bytes pc = .ok (.putfield i0, 3)) (hp : pc + 3 = pc') (k : ∀ T' h', Stand p l e R s m args below meth c T' (locs ++ [⟨a, Jvm.RoadKit.slotOf Z O n d⟩]) cells slots → T'.heap = h' → Wr h h' a (Jvm.RoadKit.slotOf Z O n d) v' → Go p e below P (T'.setTop (mkF m pc' Ls (rest)))) : Go p e below P (T.setTop (mkF m pc Ls (v :: .ref a :: rest))) := by
  subst hp
  obtain ⟨T', h', X', e', W, st⟩ := putFN X B.1 B.2.2.2.2.2.2.2 B.2.2.2.1 w via eT F E (L.imp id fun q => ⟨q.1, q.2.1, by rw [B.2.2.2.2.1]; exact q.2.2⟩) wi hty hn hf (g := mkF m pc Ls (v :: .ref a :: rest)) rfl rfl (hb B.2.1 hd)
  exact Go.on st (k T' h' X' e' W)
theorem s_newP (B : Ctx p s m meth c Z own nm bytes maxL ret) (X : Stand p l e R s m args below meth c T locs cells slots) {aty : ArrayType} {x : Int32} {N : Nat} (eT : T.heap = h) (w : (Jvm.Cond.arrayClass (newarray.typeOf aty)).before a0 Z = true) (hn : ¬ x < 0) (hN : x.toNatClampNeg = N) {cap : Nat} (hcap : N ≤ cap) (hb8 : cap * 8 ≤ 536870912) (hc : cells + 1 ≤ R.cells) (hl : slots + cap ≤ R.slots) (hd : decode bytes pc = .ok (.newarray aty, 2)) (hp : pc + 2 = pc') (k : ∀ T' h' a kA, a = h.size → Stand p l e R s m args below meth c T' locs (cells + 1) (slots + cap) → T'.heap = h' → Ext h h' → Ary Z h' a kA (newarray.typeOf aty) N (fun _ => defaultValue (newarray.typeOf aty)) → Go p e below P (T'.setTop (mkF m pc' Ls (.ref a :: rest)))) : Go p e below P (T.setTop (mkF m pc Ls (.int x :: rest))) := by
  subst hp
  obtain ⟨T', h', cA, X', e', E, A, st⟩ := newP X B.1 B.2.2.2.2.2.2.2 w eT (g := mkF m pc Ls (.int x :: rest)) rfl (hb B.2.1 hd) rfl hn (cap := cap) (hN ▸ hcap) hb8 hc hl
  exact Go.on st (k T' h' _ cA rfl X' e' E (Ary.of_new A hn hN))
theorem s_newR (B : Ctx p s m meth c Z own nm bytes maxL ret) (X : Stand p l e R s m args below meth c T locs cells slots) {i0 : Nat} {C : String} {x : Int32} {N : Nat} (eT : T.heap = h) (w1 : (Jvm.Cond.classLink own i0 C).before a0 Z = true) (w2 : (Jvm.Cond.arrayOver (.object C)).before a0 Z = true) (hn : ¬ x < 0) (hN : x.toNatClampNeg = N) {cap : Nat} (hcap : N ≤ cap) (hb8 : cap * 8 ≤ 536870912) (hc : cells + 1 ≤ R.cells) (hl : slots + cap ≤ R.slots) (hd : decode bytes pc = .ok (.anewarray i0, 3)) (hp : pc + 3 = pc') (k : ∀ T' h' a kA, a = h.size → Stand p l e R s m args below meth c T' locs (cells + 1) (slots + cap) → T'.heap = h' → Ext h h' → Ary Z h' a kA (.object C) N (fun _ => .null) → Ovr Z kA C → Go p e below P (T'.setTop (mkF m pc' Ls (.ref a :: rest)))) : Go p e below P (T.setTop (mkF m pc Ls (.int x :: rest))) := by
  subst hp
  obtain ⟨T', h', cA, X', e', E, A, O, st⟩ := newR X B.1 B.2.2.2.2.2.2.2 B.2.2.2.1 w1 w2 eT (g := mkF m pc Ls (.int x :: rest)) rfl (hb B.2.1 hd) rfl hn (cap := cap) (hN ▸ hcap) hb8 hc hl
  exact Go.on st (k T' h' _ cA rfl X' e' E (Ary.of_new A hn hN) O)
theorem s_newRA (B : Ctx p s m meth c Z own nm bytes maxL ret) (X : Stand p l e R s m args below meth c T locs cells slots) {i0 : Nat} {C : String} {ty : FieldType} {x : Int32} {N : Nat} (eT : T.heap = h) (hC : (FieldType.array ty).toString = C) (w1 : (Jvm.Cond.classLink own i0 C).before a0 Z = true) (w2 : (Jvm.Cond.arrayOver (.array ty)).before a0 Z = true) (hn : ¬ x < 0) (hN : x.toNatClampNeg = N) {cap : Nat} (hcap : N ≤ cap) (hb8 : cap * 8 ≤ 536870912) (hc : cells + 1 ≤ R.cells) (hl : slots + cap ≤ R.slots) (hd : decode bytes pc = .ok (.anewarray i0, 3)) (hp : pc + 3 = pc') (k : ∀ T' h' a kA, a = h.size → Stand p l e R s m args below meth c T' locs (cells + 1) (slots + cap) → T'.heap = h' → Ext h h' → Ary Z h' a kA (.array ty) N (fun _ => .null) → OvrA Z kA ty C → Go p e below P (T'.setTop (mkF m pc' Ls (.ref a :: rest)))) : Go p e below P (T.setTop (mkF m pc Ls (.int x :: rest))) := by
  subst hp
  obtain ⟨T', h', cA, X', e', E, A, -, O, st⟩ := newRA X B.1 B.2.2.2.2.2.2.2 B.2.2.2.1 hC w1 w2 eT (g := mkF m pc Ls (.int x :: rest)) rfl (hb B.2.1 hd) rfl hn (cap := cap) (hN ▸ hcap) hb8 hc hl rfl
  exact Go.on st (k T' h' _ cA rfl X' e' E (Ary.of_new A hn hN) O)
theorem s_stI (B : Ctx p s m meth c Z own nm bytes maxL ret) (X : Stand p l e R s m args below meth c T locs cells slots) {a : Addr} {x : Int32} {j : Int32} {jn N : Nat} {f : Nat → Value} {kA : ClassId} (eT : T.heap = h) (A : Ary Z h a kA .int N f) (hj : ¬ j < 0) (hjn : j.toNatClampNeg = jn) (hlt : jn < N) (hd : decode bytes pc = .ok (.iastore, 1)) (hp : pc + 1 = pc') (k : ∀ T' h', Stand p l e R s m args below meth c T' (locs ++ [⟨a, jn⟩]) cells slots → T'.heap = h' → Wr h h' a jn (.int x) → Ary Z h' a kA .int N (upd f jn (.int x)) → Go p e below P (T'.setTop (mkF m pc' Ls (rest)))) : Go p e below P (T.setTop (mkF m pc Ls (.int x :: .int j :: .ref a :: rest))) := by
  subst hp
  subst hjn
  obtain ⟨cl, A1, q1, q2, q3, q4⟩ := id A
  obtain ⟨T', h', X', e', W, st⟩ := stI X B.1 B.2.2.2.2.2.2.2 eT A1 (j := j) (by rw [q2]; intro z; rcases z with z | z; exact hj z; omega) (g := mkF m pc Ls (.int x :: .int j :: .ref a :: rest)) rfl rfl (hb B.2.1 hd)
  exact Go.on st (k T' h' X' e' W (A.same W))
theorem s_stJ (B : Ctx p s m meth c Z own nm bytes maxL ret) (X : Stand p l e R s m args below meth c T locs cells slots) {a : Addr} {x : Int64} {j : Int32} {jn N : Nat} {f : Nat → Value} {kA : ClassId} (eT : T.heap = h) (A : Ary Z h a kA .long N f) (hj : ¬ j < 0) (hjn : j.toNatClampNeg = jn) (hlt : jn < N) (hd : decode bytes pc = .ok (.lastore, 1)) (hp : pc + 1 = pc') (k : ∀ T' h', Stand p l e R s m args below meth c T' (locs ++ [⟨a, jn⟩]) cells slots → T'.heap = h' → Wr h h' a jn (.long x) → Ary Z h' a kA .long N (upd f jn (.long x)) → Go p e below P (T'.setTop (mkF m pc' Ls (rest)))) : Go p e below P (T.setTop (mkF m pc Ls (.long x :: .int j :: .ref a :: rest))) := by
  subst hp
  subst hjn
  obtain ⟨cl, A1, q1, q2, q3, q4⟩ := id A
  obtain ⟨T', h', X', e', W, st⟩ := stJ X B.1 B.2.2.2.2.2.2.2 eT A1 (j := j) (by rw [q2]; intro z; rcases z with z | z; exact hj z; omega) (g := mkF m pc Ls (.long x :: .int j :: .ref a :: rest)) rfl rfl (hb B.2.1 hd)
  exact Go.on st (k T' h' X' e' W (A.same W))
theorem s_stB (B : Ctx p s m meth c Z own nm bytes maxL ret) (X : Stand p l e R s m args below meth c T locs cells slots) {a : Addr} {x : Int32} {j : Int32} {jn N : Nat} {f : Nat → Value} {kA : ClassId} (eT : T.heap = h) (A : Ary Z h a kA .byte N f) (hj : ¬ j < 0) (hjn : j.toNatClampNeg = jn) (hlt : jn < N) (hd : decode bytes pc = .ok (.bastore, 1)) (hp : pc + 1 = pc') (k : ∀ T' h', Stand p l e R s m args below meth c T' (locs ++ [⟨a, jn⟩]) cells slots → T'.heap = h' → Wr h h' a jn (.int (nar .byte x)) → Ary Z h' a kA .byte N (upd f jn (.int (nar .byte x))) → Go p e below P (T'.setTop (mkF m pc' Ls (rest)))) : Go p e below P (T.setTop (mkF m pc Ls (.int x :: .int j :: .ref a :: rest))) := by
  subst hp
  subst hjn
  obtain ⟨cl, A1, q1, q2, q3, q4⟩ := id A
  obtain ⟨T', h', X', e', W, st⟩ := stB X B.1 B.2.2.2.2.2.2.2 eT A1 (j := j) (by rw [q2]; intro z; rcases z with z | z; exact hj z; omega) (g := mkF m pc Ls (.int x :: .int j :: .ref a :: rest)) rfl rfl (hb B.2.1 hd)
  exact Go.on st (k T' h' X' e' W (A.same W))
theorem s_stZ (B : Ctx p s m meth c Z own nm bytes maxL ret) (X : Stand p l e R s m args below meth c T locs cells slots) {a : Addr} {x : Int32} {j : Int32} {jn N : Nat} {f : Nat → Value} {kA : ClassId} (eT : T.heap = h) (A : Ary Z h a kA .boolean N f) (hj : ¬ j < 0) (hjn : j.toNatClampNeg = jn) (hlt : jn < N) (hd : decode bytes pc = .ok (.bastore, 1)) (hp : pc + 1 = pc') (k : ∀ T' h', Stand p l e R s m args below meth c T' (locs ++ [⟨a, jn⟩]) cells slots → T'.heap = h' → Wr h h' a jn (.int (nar .boolean x)) → Ary Z h' a kA .boolean N (upd f jn (.int (nar .boolean x))) → Go p e below P (T'.setTop (mkF m pc' Ls (rest)))) : Go p e below P (T.setTop (mkF m pc Ls (.int x :: .int j :: .ref a :: rest))) := by
  subst hp
  subst hjn
  obtain ⟨cl, A1, q1, q2, q3, q4⟩ := id A
  obtain ⟨T', h', X', e', W, st⟩ := stZ X B.1 B.2.2.2.2.2.2.2 eT A1 (j := j) (by rw [q2]; intro z; rcases z with z | z; exact hj z; omega) (g := mkF m pc Ls (.int x :: .int j :: .ref a :: rest)) rfl rfl (hb B.2.1 hd)
  exact Go.on st (k T' h' X' e' W (A.same W))
theorem s_stC (B : Ctx p s m meth c Z own nm bytes maxL ret) (X : Stand p l e R s m args below meth c T locs cells slots) {a : Addr} {x : Int32} {j : Int32} {jn N : Nat} {f : Nat → Value} {kA : ClassId} (eT : T.heap = h) (A : Ary Z h a kA .char N f) (hj : ¬ j < 0) (hjn : j.toNatClampNeg = jn) (hlt : jn < N) (hd : decode bytes pc = .ok (.castore, 1)) (hp : pc + 1 = pc') (k : ∀ T' h', Stand p l e R s m args below meth c T' (locs ++ [⟨a, jn⟩]) cells slots → T'.heap = h' → Wr h h' a jn (.int (nar .char x)) → Ary Z h' a kA .char N (upd f jn (.int (nar .char x))) → Go p e below P (T'.setTop (mkF m pc' Ls (rest)))) : Go p e below P (T.setTop (mkF m pc Ls (.int x :: .int j :: .ref a :: rest))) := by
  subst hp
  subst hjn
  obtain ⟨cl, A1, q1, q2, q3, q4⟩ := id A
  obtain ⟨T', h', X', e', W, st⟩ := stC X B.1 B.2.2.2.2.2.2.2 eT A1 (j := j) (by rw [q2]; intro z; rcases z with z | z; exact hj z; omega) (g := mkF m pc Ls (.int x :: .int j :: .ref a :: rest)) rfl rfl (hb B.2.1 hd)
  exact Go.on st (k T' h' X' e' W (A.same W))
theorem s_stR (B : Ctx p s m meth c Z own nm bytes maxL ret) (X : Stand p l e R s m args below meth c T locs cells slots) {a : Addr} {v : Value} {ty : FieldType} {j : Int32} {jn N : Nat} {f : Nat → Value} {kA : ClassId} (eT : T.heap = h) (A : Ary Z h a kA ty N f) (hty : ty.isReference = true) (S : Sto Z h a v) (hj : ¬ j < 0) (hjn : j.toNatClampNeg = jn) (hlt : jn < N) (hd : decode bytes pc = .ok (.aastore, 1)) (hp : pc + 1 = pc') (k : ∀ T' h', Stand p l e R s m args below meth c T' (locs ++ [⟨a, jn⟩]) cells slots → T'.heap = h' → Wr h h' a jn v → Ary Z h' a kA ty N (upd f jn v) → Go p e below P (T'.setTop (mkF m pc' Ls (rest)))) : Go p e below P (T.setTop (mkF m pc Ls (v :: .int j :: .ref a :: rest))) := by
  subst hp
  subst hjn
  obtain ⟨cl, A1, q1, q2, q3, q4⟩ := id A
  obtain ⟨T', h', X', e', W, st⟩ := stR X B.1 B.2.2.2.2.2.2.2 eT A1 (j := j) (by rw [q2]; intro z; rcases z with z | z; exact hj z; omega) hty S (g := mkF m pc Ls (v :: .int j :: .ref a :: rest)) rfl rfl (hb B.2.1 hd)
  exact Go.on st (k T' h' X' e' W (A.same W))
theorem s_ldI (B : Ctx p s m meth c Z own nm bytes maxL ret) (X : Stand p l e R s m args below meth c T locs cells slots) {a : Addr} {v : Value} {j : Int32} {jn N : Nat} {f : Nat → Value} {kA : ClassId} (eT : T.heap = h) (A : Ary Z h a kA .int N f) (hj : ¬ j < 0) (hjn : j.toNatClampNeg = jn) (hlt : jn < N) (hv : f jn = v) (hd : decode bytes pc = .ok (.iaload, 1)) (hp : pc + 1 = pc') (k : Go p e below P (T.setTop (mkF m pc' Ls (v :: rest)))) : Go p e below P (T.setTop (mkF m pc Ls (.int j :: .ref a :: rest))) := by
  subst hp hjn hv
  obtain ⟨cl, A1, q1, q2, q3, q4⟩ := A
  exact Go.on (X.iaload B.1 (j := j) (by rw [eT]; exact A1.1) (State.isArrayOf_alike B.2.2.2.2.2.2.2.alike A1.2.1) A1.2.2 (by rw [q2]; intro z; rcases z with z | z; exact hj z; omega) (q4 _ hlt) (g := mkF m pc Ls (.int j :: .ref a :: rest)) rfl rfl (hb B.2.1 hd)) k
theorem s_ldJ (B : Ctx p s m meth c Z own nm bytes maxL ret) (X : Stand p l e R s m args below meth c T locs cells slots) {a : Addr} {v : Value} {j : Int32} {jn N : Nat} {f : Nat → Value} {kA : ClassId} (eT : T.heap = h) (A : Ary Z h a kA .long N f) (hj : ¬ j < 0) (hjn : j.toNatClampNeg = jn) (hlt : jn < N) (hv : f jn = v) (hd : decode bytes pc = .ok (.laload, 1)) (hp : pc + 1 = pc') (k : Go p e below P (T.setTop (mkF m pc' Ls (v :: rest)))) : Go p e below P (T.setTop (mkF m pc Ls (.int j :: .ref a :: rest))) := by
  subst hp hjn hv
  obtain ⟨cl, A1, q1, q2, q3, q4⟩ := A
  exact Go.on (X.laload B.1 (j := j) (by rw [eT]; exact A1.1) (State.isArrayOf_alike B.2.2.2.2.2.2.2.alike A1.2.1) A1.2.2 (by rw [q2]; intro z; rcases z with z | z; exact hj z; omega) (q4 _ hlt) (g := mkF m pc Ls (.int j :: .ref a :: rest)) rfl rfl (hb B.2.1 hd)) k
theorem s_ldB (B : Ctx p s m meth c Z own nm bytes maxL ret) (X : Stand p l e R s m args below meth c T locs cells slots) {a : Addr} {v : Value} {j : Int32} {jn N : Nat} {f : Nat → Value} {kA : ClassId} (eT : T.heap = h) (A : Ary Z h a kA .byte N f) (hj : ¬ j < 0) (hjn : j.toNatClampNeg = jn) (hlt : jn < N) (hv : f jn = v) (hd : decode bytes pc = .ok (.baload, 1)) (hp : pc + 1 = pc') (k : Go p e below P (T.setTop (mkF m pc' Ls (v :: rest)))) : Go p e below P (T.setTop (mkF m pc Ls (.int j :: .ref a :: rest))) := by
  subst hp hjn hv
  obtain ⟨cl, A1, q1, q2, q3, q4⟩ := A
  exact Go.on (X.baloadBytes B.1 (j := j) (by rw [eT]; exact A1.1) (State.isArrayOf_alike B.2.2.2.2.2.2.2.alike A1.2.1) A1.2.2 (by rw [q2]; intro z; rcases z with z | z; exact hj z; omega) (q4 _ hlt) (g := mkF m pc Ls (.int j :: .ref a :: rest)) rfl rfl (hb B.2.1 hd)) k
theorem s_ldZ (B : Ctx p s m meth c Z own nm bytes maxL ret) (X : Stand p l e R s m args below meth c T locs cells slots) {a : Addr} {v : Value} {j : Int32} {jn N : Nat} {f : Nat → Value} {kA : ClassId} (eT : T.heap = h) (A : Ary Z h a kA .boolean N f) (hj : ¬ j < 0) (hjn : j.toNatClampNeg = jn) (hlt : jn < N) (hv : f jn = v) (hd : decode bytes pc = .ok (.baload, 1)) (hp : pc + 1 = pc') (k : Go p e below P (T.setTop (mkF m pc' Ls (v :: rest)))) : Go p e below P (T.setTop (mkF m pc Ls (.int j :: .ref a :: rest))) := by
  subst hp hjn hv
  obtain ⟨cl, A1, q1, q2, q3, q4⟩ := A
  exact Go.on (X.baloadBooleans B.1 (j := j) (by rw [eT]; exact A1.1) (State.isArrayOf_alike B.2.2.2.2.2.2.2.alike A1.2.1) A1.2.2 (by rw [q2]; intro z; rcases z with z | z; exact hj z; omega) (q4 _ hlt) (g := mkF m pc Ls (.int j :: .ref a :: rest)) rfl rfl (hb B.2.1 hd)) k
theorem s_ldC (B : Ctx p s m meth c Z own nm bytes maxL ret) (X : Stand p l e R s m args below meth c T locs cells slots) {a : Addr} {v : Value} {j : Int32} {jn N : Nat} {f : Nat → Value} {kA : ClassId} (eT : T.heap = h) (A : Ary Z h a kA .char N f) (hj : ¬ j < 0) (hjn : j.toNatClampNeg = jn) (hlt : jn < N) (hv : f jn = v) (hd : decode bytes pc = .ok (.caload, 1)) (hp : pc + 1 = pc') (k : Go p e below P (T.setTop (mkF m pc' Ls (v :: rest)))) : Go p e below P (T.setTop (mkF m pc Ls (.int j :: .ref a :: rest))) := by
  subst hp hjn hv
  obtain ⟨cl, A1, q1, q2, q3, q4⟩ := A
  exact Go.on (X.caload B.1 (j := j) (by rw [eT]; exact A1.1) (State.isArrayOf_alike B.2.2.2.2.2.2.2.alike A1.2.1) A1.2.2 (by rw [q2]; intro z; rcases z with z | z; exact hj z; omega) (q4 _ hlt) (g := mkF m pc Ls (.int j :: .ref a :: rest)) rfl rfl (hb B.2.1 hd)) k
theorem s_ldR (B : Ctx p s m meth c Z own nm bytes maxL ret) (X : Stand p l e R s m args below meth c T locs cells slots) {a : Addr} {v : Value} {ty : FieldType} {j : Int32} {jn N : Nat} {f : Nat → Value} {kA : ClassId} (eT : T.heap = h) (A : Ary Z h a kA ty N f) (hty : ty.isReference = true) (hj : ¬ j < 0) (hjn : j.toNatClampNeg = jn) (hlt : jn < N) (hv : f jn = v) (hd : decode bytes pc = .ok (.aaload, 1)) (hp : pc + 1 = pc') (k : Go p e below P (T.setTop (mkF m pc' Ls (v :: rest)))) : Go p e below P (T.setTop (mkF m pc Ls (.int j :: .ref a :: rest))) := by
  subst hp hjn hv
  obtain ⟨cl, A1, q1, q2, q3, q4⟩ := A
  exact Go.on (X.aaload B.1 (j := j) (by rw [eT]; exact A1.1) (State.isArrayOf_alike B.2.2.2.2.2.2.2.alike A1.2.1) hty A1.2.2 (by rw [q2]; intro z; rcases z with z | z; exact hj z; omega) (q4 _ hlt) (g := mkF m pc Ls (.int j :: .ref a :: rest)) rfl rfl (hb B.2.1 hd)) k
theorem s_len (B : Ctx p s m meth c Z own nm bytes maxL ret) (X : Stand p l e R s m args below meth c T locs cells slots) {a : Addr} {v : Int32} {ty : FieldType} {N : Nat} {f : Nat → Value} {kA : ClassId} (eT : T.heap = h) (A : Ary Z h a kA ty N f) (hv : N.toInt32 = v) (hd : decode bytes pc = .ok (.arraylength, 1)) (hp : pc + 1 = pc') (k : Go p e below P (T.setTop (mkF m pc' Ls (.int v :: rest)))) : Go p e below P (T.setTop (mkF m pc Ls (.ref a :: rest))) := by
  subst hp hv
  obtain ⟨cl, A1, q1, q2, q3, q4⟩ := A
  subst q2
  exact Go.on (X.arraylength B.1 (by rw [eT]; exact A1.1) (State.isArrayOf_alike B.2.2.2.2.2.2.2.alike A1.2.1) (g := mkF m pc Ls (.ref a :: rest)) rfl rfl (hb B.2.1 hd)) k
theorem s_castY (B : Ctx p s m meth c Z own nm bytes maxL ret) (X : Stand p l e R s m args below meth c T locs cells slots) {i0 : Nat} {K : String} {a : Addr} (eT : T.heap = h) (w : (Jvm.Cond.classLink own i0 K).before a0 Z = true) (F : Ins Z h a K true) (hd : decode bytes pc = .ok (.checkcast i0, 3)) (hp : pc + 3 = pc') (k : ∀ T', Stand p l e R s m args below meth c T' locs cells slots → T'.heap = h → Go p e below P (T'.setTop (mkF m pc' Ls (.ref a :: rest)))) : Go p e below P (T.setTop (mkF m pc Ls (.ref a :: rest))) := by
  subst hp
  obtain ⟨T', X', e', st⟩ := castY X B.1 B.2.2.2.2.2.2.2 B.2.2.2.1 w eT F (g := mkF m pc Ls (.ref a :: rest)) rfl rfl (hb B.2.1 hd)
  exact Go.on st (k T' X' e')
theorem s_instY (B : Ctx p s m meth c Z own nm bytes maxL ret) (X : Stand p l e R s m args below meth c T locs cells slots) {i0 : Nat} {K : String} {a : Addr} (eT : T.heap = h) (w : (Jvm.Cond.classLink own i0 K).before a0 Z = true) (F : Ins Z h a K true) (hd : decode bytes pc = .ok (.instanceof i0, 3)) (hp : pc + 3 = pc') (k : ∀ T', Stand p l e R s m args below meth c T' locs cells slots → T'.heap = h → Go p e below P (T'.setTop (mkF m pc' Ls (.int 1 :: rest)))) : Go p e below P (T.setTop (mkF m pc Ls (.ref a :: rest))) := by
  subst hp
  obtain ⟨T', X', e', st⟩ := instY X B.1 B.2.2.2.2.2.2.2 B.2.2.2.1 w eT F (g := mkF m pc Ls (.ref a :: rest)) rfl rfl (hb B.2.1 hd)
  exact Go.on st (k T' X' e')
theorem s_tswIn (B : Ctx p s m meth c Z own nm bytes maxL ret) (X : Stand p l e R s m args below meth c T locs cells slots) {df lo hi : Int} {offs : Array Int} {len : Nat} {o : Int} {x : Int32} (hd : decode bytes pc = .ok (.tableswitch df lo hi offs, len)) (hin : ¬ (x.toInt < lo ∨ x.toInt > hi)) (hoff : offs[(x.toInt - lo).toNat]? = some o) (ho : 0 ≤ (pc : Int) + o) (hp : ((pc : Int) + o).toNat = pc') (k : Go p e below P (T.setTop (mkF m pc' Ls (rest)))) : Go p e below P (T.setTop (mkF m pc Ls (.int x :: rest))) := Go.on (fun t => XS.tswIn (g := mkF m pc Ls (.int x :: rest)) X.here B.1 rfl (pc0 := pc) rfl (hb B.2.1 hd) (i := x) (rest := rest) rfl hin hoff ho hp) k
theorem s_tswOut (B : Ctx p s m meth c Z own nm bytes maxL ret) (X : Stand p l e R s m args below meth c T locs cells slots) {df lo hi : Int} {offs : Array Int} {len : Nat} {x : Int32} (hd : decode bytes pc = .ok (.tableswitch df lo hi offs, len)) (hout : x.toInt < lo ∨ x.toInt > hi) (ho : 0 ≤ (pc : Int) + df) (hp : ((pc : Int) + df).toNat = pc') (k : Go p e below P (T.setTop (mkF m pc' Ls (rest)))) : Go p e below P (T.setTop (mkF m pc Ls (.int x :: rest))) := Go.on (fun t => XS.tswOut (g := mkF m pc Ls (.int x :: rest)) X.here B.1 rfl (pc0 := pc) rfl (hb B.2.1 hd) (i := x) (rest := rest) rfl hout ho hp) k
end Heap
end Jvm.OwnKit

namespace Jvm.OwnKit
open Sem ClassFile Op Lib Jvm.Stand Jvm.Free Jvm.LawKit Jvm.RoadKit
section Start
variable {args : Array Value} {s : State} {t u : Term}
theorem eqI_v {k : Int32} (h : (Jvm.Cond.eq t (.int k)).value args s none s [] = some true) : t.eval args s none [] s = some (.int k) := by
  cases ht : t.eval args s none [] s with
  | none => simp [Cond.value, ht] at h
  | some x => cases x <;> simp [Cond.value, ht, Term.eval] at h ⊢; exact h
theorem eqJ_v {k : Int64} (h : (Jvm.Cond.eq t (.long k)).value args s none s [] = some true) : t.eval args s none [] s = some (.long k) := by
  cases ht : t.eval args s none [] s with
  | none => simp [Cond.value, ht] at h
  | some x => cases x <;> simp [Cond.value, ht, Term.eval] at h ⊢; exact h
theorem eqR_v {a : Addr} (hu : u.eval args s none [] s = some (.ref a)) (h : (Jvm.Cond.eq t u).value args s none s [] = some true) : t.eval args s none [] s = some (.ref a) := by
  cases ht : t.eval args s none [] s with
  | none => simp [Cond.value, ht] at h
  | some x => cases x <;> simp [Cond.value, ht, hu] at h ⊢; exact h
end Start
end Jvm.OwnKit

namespace Jvm.OwnKit
open Sem ClassFile Op Lib Jvm.Stand Jvm.Free Jvm.LawKit Jvm.RoadKit
section Tab
variable {args : Array Value} {s : State} {t : Term} {a : Addr} {c : Cell} {ty : FieldType} {i n : Nat} {C : Jvm.Cond}
theorem tab_len {N : Int32} (ht : t.eval args s none [] s = some (.ref a)) (A : Arr s s.heap a c ty) (h : (Jvm.Cond.eq (.length t) (.int N)).value args s none s [] = some true) (hn : N.toNatClampNeg = n) : c.slots.size = n ∧ n < 2 ^ 31 := by
  have e := eqI_v h
  have hat := A.fin (Vm.Alike.refl s.vm)
  simp only [Term.eval, ht, Option.bind_eq_bind, Option.bind_some, hat] at e
  split at e
  · rename_i q
    have e2 : c.slots.size.toInt32 = N := by simpa using e
    have e3 := len_toInt q
    rw [e2] at e3
    have e4 : N.toNatClampNeg = c.slots.size := by simp only [Int32.toNatClampNeg]; rw [e3]; rfl
    rw [hn] at e4
    exact ⟨e4.symm, e4 ▸ q⟩
  · cases e
theorem tab_all (ht : t.eval args s none [] s = some (.ref a)) (A : Arr s s.heap a c ty) (h : (Jvm.Cond.all t C).value args s none s [] = some true) (hi : i < c.slots.size) : C.value args s none s [i] = some true := Cond.all_elim ht (A.fin (Vm.Alike.refl _)) h i hi
theorem tab_or {D : Jvm.Cond} (h : (Jvm.Cond.or C D).value args s none s [i] = some true) (hc : C.value args s none s [i] = some false) : D.value args s none s [i] = some true := by
  simp only [Cond.value, hc] at h; exact h
theorem tab_lo {k : Int32} (hi : i < 2 ^ 31) (q : k.toInt ≤ i) : (Jvm.Cond.lt (.index 0) (.int k)).value args s none s [i] = some false := by
  have e := len_toInt hi
  simp only [Cond.value, Term.index_eval, Term.int_eval]
  exact congrArg some (decide_eq_false fun z => by rw [Int32.lt_iff_toInt_lt, e] at z; omega)
theorem tab_hi {k : Int32} (hi : i < 2 ^ 31) (q : i < k.toInt) : (Jvm.Cond.le (.int k) (.index 0)).value args s none s [i] = some false := by
  have e := len_toInt hi
  simp only [Cond.value, Term.index_eval, Term.int_eval]
  exact congrArg some (decide_eq_false fun z => by rw [Int32.le_iff_toInt_le, e] at z; omega)
theorem tab_el {v : Value} {j : Term} (ht : t.eval args s none [i] s = some (.ref a)) (A : Arr s s.heap a c ty) (hi : i < 2 ^ 31) (h : (Term.elem t (.index 0)).eval args s none [i] s = some v) : c.slots[i]? = some v := by
  have e := (elem_in h ht (Term.index_eval i) A.1).2
  have e3 := len_toInt hi
  rwa [show i.toInt32.toNatClampNeg = i by simp only [Int32.toNatClampNeg]; rw [e3]; rfl] at e
theorem tab_at {v : Value} {k : Int32} (ht : t.eval args s none [] s = some (.ref a)) (A : Arr s s.heap a c ty) (h : (Term.elem t (.int k)).eval args s none [] s = some v) (hk : k.toNatClampNeg = i) : c.slots[i]? = some v := by
  have e := (elem_in h ht rfl A.1).2
  rwa [hk] at e
theorem eqI_i {k : Int32} {t : Term} (h : (Jvm.Cond.eq t (.int k)).value args s none s [i] = some true) : t.eval args s none [i] s = some (.int k) := by
  cases ht : t.eval args s none [i] s with
  | none => simp [Cond.value, ht] at h
  | some x => cases x <;> simp [Cond.value, ht, Term.eval] at h ⊢; exact h
theorem tab_nat (hi : i < 2 ^ 31) : i.toInt32.toNatClampNeg = i := by
  have e3 := len_toInt hi
  simp only [Int32.toNatClampNeg]; rw [e3]; rfl
theorem tab_sub {t : Term} {k : Int32} (h : (Jvm.Cond.eq t (.sub (.index 0) (.int k))).value args s none s [i] = some true) : ∃ z, t.eval args s none [i] s = some (.int z) ∧ z = i.toInt32 - k := by
  cases ht : t.eval args s none [i] s with
  | none => simp [Cond.value, ht] at h
  | some x => cases x <;> simp [Cond.value, ht, Term.eval] at h ⊢; exact h
theorem tab_lng {t : Term} (h : (Jvm.Cond.eq (.op1 .i2l t) (.op2 .ladd (.op1 .i2l (.index 0)) (.long 4))).value args s none s [i] = some true) : ∃ z, t.eval args s none [i] s = some (.int z) ∧ z.toInt64 = i.toInt32.toInt64 + 4 := by
  cases ht : t.eval args s none [i] s with
  | none => simp [Cond.value, ht, Term.eval] at h
  | some x => cases x <;> simp [Cond.value, ht, Term.eval, Unary.apply, Binary.apply] at h ⊢; exact h
theorem tab_neg {z k : Int32} {n : Int} {P : Prop} (hi : i < 2 ^ 31) (e : z = i.toInt32 - k) (hk : k.toInt = n) (h : 0 ≤ (i : Int) - n ∧ 0 ≤ n) (hP : P) : z = -1 ↔ ¬ P := by
  have e3 := len_toInt hi; have e4 := c_isub i.toInt32 k; have r := rng32 (i.toInt32 - k); have m : (-1 : Int32).toInt = -1 := by decide
  constructor
  · intro q; rw [q] at e; rw [← e, m, e3, hk] at e4; omega
  · intro q; exact absurd hP q
theorem tab_neg4 {z : Int32} {P : Prop} (hi : i < 2 ^ 31) (e : z.toInt64 = i.toInt32.toInt64 + 4) (hP : P) : z = -1 ↔ ¬ P := by
  have e3 := len_toInt hi; have e4 := c_ladd i.toInt32.toInt64 4; have m : (-1 : Int32).toInt64.toInt = -1 := by decide
  have m4 : (4 : Int64).toInt = 4 := by decide
  constructor
  · intro q; rw [q] at e; rw [← e, m, c_i2l, e3, m4] at e4; omega
  · intro q; exact absurd hP q
end Tab
end Jvm.OwnKit

namespace Jvm.OwnKit
open Sem ClassFile Op Lib Jvm.Stand Jvm.Free Jvm.LawKit Jvm.RoadKit
section I
variable {p : Program} {l : Launch} {e : Env} {R : Room} {s : State} {m : MethodId} {args : Array Value} {below : List Frame} {meth : Method} {c : Code} {T : State} {locs : List Loc} {cells slots : Nat} {Z : State} {a0 : Array Value} {h h' : Heap} {own nm : String} {bytes : ByteArray} {maxL : Nat} {ret : Option FieldType} {P : Outcome → State → Prop} {pc pc' : Nat} {Ls Ls' : Array Slot} {rest : List Value} {a b : Addr} {k : ClassId} {ty : FieldType} {n i : Nat} {f g : Nat → Value} {v w : Value} {sl : Nat} {ws : List Addr}

theorem s_instNull (B : Ctx p s m meth c Z own nm bytes maxL ret) (X : Stand p l e R s m args below meth c T locs cells slots) {i0 : Nat} (hd : decode bytes pc = .ok (.instanceof i0, 3)) (hp : pc + 3 = pc') (k : Go p e below P (T.setTop (mkF m pc' Ls (.int 0 :: rest)))) : Go p e below P (T.setTop (mkF m pc Ls (.null :: rest))) := by
  subst hp; exact Go.on (X.instanceofNull B.1 (g := mkF m pc Ls (.null :: rest)) rfl rfl (hb B.2.1 hd)) k
theorem s_instNo (B : Ctx p s m meth c Z own nm bytes maxL ret) (X : Stand p l e R s m args below meth c T locs cells slots) {i0 : Nat} {K C : String} {a : Addr} (eT : T.heap = h) (w : (Jvm.Cond.classLink own i0 K).before a0 Z = true) (E : Exa Z h a C) (F : ∃ c t, Z.vm.findClass C = some c ∧ Z.vm.findClass K = some t ∧ Z.vm.assignable c t = false) (hd : decode bytes pc = .ok (.instanceof i0, 3)) (hp : pc + 3 = pc') (k : ∀ T', Stand p l e R s m args below meth c T' locs cells slots → T'.heap = h → Go p e below P (T'.setTop (mkF m pc' Ls (.int 0 :: rest)))) : Go p e below P (T.setTop (mkF m pc Ls (.ref a :: rest))) := by
  subst hp
  obtain ⟨T', X', e', st⟩ := instNo X B.1 B.2.2.2.2.2.2.2 B.2.2.2.1 w eT E F (g := mkF m pc Ls (.ref a :: rest)) rfl rfl (hb B.2.1 hd)
  exact Go.on st (k T' X' e')
theorem own_root {O K : String} {n : Nat} (w : (Jvm.Cond.noSuperclass O).before a0 Z = true) (wk : (Jvm.Cond.instantiable K n).before a0 Z = true) (hn : O ≠ K) : NS Z O K := by
  obtain ⟨c, k, h1, h2, h3, -, -⟩ := Cond.noSuperclass_spec w
  obtain ⟨t, k', g1, g2, -⟩ := Cond.instantiable_spec wk
  have ne := ids_ne h1 g1 hn
  exact ⟨c, t, h1, g1, fun fuel => by cases fuel <;> simp [Vm.isSubclassAux, ne, h2, h3]⟩
theorem own_no {C S K : String} {n : Nat} (w : (Jvm.Cond.superclass C S).before a0 Z = true) (wk : (Jvm.Cond.instantiable K n).before a0 Z = true) (q : NS Z C K) (hn : C ≠ K) : ∃ c t, Z.vm.findClass C = some c ∧ Z.vm.findClass K = some t ∧ Z.vm.assignable c t = false := by
  obtain ⟨c, t, h0, g0, n3⟩ := q
  obtain ⟨p, k, kp, -, h2, -, -, h5, -, -⟩ := Cond.superclass_spec h0 w
  obtain ⟨t', k', g1, g2, g3, g4, -⟩ := Cond.instantiable_spec wk
  cases g0.symm.trans g1
  have g5 : k'.isInterface = false := by simp only [Bool.or_eq_false_iff] at g4; exact g4.1
  have ne := ids_ne h0 g0 hn
  refine ⟨c, t, h0, g0, ?_⟩
  show Z.vm.assignableAux (255 + 1) c t = false
  simp [Vm.assignableAux, ne, h2, g2, h5, g3, g5, Vm.isSubclass, n3]
end I
end Jvm.OwnKit

namespace Jvm.Pilot.@@N@@
open Jvm Jvm.ClassFile Sem Op Lib Jvm.Free Jvm.Stand Jvm.LawKit Jvm.RoadKit Jvm.OwnKit Bundle Jvm.Pilot.@@N@@.Jvm.D
theorem tw0 {Z : State} {a0 : Array Value} (hw : ∀ d ∈ tables_1, d.before a0 Z = true) : (Jvm.Cond.fieldLink "com/example/isolation/isolation/EntityKeyEqualsPinLaw" (13 : Nat) "com/example/isolation/isolation/EntityKind" "NODE" "Lcom/example/isolation/isolation/EntityKind;").before a0 Z = true := hw _ (List.mem_of_getElem? (i := 0) rfl)
theorem tw1 {Z : State} {a0 : Array Value} (hw : ∀ d ∈ tables_1, d.before a0 Z = true) : (Jvm.Cond.initialized "com/example/isolation/isolation/EntityKind").before a0 Z = true := hw _ (List.mem_of_getElem? (i := 1) rfl)
theorem tw2 {Z : State} {a0 : Array Value} (hw : ∀ d ∈ tables_1, d.before a0 Z = true) : (Jvm.Cond.laysStatic "com/example/isolation/isolation/EntityKind" "NODE" "Lcom/example/isolation/isolation/EntityKind;").before a0 Z = true := hw _ (List.mem_of_getElem? (i := 2) rfl)
theorem tw3 {Z : State} {a0 : Array Value} (hw : ∀ d ∈ tables_1, d.before a0 Z = true) : (Jvm.Cond.classLink "com/example/isolation/isolation/EntityKeyEqualsPinLaw" (16 : Nat) "com/example/isolation/isolation/EntityKey").before a0 Z = true := hw _ (List.mem_of_getElem? (i := 3) rfl)
theorem tw4 {Z : State} {a0 : Array Value} (hw : ∀ d ∈ tables_1, d.before a0 Z = true) : (Jvm.Cond.instantiable "com/example/isolation/isolation/EntityKey" (2 : Nat)).before a0 Z = true := hw _ (List.mem_of_getElem? (i := 4) rfl)
theorem tw5 {Z : State} {a0 : Array Value} (hw : ∀ d ∈ tables_1, d.before a0 Z = true) : (Jvm.Cond.initialized "com/example/isolation/isolation/EntityKey").before a0 Z = true := hw _ (List.mem_of_getElem? (i := 5) rfl)
theorem tw6 {Z : State} {a0 : Array Value} (hw : ∀ d ∈ tables_1, d.before a0 Z = true) : (Jvm.Cond.methodLink "com/example/isolation/isolation/EntityKeyEqualsPinLaw" (18 : Nat) ({ cls := "com/example/isolation/isolation/EntityKey", name := "<init>", desc := "(Lcom/example/isolation/isolation/EntityKind;J)V" } : Jvm.MethodName)).before a0 Z = true := hw _ (List.mem_of_getElem? (i := 6) rfl)
theorem tw7 {Z : State} {a0 : Array Value} (hw : ∀ d ∈ tables_1, d.before a0 Z = true) : (Jvm.Cond.instanceMethod ({ cls := "com/example/isolation/isolation/EntityKey", name := "<init>", desc := "(Lcom/example/isolation/isolation/EntityKind;J)V" } : Jvm.MethodName)).before a0 Z = true := hw _ (List.mem_of_getElem? (i := 7) rfl)
theorem tw8 {Z : State} {a0 : Array Value} (hw : ∀ d ∈ tables_1, d.before a0 Z = true) : (Jvm.Cond.code ({ cls := "com/example/isolation/isolation/EntityKey", name := "<init>", desc := "(Lcom/example/isolation/isolation/EntityKind;J)V" } : Jvm.MethodName) prog_15_method_1_code (4 : Nat) (Option.none : Option Jvm.ClassFile.FieldType)).before a0 Z = true := hw _ (List.mem_of_getElem? (i := 8) rfl)
theorem tw9 {Z : State} {a0 : Array Value} (hw : ∀ d ∈ tables_1, d.before a0 Z = true) : (Jvm.Cond.methodLink "com/example/isolation/isolation/EntityKey" (1 : Nat) ({ cls := "java/lang/Object", name := "<init>", desc := "()V" } : Jvm.MethodName)).before a0 Z = true := hw _ (List.mem_of_getElem? (i := 9) rfl)
theorem tw10 {Z : State} {a0 : Array Value} (hw : ∀ d ∈ tables_1, d.before a0 Z = true) : (Jvm.Cond.instanceMethod ({ cls := "java/lang/Object", name := "<init>", desc := "()V" } : Jvm.MethodName)).before a0 Z = true := hw _ (List.mem_of_getElem? (i := 10) rfl)
theorem tw11 {Z : State} {a0 : Array Value} (hw : ∀ d ∈ tables_1, d.before a0 Z = true) : (Jvm.Cond.code ({ cls := "java/lang/Object", name := "<init>", desc := "()V" } : Jvm.MethodName) object_method_1_code (1 : Nat) (Option.none : Option Jvm.ClassFile.FieldType)).before a0 Z = true := hw _ (List.mem_of_getElem? (i := 11) rfl)
theorem tw12 {Z : State} {a0 : Array Value} (hw : ∀ d ∈ tables_1, d.before a0 Z = true) : (Jvm.Cond.fieldLink "com/example/isolation/isolation/EntityKey" (7 : Nat) "com/example/isolation/isolation/EntityKey" "kind" "Lcom/example/isolation/isolation/EntityKind;").before a0 Z = true := hw _ (List.mem_of_getElem? (i := 12) rfl)
theorem tw13 {Z : State} {a0 : Array Value} (hw : ∀ d ∈ tables_1, d.before a0 Z = true) : (Jvm.Cond.laysFinal "com/example/isolation/isolation/EntityKey" "com/example/isolation/isolation/EntityKey" "kind" "Lcom/example/isolation/isolation/EntityKind;").before a0 Z = true := hw _ (List.mem_of_getElem? (i := 13) rfl)
theorem tw14 {Z : State} {a0 : Array Value} (hw : ∀ d ∈ tables_1, d.before a0 Z = true) : (Jvm.Cond.fieldLink "com/example/isolation/isolation/EntityKey" (13 : Nat) "com/example/isolation/isolation/EntityKey" "id" "J").before a0 Z = true := hw _ (List.mem_of_getElem? (i := 14) rfl)
theorem tw15 {Z : State} {a0 : Array Value} (hw : ∀ d ∈ tables_1, d.before a0 Z = true) : (Jvm.Cond.laysFinal "com/example/isolation/isolation/EntityKey" "com/example/isolation/isolation/EntityKey" "id" "J").before a0 Z = true := hw _ (List.mem_of_getElem? (i := 15) rfl)
theorem tw16 {Z : State} {a0 : Array Value} (hw : ∀ d ∈ tables_1, d.before a0 Z = true) : (Jvm.Cond.methodLink "com/example/isolation/isolation/EntityKeyEqualsPinLaw" (21 : Nat) ({ cls := "com/example/isolation/isolation/EntityKey", name := "equals", desc := "(Ljava/lang/Object;)Z" } : Jvm.MethodName)).before a0 Z = true := hw _ (List.mem_of_getElem? (i := 16) rfl)
theorem tw17 {Z : State} {a0 : Array Value} (hw : ∀ d ∈ tables_1, d.before a0 Z = true) : (Jvm.Cond.declares ({ cls := "com/example/isolation/isolation/EntityKey", name := "equals", desc := "(Ljava/lang/Object;)Z" } : Jvm.MethodName)).before a0 Z = true := hw _ (List.mem_of_getElem? (i := 17) rfl)
theorem tw18 {Z : State} {a0 : Array Value} (hw : ∀ d ∈ tables_1, d.before a0 Z = true) : (Jvm.Cond.instanceMethod ({ cls := "com/example/isolation/isolation/EntityKey", name := "equals", desc := "(Ljava/lang/Object;)Z" } : Jvm.MethodName)).before a0 Z = true := hw _ (List.mem_of_getElem? (i := 18) rfl)
theorem tw19 {Z : State} {a0 : Array Value} (hw : ∀ d ∈ tables_1, d.before a0 Z = true) : (Jvm.Cond.selects "com/example/isolation/isolation/EntityKey" ({ cls := "com/example/isolation/isolation/EntityKey", name := "equals", desc := "(Ljava/lang/Object;)Z" } : Jvm.MethodName) ({ cls := "com/example/isolation/isolation/EntityKey", name := "equals", desc := "(Ljava/lang/Object;)Z" } : Jvm.MethodName)).before a0 Z = true := hw _ (List.mem_of_getElem? (i := 19) rfl)
theorem tw20 {Z : State} {a0 : Array Value} (hw : ∀ d ∈ tables_1, d.before a0 Z = true) : (Jvm.Cond.code ({ cls := "com/example/isolation/isolation/EntityKey", name := "equals", desc := "(Ljava/lang/Object;)Z" } : Jvm.MethodName) prog_15_method_3_code (3 : Nat) (Option.some Jvm.ClassFile.FieldType.boolean)).before a0 Z = true := hw _ (List.mem_of_getElem? (i := 20) rfl)
theorem tw21 {Z : State} {a0 : Array Value} (hw : ∀ d ∈ tables_1, d.before a0 Z = true) : (Jvm.Cond.fieldLink "com/example/isolation/isolation/EntityKeyEqualsPinLaw" (7 : Nat) "com/example/isolation/isolation/EntityKind" "RELATIONSHIP" "Lcom/example/isolation/isolation/EntityKind;").before a0 Z = true := hw _ (List.mem_of_getElem? (i := 21) rfl)
theorem tw22 {Z : State} {a0 : Array Value} (hw : ∀ d ∈ tables_1, d.before a0 Z = true) : (Jvm.Cond.laysStatic "com/example/isolation/isolation/EntityKind" "RELATIONSHIP" "Lcom/example/isolation/isolation/EntityKind;").before a0 Z = true := hw _ (List.mem_of_getElem? (i := 22) rfl)
theorem tw23 {Z : State} {a0 : Array Value} (hw : ∀ d ∈ tables_1, d.before a0 Z = true) : (Jvm.Cond.classLink "com/example/isolation/isolation/EntityKey" (8 : Nat) "com/example/isolation/isolation/EntityKey").before a0 Z = true := hw _ (List.mem_of_getElem? (i := 23) rfl)
theorem tw25 {Z : State} {a0 : Array Value} (hw : ∀ d ∈ tables_1, d.before a0 Z = true) : (Jvm.Cond.methodLink "com/example/isolation/isolation/EntityKeyEqualsPinLaw" (25 : Nat) ({ cls := "java/lang/Long", name := "valueOf", desc := "(J)Ljava/lang/Long;" } : Jvm.MethodName)).before a0 Z = true := hw _ (List.mem_of_getElem? (i := 25) rfl)
theorem tw26 {Z : State} {a0 : Array Value} (hw : ∀ d ∈ tables_1, d.before a0 Z = true) : (Jvm.Cond.static ({ cls := "java/lang/Long", name := "valueOf", desc := "(J)Ljava/lang/Long;" } : Jvm.MethodName)).before a0 Z = true := hw _ (List.mem_of_getElem? (i := 26) rfl)
theorem tw27 {Z : State} {a0 : Array Value} (hw : ∀ d ∈ tables_1, d.before a0 Z = true) : (Jvm.Cond.initialized "java/lang/Long").before a0 Z = true := hw _ (List.mem_of_getElem? (i := 27) rfl)
theorem tw28 {Z : State} {a0 : Array Value} (hw : ∀ d ∈ tables_1, d.before a0 Z = true) : (Jvm.Cond.code ({ cls := "java/lang/Long", name := "valueOf", desc := "(J)Ljava/lang/Long;" } : Jvm.MethodName) jdk_35_method_24_code (3 : Nat) (Option.some (Jvm.ClassFile.FieldType.object "java/lang/Long"))).before a0 Z = true := hw _ (List.mem_of_getElem? (i := 28) rfl)
theorem tw29 {Z : State} {a0 : Array Value} (hw : ∀ d ∈ tables_1, d.before a0 Z = true) : (Jvm.Cond.constantLong "java/lang/Long" (230 : Nat) (-128 : Int64)).before a0 Z = true := hw _ (List.mem_of_getElem? (i := 29) rfl)
theorem tw30 {Z : State} {a0 : Array Value} (hw : ∀ d ∈ tables_1, d.before a0 Z = true) : (Jvm.Cond.constantLong "java/lang/Long" (232 : Nat) (127 : Int64)).before a0 Z = true := hw _ (List.mem_of_getElem? (i := 30) rfl)
theorem tw31 {Z : State} {a0 : Array Value} (hw : ∀ d ∈ tables_1, d.before a0 Z = true) : (Jvm.Cond.fieldLink "java/lang/Long" (234 : Nat) "java/lang/Long$LongCache" "cache" "[Ljava/lang/Long;").before a0 Z = true := hw _ (List.mem_of_getElem? (i := 31) rfl)
theorem tw33 {Z : State} {a0 : Array Value} (hw : ∀ d ∈ tables_1, d.before a0 Z = true) : (Jvm.Cond.superclass "java/lang/Long" "java/lang/Number").before a0 Z = true := hw _ (List.mem_of_getElem? (i := 33) rfl)
theorem tw34 {Z : State} {a0 : Array Value} (hw : ∀ d ∈ tables_1, d.before a0 Z = true) : (Jvm.Cond.superclass "java/lang/Number" "java/lang/Object").before a0 Z = true := hw _ (List.mem_of_getElem? (i := 34) rfl)
theorem tw35 {Z : State} {a0 : Array Value} (hw : ∀ d ∈ tables_1, d.before a0 Z = true) : (Jvm.Cond.noSuperclass "java/lang/Object").before a0 Z = true := hw _ (List.mem_of_getElem? (i := 35) rfl)
theorem tw36 {Z : State} {a0 : Array Value} (hw : ∀ d ∈ tables_1, d.before a0 Z = true) : (Jvm.Cond.classLink "java/lang/Long" (1 : Nat) "java/lang/Long").before a0 Z = true := hw _ (List.mem_of_getElem? (i := 36) rfl)
theorem tw37 {Z : State} {a0 : Array Value} (hw : ∀ d ∈ tables_1, d.before a0 Z = true) : (Jvm.Cond.instantiable "java/lang/Long" (1 : Nat)).before a0 Z = true := hw _ (List.mem_of_getElem? (i := 37) rfl)
theorem tw38 {Z : State} {a0 : Array Value} (hw : ∀ d ∈ tables_1, d.before a0 Z = true) : (Jvm.Cond.methodLink "java/lang/Long" (240 : Nat) ({ cls := "java/lang/Long", name := "<init>", desc := "(J)V" } : Jvm.MethodName)).before a0 Z = true := hw _ (List.mem_of_getElem? (i := 38) rfl)
theorem tw39 {Z : State} {a0 : Array Value} (hw : ∀ d ∈ tables_1, d.before a0 Z = true) : (Jvm.Cond.instanceMethod ({ cls := "java/lang/Long", name := "<init>", desc := "(J)V" } : Jvm.MethodName)).before a0 Z = true := hw _ (List.mem_of_getElem? (i := 39) rfl)
theorem tw41 {Z : State} {a0 : Array Value} (hw : ∀ d ∈ tables_1, d.before a0 Z = true) : (Jvm.Cond.code ({ cls := "java/lang/Long", name := "<init>", desc := "(J)V" } : Jvm.MethodName) jdk_35_method_26_code (3 : Nat) (Option.none : Option Jvm.ClassFile.FieldType)).before a0 Z = true := hw _ (List.mem_of_getElem? (i := 41) rfl)
theorem tw42 {Z : State} {a0 : Array Value} (hw : ∀ d ∈ tables_1, d.before a0 Z = true) : (Jvm.Cond.methodLink "java/lang/Long" (270 : Nat) ({ cls := "java/lang/Number", name := "<init>", desc := "()V" } : Jvm.MethodName)).before a0 Z = true := hw _ (List.mem_of_getElem? (i := 42) rfl)
theorem tw43 {Z : State} {a0 : Array Value} (hw : ∀ d ∈ tables_1, d.before a0 Z = true) : (Jvm.Cond.instanceMethod ({ cls := "java/lang/Number", name := "<init>", desc := "()V" } : Jvm.MethodName)).before a0 Z = true := hw _ (List.mem_of_getElem? (i := 43) rfl)
theorem tw46 {Z : State} {a0 : Array Value} (hw : ∀ d ∈ tables_1, d.before a0 Z = true) : (Jvm.Cond.initialized "java/lang/Number").before a0 Z = true := hw _ (List.mem_of_getElem? (i := 46) rfl)
theorem tw47 {Z : State} {a0 : Array Value} (hw : ∀ d ∈ tables_1, d.before a0 Z = true) : (Jvm.Cond.code ({ cls := "java/lang/Number", name := "<init>", desc := "()V" } : Jvm.MethodName) jdk_18_method_1_code (1 : Nat) (Option.none : Option Jvm.ClassFile.FieldType)).before a0 Z = true := hw _ (List.mem_of_getElem? (i := 47) rfl)
theorem tw48 {Z : State} {a0 : Array Value} (hw : ∀ d ∈ tables_1, d.before a0 Z = true) : (Jvm.Cond.methodLink "java/lang/Number" (1 : Nat) ({ cls := "java/lang/Object", name := "<init>", desc := "()V" } : Jvm.MethodName)).before a0 Z = true := hw _ (List.mem_of_getElem? (i := 48) rfl)
theorem tw49 {Z : State} {a0 : Array Value} (hw : ∀ d ∈ tables_1, d.before a0 Z = true) : (Jvm.Cond.fieldLink "java/lang/Long" (273 : Nat) "java/lang/Long" "value" "J").before a0 Z = true := hw _ (List.mem_of_getElem? (i := 49) rfl)
theorem tw50 {Z : State} {a0 : Array Value} (hw : ∀ d ∈ tables_1, d.before a0 Z = true) : (Jvm.Cond.laysFinal "java/lang/Long" "java/lang/Long" "value" "J").before a0 Z = true := hw _ (List.mem_of_getElem? (i := 50) rfl)
abbrev mn0 : MethodName := ⟨"com/example/isolation/isolation/EntityKey", "equals", "(Ljava/lang/Object;)Z"⟩
abbrev mn1 : MethodName := ⟨"java/lang/Number", "<init>", "()V"⟩
abbrev mn2 : MethodName := ⟨"java/lang/Long", "<init>", "(J)V"⟩
abbrev mn3 : MethodName := ⟨"java/lang/Long", "valueOf", "(J)Ljava/lang/Long;"⟩
abbrev mn4 : MethodName := ⟨"com/example/isolation/isolation/EntityKey", "<init>", "(Lcom/example/isolation/isolation/EntityKind;J)V"⟩
theorem pd_4 : parseMethodDescriptor "(J)Ljava/lang/Long;" = some ⟨[.long], some (.object "java/lang/Long")⟩ := by decide +kernel
theorem pd_3 : parseMethodDescriptor "(Ljava/lang/Object;)Z" = some ⟨[(.object "java/lang/Object")], some .boolean⟩ := by decide +kernel
theorem pd_2 : parseMethodDescriptor "(Lcom/example/isolation/isolation/EntityKind;J)V" = some ⟨[(.object "com/example/isolation/isolation/EntityKind"), .long], none⟩ := by decide +kernel
theorem pd_1 : parseMethodDescriptor "(J)V" = some ⟨[.long], none⟩ := by decide +kernel
theorem pd_0 : parseMethodDescriptor "()V" = some ⟨[], none⟩ := by decide +kernel
def OwnF (Z : State) (h : Heap) (w_NODE w_RELATIONSHIP : Addr) : Prop := Sta Z h "com/example/isolation/isolation/EntityKind" "NODE" "Lcom/example/isolation/isolation/EntityKind;" (.ref w_NODE) ∧
  Exa Z h w_NODE "com/example/isolation/isolation/EntityKind" ∧
  Sta Z h "com/example/isolation/isolation/EntityKind" "RELATIONSHIP" "Lcom/example/isolation/isolation/EntityKind;" (.ref w_RELATIONSHIP) ∧
  Exa Z h w_RELATIONSHIP "com/example/isolation/isolation/EntityKind" ∧
  Fld Z h w_NODE "java/lang/Enum" "ordinal" "I" (.int (0 : Int32)) ∧
  Fld Z h w_RELATIONSHIP "java/lang/Enum" "ordinal" "I" (.int (1 : Int32)) ∧
  (∃ w_cache, Sta Z h "java/lang/Long$LongCache" "cache" "[Ljava/lang/Long;" (.ref w_cache) ∧ ∃ (k : ClassId) (W : Nat → Addr), Ary Z h w_cache k (.object "java/lang/Long") 256 (fun i => .ref (W i)) ∧ ∀ i, i < 256 → Exa Z h (W i) "java/lang/Long")
theorem OwnF.ext {Z : State} {h h' : Heap} {w_NODE w_RELATIONSHIP : Addr} (E : Ext h h') (F : OwnF Z h w_NODE w_RELATIONSHIP) : OwnF Z h' w_NODE w_RELATIONSHIP := by
  obtain ⟨S_NODE, E_NODE, S_RELATIONSHIP, E_RELATIONSHIP, F_NODE_ordinal, F_RELATIONSHIP_ordinal, w, S, k, W, A, q⟩ := F
  exact ⟨S_NODE.ext E, E_NODE.ext E, S_RELATIONSHIP.ext E, E_RELATIONSHIP.ext E, F_NODE_ordinal.ext E, F_RELATIONSHIP_ordinal.ext E, w, S.ext E, k, W, A.ext E, fun i hi => (q i hi).ext E⟩
theorem own_noEK {Z : State} {a0 : Array Value} (hw : ∀ d ∈ tables_1, d.before a0 Z = true) : ∃ c t, Z.vm.findClass "java/lang/Long" = some c ∧ Z.vm.findClass "com/example/isolation/isolation/EntityKey" = some t ∧ Z.vm.assignable c t = false := own_no (tw33 hw) (tw4 hw) (NS.step (tw33 hw) (NS.step (tw34 hw) (own_root (tw35 hw) (tw4 hw) (by decide)) (by decide)) (by decide)) (by decide)
theorem d3_0 : decode prog_15_method_3_code 0 = .ok (.aload_n 1, 1) := by decide +kernel
theorem d3_1 : decode prog_15_method_3_code 1 = .ok (.instanceof 8, 3) := by decide +kernel
theorem d3_4 : decode prog_15_method_3_code 4 = .ok (.ifCond .eq 35, 3) := by decide +kernel
theorem d3_39 : decode prog_15_method_3_code 39 = .ok (.iconst 0, 1) := by decide +kernel
theorem d3_40 : decode prog_15_method_3_code 40 = .ok (.ireturn, 1) := by decide +kernel
theorem pn_rm_eqL : plainName "com/example/isolation/isolation/EntityKey" = true := by first | (simp [plainName, overriddenIn]; done) | decide +kernel
set_option maxRecDepth 65536 in
set_option maxHeartbeats 40000000 in
theorem rm_eqL (l : Launch) (Z : State) (a0 : Array Value) (hw : ∀ d ∈ tables_1, d.before a0 Z = true) (o qL : Addr) (h0 : Heap) (EL : Exa Z h0 qL "java/lang/Long") :
    OMeets l Z mn0 prog_15_method_3_code 3 (some .boolean) [] ({ frames := 0, cells := 0, slots := 0, locals := 0 } : Room) #[(.ref o), (.ref qL)] h0 (PureQ (some (.int (0 : Int32))) h0) := by
  refine OMeets.of pn_rm_eqL #[.val (.ref o), .val (.ref qL), .unset] (fun m => by first | rfl | (simp [entryFrame, mkF, argsToLocals, Value.category, maxLocals]; done)) ?_
  intro p e s m below meth c s₁ B X0 e0
  refine s_aloadN B X0 (pc' := 1) d3_0 rfl rfl rfl ?_
  refine s_instNo B X0 (pc' := 4) e0 (tw23 hw) EL (own_noEK hw) d3_1 rfl (fun T1 X1 e1 => ?_)
  refine s_ifY B X1 (pc' := 39) d3_4 (by decide) (by decide) (by decide) ?_
  refine s_iconst B X1 (pc' := 40) (v := (0 : Int32)) d3_39 rfl rfl ?_
  exact r_nar B X1 (t := .boolean) (by simp) rfl d3_40 ⟨rfl, rfl, e1⟩ (by decide) (by decide)
theorem own_cache {x : Int64} (h0 : ¬ x < -128) (h1 : ¬ 127 < x) : ¬ x.toInt32 + 128 < 0 ∧ (x.toInt32 + 128).toNatClampNeg < 256 := by
  have a : (-128 : Int64).toInt = -128 := by decide
  have b : (127 : Int64).toInt = 127 := by decide
  have d : (128 : Int32).toInt = 128 := by decide
  have z : (0 : Int32).toInt = 0 := by decide
  simp only [Int64.lt_iff_toInt_lt, a, b] at h0 h1
  have e := c_l2i x; have r := rng32 x.toInt32; have e2 := c_iadd x.toInt32 128; have r2 := rng32 (x.toInt32 + 128)
  simp only [Int32.lt_iff_toInt_lt, Int32.toNatClampNeg, z]; omega
theorem d6_0 : decode jdk_18_method_1_code 0 = .ok (.aload_n 0, 1) := by decide +kernel
theorem d6_1 : decode jdk_18_method_1_code 1 = .ok (.invokespecial 1, 3) := by decide +kernel
theorem d6_4 : decode jdk_18_method_1_code 4 = .ok (.return_, 1) := by decide +kernel
theorem pn_mm6_0 : plainName "java/lang/Number" = true := by first | (simp [plainName, overriddenIn]; done) | decide +kernel
set_option maxRecDepth 65536 in
set_option maxHeartbeats 40000000 in
theorem mm6_0 (l : Launch) (Z : State) (a0 : Array Value) (hw : ∀ d ∈ tables_1, d.before a0 Z = true) (b0 : Addr) (w_NODE w_RELATIONSHIP : Addr) (h0 : Heap) (FZ : OwnF Z Z.heap w_NODE w_RELATIONSHIP) (O0 : Old Z Z.heap.size h0) (ge_b0 : Z.heap.size ≤ b0) (E_b0 : Exa Z h0 b0 "java/lang/Long") (D_b0_value : Fld Z h0 b0 "java/lang/Long" "value" "J" (.long (0 : Int64)))  :
    OMeets l Z mn1 jdk_18_method_1_code 1 none [] ({ frames := 1, cells := 0, slots := 0, locals := 12 } : Room) #[(.ref b0)] h0 (PureQ none h0) := by
  refine OMeets.of pn_mm6_0 #[.val (.ref b0)] (fun m => by first | rfl | (simp [entryFrame, mkF, argsToLocals, Value.category, maxLocals]; done)) ?_
  intro p e s m below meth c s₁ B X0 e0
  have F0 := OwnF.ext O0.2 FZ
  obtain ⟨S_NODE, E_NODE, S_RELATIONSHIP, E_RELATIONSHIP, F_NODE_ordinal, F_RELATIONSHIP_ordinal, T_cache⟩ := id F0
  refine s_aloadN B X0 (pc' := 1) d6_0 rfl rfl rfl ?_
  refine s_initO B X0 (pc' := 4) (W := 0) e0 (tw48 hw) (tw10 hw) (tw11 hw) rfl (by decide) (by decide) rfl d6_1 rfl (fun T1 X1 e1 => ?_)
  exact r_void B X1 rfl d6_4 ⟨rfl, rfl, e1⟩ (by decide) (by decide)
theorem d5_0 : decode jdk_35_method_26_code 0 = .ok (.aload_n 0, 1) := by decide +kernel
theorem d5_1 : decode jdk_35_method_26_code 1 = .ok (.invokespecial 270, 3) := by decide +kernel
theorem d5_4 : decode jdk_35_method_26_code 4 = .ok (.aload_n 0, 1) := by decide +kernel
theorem d5_5 : decode jdk_35_method_26_code 5 = .ok (.lload_n 1, 1) := by decide +kernel
theorem d5_6 : decode jdk_35_method_26_code 6 = .ok (.putfield 273, 3) := by decide +kernel
theorem d5_9 : decode jdk_35_method_26_code 9 = .ok (.return_, 1) := by decide +kernel
theorem pn_mm5_0 : plainName "java/lang/Long" = true := by first | (simp [plainName, overriddenIn]; done) | decide +kernel
set_option maxRecDepth 65536 in
set_option maxHeartbeats 40000000 in
theorem mm5_0 (l : Launch) (Z : State) (a0 : Array Value) (hw : ∀ d ∈ tables_1, d.before a0 Z = true) (b0 : Addr) (q1 : Int64) (w_NODE w_RELATIONSHIP : Addr) (h0 : Heap) (FZ : OwnF Z Z.heap w_NODE w_RELATIONSHIP) (O0 : Old Z Z.heap.size h0) (ge_b0 : Z.heap.size ≤ b0) (E_b0 : Exa Z h0 b0 "java/lang/Long") (D_b0_value : Fld Z h0 b0 "java/lang/Long" "value" "J" (.long (0 : Int64))) (hk0 : q1 < (-128 : Int64)) :
    OMeets l Z mn2 jdk_35_method_26_code 3 none [] ({ frames := 2, cells := 0, slots := 0, locals := 24 } : Room) #[(.ref b0), (.long q1)] h0 (fun v h L => v = none ∧ Fr Z.heap.size L ∧ Keep h0 h [b0] ∧ Fld Z h b0 "java/lang/Long" "value" "J" (.long q1)) := by
  refine OMeets.of pn_mm5_0 #[.val (.ref b0), .val (.long q1), .second] (fun m => by first | rfl | (simp [entryFrame, mkF, argsToLocals, Value.category, maxLocals]; done)) ?_
  intro p e s m below meth c s₁ B X0 e0
  have F0 := OwnF.ext O0.2 FZ
  obtain ⟨S_NODE, E_NODE, S_RELATIONSHIP, E_RELATIONSHIP, F_NODE_ordinal, F_RELATIONSHIP_ordinal, T_cache⟩ := id F0
  refine s_aloadN B X0 (pc' := 1) d5_0 rfl rfl rfl ?_
  refine p_init B X0 (y := mn1) (pc' := 4) (argsL := []) (under := []) (W := 0) e0 rfl (tw42 hw) (tw43 hw) (tw47 hw) (tw46 hw) (by decide) (mm6_0 l Z a0 hw b0 w_NODE w_RELATIONSHIP h0 FZ O0 ge_b0 E_b0 D_b0_value ) (lenOf pd_0 rfl) rfl rfl (by decide) (by decide) rfl rfl (by decide) (by decide) rfl d5_1 rfl (fun T1 X1 e1 => ?_)
  show Go p e below _ (T1.setTop (mkF m 4 #[.val (.ref b0), .val (.long q1), .second] []))
  refine s_aloadN B X1 (pc' := 5) d5_4 rfl rfl rfl ?_
  refine s_lloadN B X1 (pc' := 6) d5_5 rfl rfl ?_
  refine s_putF B X1 (pc' := 9) (ty := .long) e1 (host := "") (Or.inl (tw49 hw)) Via.refl D_b0_value E_b0 (Or.inr ⟨(tw50 hw), rfl, rfl⟩) (tw37 hw) (by decide) rfl rfl d5_6 rfl (fun T2 h2 X2 e2 W2 => ?_)
  have G2 := D_b0_value.same W2
  have N2 := Fr.snoc X2 (Fr.nil _) ge_b0
  have O2 := (O0).wr W2 ge_b0
  have F2 := OwnF.ext O2.2 FZ
  have K2 := ((Keep.refl h0 [b0])).wr W2 (Or.inl (List.mem_of_getElem? (i := 0) rfl))
  show Go p e below _ (T2.setTop (mkF m 9 #[.val (.ref b0), .val (.long q1), .second] []))
  exact r_void B X2 rfl d5_9 (by rw [e2]; exact ⟨rfl, N2, K2, G2⟩) (by decide) (by decide)

theorem pn_mm5_2 : plainName "java/lang/Long" = true := by first | (simp [plainName, overriddenIn]; done) | decide +kernel
set_option maxRecDepth 65536 in
set_option maxHeartbeats 40000000 in
theorem mm5_2 (l : Launch) (Z : State) (a0 : Array Value) (hw : ∀ d ∈ tables_1, d.before a0 Z = true) (b0 : Addr) (q1 : Int64) (w_NODE w_RELATIONSHIP : Addr) (h0 : Heap) (FZ : OwnF Z Z.heap w_NODE w_RELATIONSHIP) (O0 : Old Z Z.heap.size h0) (ge_b0 : Z.heap.size ≤ b0) (E_b0 : Exa Z h0 b0 "java/lang/Long") (D_b0_value : Fld Z h0 b0 "java/lang/Long" "value" "J" (.long (0 : Int64))) (hk0 : ¬ q1 < (-128 : Int64)) (hk1 : (127 : Int64) < q1) :
    OMeets l Z mn2 jdk_35_method_26_code 3 none [] ({ frames := 2, cells := 0, slots := 0, locals := 24 } : Room) #[(.ref b0), (.long q1)] h0 (fun v h L => v = none ∧ Fr Z.heap.size L ∧ Keep h0 h [b0] ∧ Fld Z h b0 "java/lang/Long" "value" "J" (.long q1)) := by
  refine OMeets.of pn_mm5_2 #[.val (.ref b0), .val (.long q1), .second] (fun m => by first | rfl | (simp [entryFrame, mkF, argsToLocals, Value.category, maxLocals]; done)) ?_
  intro p e s m below meth c s₁ B X0 e0
  have F0 := OwnF.ext O0.2 FZ
  obtain ⟨S_NODE, E_NODE, S_RELATIONSHIP, E_RELATIONSHIP, F_NODE_ordinal, F_RELATIONSHIP_ordinal, T_cache⟩ := id F0
  refine s_aloadN B X0 (pc' := 1) d5_0 rfl rfl rfl ?_
  refine p_init B X0 (y := mn1) (pc' := 4) (argsL := []) (under := []) (W := 0) e0 rfl (tw42 hw) (tw43 hw) (tw47 hw) (tw46 hw) (by decide) (mm6_0 l Z a0 hw b0 w_NODE w_RELATIONSHIP h0 FZ O0 ge_b0 E_b0 D_b0_value ) (lenOf pd_0 rfl) rfl rfl (by decide) (by decide) rfl rfl (by decide) (by decide) rfl d5_1 rfl (fun T1 X1 e1 => ?_)
  show Go p e below _ (T1.setTop (mkF m 4 #[.val (.ref b0), .val (.long q1), .second] []))
  refine s_aloadN B X1 (pc' := 5) d5_4 rfl rfl rfl ?_
  refine s_lloadN B X1 (pc' := 6) d5_5 rfl rfl ?_
  refine s_putF B X1 (pc' := 9) (ty := .long) e1 (host := "") (Or.inl (tw49 hw)) Via.refl D_b0_value E_b0 (Or.inr ⟨(tw50 hw), rfl, rfl⟩) (tw37 hw) (by decide) rfl rfl d5_6 rfl (fun T2 h2 X2 e2 W2 => ?_)
  have G2 := D_b0_value.same W2
  have N2 := Fr.snoc X2 (Fr.nil _) ge_b0
  have O2 := (O0).wr W2 ge_b0
  have F2 := OwnF.ext O2.2 FZ
  have K2 := ((Keep.refl h0 [b0])).wr W2 (Or.inl (List.mem_of_getElem? (i := 0) rfl))
  show Go p e below _ (T2.setTop (mkF m 9 #[.val (.ref b0), .val (.long q1), .second] []))
  exact r_void B X2 rfl d5_9 (by rw [e2]; exact ⟨rfl, N2, K2, G2⟩) (by decide) (by decide)
theorem d4_0 : decode jdk_35_method_24_code 0 = .ok (.sipush 128, 3) := by decide +kernel
theorem d4_3 : decode jdk_35_method_24_code 3 = .ok (.istore_n 2, 1) := by decide +kernel
theorem d4_4 : decode jdk_35_method_24_code 4 = .ok (.lload_n 0, 1) := by decide +kernel
theorem d4_5 : decode jdk_35_method_24_code 5 = .ok (.ldc2_w 230, 3) := by decide +kernel
theorem d4_8 : decode jdk_35_method_24_code 8 = .ok (.lcmp, 1) := by decide +kernel
theorem d4_9 : decode jdk_35_method_24_code 9 = .ok (.ifCond .lt 22, 3) := by decide +kernel
theorem d4_12 : decode jdk_35_method_24_code 12 = .ok (.lload_n 0, 1) := by decide +kernel
theorem d4_13 : decode jdk_35_method_24_code 13 = .ok (.ldc2_w 232, 3) := by decide +kernel
theorem d4_16 : decode jdk_35_method_24_code 16 = .ok (.lcmp, 1) := by decide +kernel
theorem d4_17 : decode jdk_35_method_24_code 17 = .ok (.ifCond .gt 14, 3) := by decide +kernel
theorem d4_20 : decode jdk_35_method_24_code 20 = .ok (.getstatic 234, 3) := by decide +kernel
theorem d4_23 : decode jdk_35_method_24_code 23 = .ok (.lload_n 0, 1) := by decide +kernel
theorem d4_24 : decode jdk_35_method_24_code 24 = .ok (.l2i, 1) := by decide +kernel
theorem d4_25 : decode jdk_35_method_24_code 25 = .ok (.sipush 128, 3) := by decide +kernel
theorem d4_28 : decode jdk_35_method_24_code 28 = .ok (.iadd, 1) := by decide +kernel
theorem d4_29 : decode jdk_35_method_24_code 29 = .ok (.aaload, 1) := by decide +kernel
theorem d4_30 : decode jdk_35_method_24_code 30 = .ok (.areturn, 1) := by decide +kernel
theorem d4_31 : decode jdk_35_method_24_code 31 = .ok (.new 1, 3) := by decide +kernel
theorem d4_34 : decode jdk_35_method_24_code 34 = .ok (.dup, 1) := by decide +kernel
theorem d4_35 : decode jdk_35_method_24_code 35 = .ok (.lload_n 0, 1) := by decide +kernel
theorem d4_36 : decode jdk_35_method_24_code 36 = .ok (.invokespecial 240, 3) := by decide +kernel
theorem d4_39 : decode jdk_35_method_24_code 39 = .ok (.areturn, 1) := by decide +kernel
theorem pn_rm_valueOf : plainName "java/lang/Long" = true := by first | (simp [plainName, overriddenIn]; done) | decide +kernel
set_option maxRecDepth 65536 in
set_option maxHeartbeats 40000000 in
theorem rm_valueOf (l : Launch) (Z : State) (a0 : Array Value) (hw : ∀ d ∈ tables_1, d.before a0 Z = true) (x : Int64) (w_NODE w_RELATIONSHIP : Addr) (h0 : Heap) (FZ : OwnF Z Z.heap w_NODE w_RELATIONSHIP) (O0 : Old Z Z.heap.size h0) :
    OMeets l Z mn3 jdk_35_method_24_code 3 (some (.object "java/lang/Long")) [] ({ frames := 3, cells := 1, slots := 1, locals := 39 } : Room) #[(.long x)] h0 (fun v h L => ∃ q, v = some (.ref q) ∧ Fr Z.heap.size L ∧ Keep h0 h [] ∧ Exa Z h q "java/lang/Long") := by
  refine OMeets.of pn_rm_valueOf #[.val (.long x), .second, .unset] (fun m => by first | rfl | (simp [entryFrame, mkF, argsToLocals, Value.category, maxLocals]; done)) ?_
  intro p e s m below meth c s₁ B X0 e0
  have F0 := OwnF.ext O0.2 FZ
  obtain ⟨S_NODE, E_NODE, S_RELATIONSHIP, E_RELATIONSHIP, F_NODE_ordinal, F_RELATIONSHIP_ordinal, T_cache⟩ := id F0
  obtain ⟨wC, SC, kC, W, AC, hC⟩ := T_cache
  refine s_sipush B X0 (pc' := 3) (v := (128 : Int32)) d4_0 rfl rfl ?_
  refine s_istoreN B X0 (pc' := 4) (Ls' := #[.val (.long x), .second, .val (.int (128 : Int32))]) d4_3 rfl rfl ?_
  refine s_lloadN B X0 (pc' := 5) d4_4 rfl rfl ?_
  refine s_ldc2 B X0 (pc' := 8) (v := (-128 : Int64)) (tw29 hw) d4_5 rfl ?_
  refine b_lcmp_lt B X0 (py := 31) (pn := 12) d4_8 rfl d4_9 (by decide) (by decide) rfl (fun hc8_1 => ?_) (fun hc8_1 => ?_)
  · refine s_new B X0 (pc' := 34) (n0 := 1) e0 (tw36 hw) (tw37 hw) (tw27 hw) (by decide) (by decide) d4_31 rfl (fun T2 h2 o2 g2 X2 e2 E2 A2 D2 => ?_)
    have ge_o2 : Z.heap.size ≤ o2 := g2 ▸ old_le O0
    have le_o2 : h0.size ≤ o2 := g2 ▸ ((Keep.refl h0 [])).1
    have O2 := (O0).ext E2
    have F2 := OwnF.ext O2.2 FZ
    have K2 := ((Keep.refl h0 [])).ext E2
    have D2_value : Fld Z h2 o2 "java/lang/Long" "value" "J" (.long (0 : Int64)) := D2 (Or.inr (tw50 hw)) (ty := .long) (by decide)
    show Go p e below _ (T2.setTop (mkF m 34 #[.val (.long x), .second, .val (.int (128 : Int32))] [(.ref o2)]))
    refine s_dup B X2 (pc' := 35) d4_34 rfl rfl ?_
    refine s_lloadN B X2 (pc' := 36) d4_35 rfl rfl ?_
    refine c_init B X2 (y := mn2) (pc' := 39) (argsL := [(.long x)]) (under := [(.ref o2)]) (W := 1) e2 rfl (tw38 hw) (tw39 hw) (tw41 hw) (tw27 hw) (by decide) (mm5_0 l Z a0 hw o2 x w_NODE w_RELATIONSHIP h2 FZ O2 ge_o2 A2 D2_value hc8_1) (lenOf pd_1 rfl) rfl rfl (by decide) (by decide) (by decide) (by decide) rfl d4_36 rfl (fun v3 T3 L3 X3 hQ3 => ?_)
    obtain ⟨rfl, Nq3, Kq3, u3_0⟩ := hQ3
    obtain ⟨h3, e3⟩ : ∃ z, T3.heap = z := ⟨_, rfl⟩
    rw [e3] at Kq3 u3_0
    have N3 := Fr.app (Fr.nil _) Nq3
    have O3 := (O2).keep Kq3 (allS ge_o2 all0)
    have F3 := OwnF.ext O3.2 FZ
    have K3 := (K2).trans Kq3 (allS (Or.inr le_o2) all0)
    show Go p e below _ (T3.setTop (mkF m 39 #[.val (.long x), .second, .val (.int (128 : Int32))] [(.ref o2)]))
    have f4 := (A2.keep Kq3)
    exact r_ref B X3 (t := (.object "java/lang/Long")) rfl rfl rfl rfl d4_39 (by rw [e3]; exact ⟨_, rfl, N3, K3, f4⟩) (by decide) (by decide)
  · refine s_lloadN B X0 (pc' := 13) d4_12 rfl rfl ?_
    refine s_ldc2 B X0 (pc' := 16) (v := (127 : Int64)) (tw30 hw) d4_13 rfl ?_
    refine b_lcmp_gt B X0 (py := 31) (pn := 20) d4_16 rfl d4_17 (by decide) (by decide) rfl (fun hc16_5 => ?_) (fun hc16_5 => ?_)
    · refine s_new B X0 (pc' := 34) (n0 := 1) e0 (tw36 hw) (tw37 hw) (tw27 hw) (by decide) (by decide) d4_31 rfl (fun T6 h6 o6 g6 X6 e6 E6 A6 D6 => ?_)
      have ge_o6 : Z.heap.size ≤ o6 := g6 ▸ old_le O0
      have le_o6 : h0.size ≤ o6 := g6 ▸ ((Keep.refl h0 [])).1
      have O6 := (O0).ext E6
      have F6 := OwnF.ext O6.2 FZ
      have K6 := ((Keep.refl h0 [])).ext E6
      have D6_value : Fld Z h6 o6 "java/lang/Long" "value" "J" (.long (0 : Int64)) := D6 (Or.inr (tw50 hw)) (ty := .long) (by decide)
      show Go p e below _ (T6.setTop (mkF m 34 #[.val (.long x), .second, .val (.int (128 : Int32))] [(.ref o6)]))
      refine s_dup B X6 (pc' := 35) d4_34 rfl rfl ?_
      refine s_lloadN B X6 (pc' := 36) d4_35 rfl rfl ?_
      refine c_init B X6 (y := mn2) (pc' := 39) (argsL := [(.long x)]) (under := [(.ref o6)]) (W := 1) e6 rfl (tw38 hw) (tw39 hw) (tw41 hw) (tw27 hw) (by decide) (mm5_2 l Z a0 hw o6 x w_NODE w_RELATIONSHIP h6 FZ O6 ge_o6 A6 D6_value hc8_1 hc16_5) (lenOf pd_1 rfl) rfl rfl (by decide) (by decide) (by decide) (by decide) rfl d4_36 rfl (fun v7 T7 L7 X7 hQ7 => ?_)
      obtain ⟨rfl, Nq7, Kq7, u7_0⟩ := hQ7
      obtain ⟨h7, e7⟩ : ∃ z, T7.heap = z := ⟨_, rfl⟩
      rw [e7] at Kq7 u7_0
      have N7 := Fr.app (Fr.nil _) Nq7
      have O7 := (O6).keep Kq7 (allS ge_o6 all0)
      have F7 := OwnF.ext O7.2 FZ
      have K7 := (K6).trans Kq7 (allS (Or.inr le_o6) all0)
      show Go p e below _ (T7.setTop (mkF m 39 #[.val (.long x), .second, .val (.int (128 : Int32))] [(.ref o6)]))
      have f8 := (A6.keep Kq7)
      exact r_ref B X7 (t := (.object "java/lang/Long")) rfl rfl rfl rfl d4_39 (by rw [e7]; exact ⟨_, rfl, N7, K7, f8⟩) (by decide) (by decide)
    · refine s_getS B X0 (pc' := 23) e0 (tw31 hw) Via.refl SC d4_20 rfl (fun T9 X9 e9 => ?_)
      refine s_lloadN B X9 (pc' := 24) d4_23 rfl rfl ?_
      refine s_l2i B X9 (pc' := 25) (v := x.toInt32) d4_24 rfl rfl ?_
      refine s_sipush B X9 (pc' := 28) (v := (128 : Int32)) d4_25 rfl rfl ?_
      refine s_iadd B X9 (pc' := 29) (v := (x.toInt32 + (128 : Int32))) d4_28 rfl rfl ?_
      refine s_ldR B X9 (pc' := 30) (jn := (x.toInt32 + 128).toNatClampNeg) (v := (.ref (W (x.toInt32 + 128).toNatClampNeg))) e9 AC rfl (own_cache hc8_1 hc16_5).1 rfl (own_cache hc8_1 hc16_5).2 rfl d4_29 rfl ?_
      exact r_ref B X9 (t := (.object "java/lang/Long")) rfl rfl rfl rfl d4_30 ⟨_, rfl, (Fr.nil _), by rw [e9]; exact Keep.refl _ _, by rw [e9]; exact hC _ (own_cache hc8_1 hc16_5).2⟩ (by decide) (by decide)
theorem d1_0 : decode prog_15_method_1_code 0 = .ok (.aload_n 0, 1) := by decide +kernel
theorem d1_1 : decode prog_15_method_1_code 1 = .ok (.invokespecial 1, 3) := by decide +kernel
theorem d1_4 : decode prog_15_method_1_code 4 = .ok (.aload_n 0, 1) := by decide +kernel
theorem d1_5 : decode prog_15_method_1_code 5 = .ok (.aload_n 1, 1) := by decide +kernel
theorem d1_6 : decode prog_15_method_1_code 6 = .ok (.putfield 7, 3) := by decide +kernel
theorem d1_9 : decode prog_15_method_1_code 9 = .ok (.aload_n 0, 1) := by decide +kernel
theorem d1_10 : decode prog_15_method_1_code 10 = .ok (.lload_n 2, 1) := by decide +kernel
theorem d1_11 : decode prog_15_method_1_code 11 = .ok (.putfield 13, 3) := by decide +kernel
theorem d1_14 : decode prog_15_method_1_code 14 = .ok (.return_, 1) := by decide +kernel
theorem pn_mm1_3 : plainName "com/example/isolation/isolation/EntityKey" = true := by first | (simp [plainName, overriddenIn]; done) | decide +kernel
set_option maxRecDepth 65536 in
set_option maxHeartbeats 40000000 in
theorem mm1_3 (l : Launch) (Z : State) (a0 : Array Value) (hw : ∀ d ∈ tables_1, d.before a0 Z = true) (b0 : Addr) (q1 : Int64) (w_NODE w_RELATIONSHIP : Addr) (h0 : Heap) (FZ : OwnF Z Z.heap w_NODE w_RELATIONSHIP) (O0 : Old Z Z.heap.size h0) (ge_b0 : Z.heap.size ≤ b0) (E_b0 : Exa Z h0 b0 "com/example/isolation/isolation/EntityKey") (D_b0_id : Fld Z h0 b0 "com/example/isolation/isolation/EntityKey" "id" "J" (.long (0 : Int64))) (D_b0_kind : Fld Z h0 b0 "com/example/isolation/isolation/EntityKey" "kind" "Lcom/example/isolation/isolation/EntityKind;" .null)  :
    OMeets l Z mn4 prog_15_method_1_code 4 none [] ({ frames := 1, cells := 0, slots := 0, locals := 12 } : Room) #[(.ref b0), (.ref w_NODE), (.long q1)] h0 (fun v h L => v = none ∧ Fr Z.heap.size L ∧ Keep h0 h [b0] ∧ Fld Z h b0 "com/example/isolation/isolation/EntityKey" "id" "J" (.long q1) ∧ Fld Z h b0 "com/example/isolation/isolation/EntityKey" "kind" "Lcom/example/isolation/isolation/EntityKind;" (.ref w_NODE)) := by
  refine OMeets.of pn_mm1_3 #[.val (.ref b0), .val (.ref w_NODE), .val (.long q1), .second] (fun m => by first | rfl | (simp [entryFrame, mkF, argsToLocals, Value.category, maxLocals]; done)) ?_
  intro p e s m below meth c s₁ B X0 e0
  have F0 := OwnF.ext O0.2 FZ
  obtain ⟨S_NODE, E_NODE, S_RELATIONSHIP, E_RELATIONSHIP, F_NODE_ordinal, F_RELATIONSHIP_ordinal, T_cache⟩ := id F0
  refine s_aloadN B X0 (pc' := 1) d1_0 rfl rfl rfl ?_
  refine s_initO B X0 (pc' := 4) (W := 0) e0 (tw9 hw) (tw10 hw) (tw11 hw) rfl (by decide) (by decide) rfl d1_1 rfl (fun T1 X1 e1 => ?_)
  refine s_aloadN B X1 (pc' := 5) d1_4 rfl rfl rfl ?_
  refine s_aloadN B X1 (pc' := 6) d1_5 rfl rfl rfl ?_
  refine s_putF B X1 (pc' := 9) (ty := (.object "com/example/isolation/isolation/EntityKind")) e1 (host := "") (Or.inl (tw12 hw)) Via.refl D_b0_kind E_b0 (Or.inr ⟨(tw13 hw), rfl, rfl⟩) (tw4 hw) (by decide) rfl rfl d1_6 rfl (fun T2 h2 X2 e2 W2 => ?_)
  have G2 := D_b0_kind.same W2
  have N2 := Fr.snoc X2 (Fr.nil _) ge_b0
  have O2 := (O0).wr W2 ge_b0
  have F2 := OwnF.ext O2.2 FZ
  have K2 := ((Keep.refl h0 [b0])).wr W2 (Or.inl (List.mem_of_getElem? (i := 0) rfl))
  show Go p e below _ (T2.setTop (mkF m 9 #[.val (.ref b0), .val (.ref w_NODE), .val (.long q1), .second] []))
  refine s_aloadN B X2 (pc' := 10) d1_9 rfl rfl rfl ?_
  refine s_lloadN B X2 (pc' := 11) d1_10 rfl rfl ?_
  have f4 := (D_b0_id.other W2 (Or.inr (slot_ne (Or.inr (tw15 hw)) (Or.inr (tw13 hw)) (by decide) (t := .long) (t' := (.object "com/example/isolation/isolation/EntityKind")) (by decide) (by decide))))
  have f5 := (E_b0.wr W2)
  refine s_putF B X2 (pc' := 14) (ty := .long) e2 (host := "") (Or.inl (tw14 hw)) Via.refl f4 f5 (Or.inr ⟨(tw15 hw), rfl, rfl⟩) (tw4 hw) (by decide) rfl rfl d1_11 rfl (fun T3 h3 X3 e3 W3 => ?_)
  have G3 := f4.same W3
  have N3 := Fr.snoc X3 N2 ge_b0
  have O3 := (O2).wr W3 ge_b0
  have F3 := OwnF.ext O3.2 FZ
  have K3 := (K2).wr W3 (Or.inl (List.mem_of_getElem? (i := 0) rfl))
  show Go p e below _ (T3.setTop (mkF m 14 #[.val (.ref b0), .val (.ref w_NODE), .val (.long q1), .second] []))
  have f6 := (G2.other W3 (Or.inr (slot_ne (Or.inr (tw13 hw)) (Or.inr (tw15 hw)) (by decide) (t := (.object "com/example/isolation/isolation/EntityKind")) (t' := .long) (by decide) (by decide))))
  exact r_void B X3 rfl d1_14 (by rw [e3]; exact ⟨rfl, N3, K3, G3, f6⟩) (by decide) (by decide)
theorem d3_7 : decode prog_15_method_3_code 7 = .ok (.aload_n 1, 1) := by decide +kernel
theorem d3_8 : decode prog_15_method_3_code 8 = .ok (.checkcast 8, 3) := by decide +kernel
theorem d3_11 : decode prog_15_method_3_code 11 = .ok (.astore_n 2, 1) := by decide +kernel
theorem d3_12 : decode prog_15_method_3_code 12 = .ok (.aload_n 2, 1) := by decide +kernel
theorem d3_13 : decode prog_15_method_3_code 13 = .ok (.getfield 7, 3) := by decide +kernel
theorem d3_16 : decode prog_15_method_3_code 16 = .ok (.aload_n 0, 1) := by decide +kernel
theorem d3_17 : decode prog_15_method_3_code 17 = .ok (.getfield 7, 3) := by decide +kernel
theorem d3_20 : decode prog_15_method_3_code 20 = .ok (.if_acmp .ne 19, 3) := by decide +kernel
theorem d3_23 : decode prog_15_method_3_code 23 = .ok (.aload_n 2, 1) := by decide +kernel
theorem d3_24 : decode prog_15_method_3_code 24 = .ok (.getfield 13, 3) := by decide +kernel
theorem d3_27 : decode prog_15_method_3_code 27 = .ok (.aload_n 0, 1) := by decide +kernel
theorem d3_28 : decode prog_15_method_3_code 28 = .ok (.getfield 13, 3) := by decide +kernel
theorem d3_31 : decode prog_15_method_3_code 31 = .ok (.lcmp, 1) := by decide +kernel
theorem d3_32 : decode prog_15_method_3_code 32 = .ok (.ifCond .ne 7, 3) := by decide +kernel
theorem d3_35 : decode prog_15_method_3_code 35 = .ok (.iconst 1, 1) := by decide +kernel
theorem d3_36 : decode prog_15_method_3_code 36 = .ok (.goto 4, 3) := by decide +kernel
theorem pn_mm3_4 : plainName "com/example/isolation/isolation/EntityKey" = true := by first | (simp [plainName, overriddenIn]; done) | decide +kernel
set_option maxRecDepth 65536 in
set_option maxHeartbeats 40000000 in
theorem mm3_4 (l : Launch) (Z : State) (a0 : Array Value) (hw : ∀ d ∈ tables_1, d.before a0 Z = true) (b0 : Addr) (b1 : Addr) (q2 : Int64) (q3 : Int64) (w_NODE w_RELATIONSHIP : Addr) (h0 : Heap) (FZ : OwnF Z Z.heap w_NODE w_RELATIONSHIP) (O0 : Old Z Z.heap.size h0) (ge_b0 : Z.heap.size ≤ b0) (E_b0 : Exa Z h0 b0 "com/example/isolation/isolation/EntityKey") (D_b0_id : Fld Z h0 b0 "com/example/isolation/isolation/EntityKey" "id" "J" (.long q2)) (D_b0_kind : Fld Z h0 b0 "com/example/isolation/isolation/EntityKey" "kind" "Lcom/example/isolation/isolation/EntityKind;" (.ref w_NODE)) (ge_b1 : Z.heap.size ≤ b1) (E_b1 : Exa Z h0 b1 "com/example/isolation/isolation/EntityKey") (D_b1_id : Fld Z h0 b1 "com/example/isolation/isolation/EntityKey" "id" "J" (.long q3)) (D_b1_kind : Fld Z h0 b1 "com/example/isolation/isolation/EntityKey" "kind" "Lcom/example/isolation/isolation/EntityKind;" (.ref w_NODE)) (ne_b0_b1 : b0 ≠ b1) (hk0 : q2 = q3) :
    OMeets l Z mn0 prog_15_method_3_code 3 (some .boolean) [] ({ frames := 0, cells := 0, slots := 0, locals := 0 } : Room) #[(.ref b0), (.ref b1)] h0 (PureQ (some (.int (1 : Int32))) h0) := by
  refine OMeets.of pn_mm3_4 #[.val (.ref b0), .val (.ref b1), .unset] (fun m => by first | rfl | (simp [entryFrame, mkF, argsToLocals, Value.category, maxLocals]; done)) ?_
  intro p e s m below meth c s₁ B X0 e0
  have F0 := OwnF.ext O0.2 FZ
  obtain ⟨S_NODE, E_NODE, S_RELATIONSHIP, E_RELATIONSHIP, F_NODE_ordinal, F_RELATIONSHIP_ordinal, T_cache⟩ := id F0
  refine s_aloadN B X0 (pc' := 1) d3_0 rfl rfl rfl ?_
  refine s_instY B X0 (pc' := 4) e0 (tw23 hw) (Ins.self E_b1) d3_1 rfl (fun T1 X1 e1 => ?_)
  refine s_ifN B X1 (pc' := 7) d3_4 (by decide) rfl ?_
  refine s_aloadN B X1 (pc' := 8) d3_7 rfl rfl rfl ?_
  refine s_castY B X1 (pc' := 11) e1 (tw23 hw) (Ins.self E_b1) d3_8 rfl (fun T2 X2 e2 => ?_)
  refine s_astoreN B X2 (pc' := 12) (Ls' := #[.val (.ref b0), .val (.ref b1), .val (.ref b1)]) d3_11 rfl rfl rfl ?_
  refine s_aloadN B X2 (pc' := 13) d3_12 rfl rfl rfl ?_
  refine s_getF B X2 (pc' := 16) e2 (host := "") (Or.inl (tw12 hw)) Via.refl D_b1_kind d3_13 rfl (fun T3 X3 e3 => ?_)
  refine s_aloadN B X3 (pc' := 17) d3_16 rfl rfl rfl ?_
  refine s_getF B X3 (pc' := 20) e3 (host := "") (Or.inl (tw12 hw)) Via.refl D_b0_kind d3_17 rfl (fun T4 X4 e4 => ?_)
  refine b_acmp_ne B X4 (py := 39) (pn := 23) d3_20 (by decide) (by decide) rfl (fun q => absurd rfl q) (fun _ => ?_)
  refine s_aloadN B X4 (pc' := 24) d3_23 rfl rfl rfl ?_
  refine s_getF B X4 (pc' := 27) e4 (host := "") (Or.inl (tw14 hw)) Via.refl D_b1_id d3_24 rfl (fun T5 X5 e5 => ?_)
  refine s_aloadN B X5 (pc' := 28) d3_27 rfl rfl rfl ?_
  refine s_getF B X5 (pc' := 31) e5 (host := "") (Or.inl (tw14 hw)) Via.refl D_b0_id d3_28 rfl (fun T6 X6 e6 => ?_)
  refine b_lcmp_ne B X6 (py := 39) (pn := 35) d3_31 rfl d3_32 (by decide) (by decide) rfl (fun q => absurd (hk0).symm q) (fun _ => ?_)
  refine s_iconst B X6 (pc' := 36) (v := (1 : Int32)) d3_35 rfl rfl ?_
  refine s_goto B X6 (pc' := 40) d3_36 (by decide) (by decide) ?_
  exact r_nar B X6 (t := .boolean) (by simp) rfl d3_40 ⟨rfl, rfl, e6⟩ (by decide) (by decide)

theorem pn_mm3_5 : plainName "com/example/isolation/isolation/EntityKey" = true := by first | (simp [plainName, overriddenIn]; done) | decide +kernel
set_option maxRecDepth 65536 in
set_option maxHeartbeats 40000000 in
theorem mm3_5 (l : Launch) (Z : State) (a0 : Array Value) (hw : ∀ d ∈ tables_1, d.before a0 Z = true) (b0 : Addr) (b1 : Addr) (q2 : Int64) (q3 : Int64) (w_NODE w_RELATIONSHIP : Addr) (h0 : Heap) (FZ : OwnF Z Z.heap w_NODE w_RELATIONSHIP) (O0 : Old Z Z.heap.size h0) (ge_b0 : Z.heap.size ≤ b0) (E_b0 : Exa Z h0 b0 "com/example/isolation/isolation/EntityKey") (D_b0_id : Fld Z h0 b0 "com/example/isolation/isolation/EntityKey" "id" "J" (.long q2)) (D_b0_kind : Fld Z h0 b0 "com/example/isolation/isolation/EntityKey" "kind" "Lcom/example/isolation/isolation/EntityKind;" (.ref w_NODE)) (ge_b1 : Z.heap.size ≤ b1) (E_b1 : Exa Z h0 b1 "com/example/isolation/isolation/EntityKey") (D_b1_id : Fld Z h0 b1 "com/example/isolation/isolation/EntityKey" "id" "J" (.long q3)) (D_b1_kind : Fld Z h0 b1 "com/example/isolation/isolation/EntityKey" "kind" "Lcom/example/isolation/isolation/EntityKind;" (.ref w_NODE)) (ne_b0_b1 : b0 ≠ b1) (hk0 : q3 = q2) :
    OMeets l Z mn0 prog_15_method_3_code 3 (some .boolean) [] ({ frames := 0, cells := 0, slots := 0, locals := 0 } : Room) #[(.ref b0), (.ref b1)] h0 (PureQ (some (.int (1 : Int32))) h0) := by
  refine OMeets.of pn_mm3_5 #[.val (.ref b0), .val (.ref b1), .unset] (fun m => by first | rfl | (simp [entryFrame, mkF, argsToLocals, Value.category, maxLocals]; done)) ?_
  intro p e s m below meth c s₁ B X0 e0
  have F0 := OwnF.ext O0.2 FZ
  obtain ⟨S_NODE, E_NODE, S_RELATIONSHIP, E_RELATIONSHIP, F_NODE_ordinal, F_RELATIONSHIP_ordinal, T_cache⟩ := id F0
  refine s_aloadN B X0 (pc' := 1) d3_0 rfl rfl rfl ?_
  refine s_instY B X0 (pc' := 4) e0 (tw23 hw) (Ins.self E_b1) d3_1 rfl (fun T1 X1 e1 => ?_)
  refine s_ifN B X1 (pc' := 7) d3_4 (by decide) rfl ?_
  refine s_aloadN B X1 (pc' := 8) d3_7 rfl rfl rfl ?_
  refine s_castY B X1 (pc' := 11) e1 (tw23 hw) (Ins.self E_b1) d3_8 rfl (fun T2 X2 e2 => ?_)
  refine s_astoreN B X2 (pc' := 12) (Ls' := #[.val (.ref b0), .val (.ref b1), .val (.ref b1)]) d3_11 rfl rfl rfl ?_
  refine s_aloadN B X2 (pc' := 13) d3_12 rfl rfl rfl ?_
  refine s_getF B X2 (pc' := 16) e2 (host := "") (Or.inl (tw12 hw)) Via.refl D_b1_kind d3_13 rfl (fun T3 X3 e3 => ?_)
  refine s_aloadN B X3 (pc' := 17) d3_16 rfl rfl rfl ?_
  refine s_getF B X3 (pc' := 20) e3 (host := "") (Or.inl (tw12 hw)) Via.refl D_b0_kind d3_17 rfl (fun T4 X4 e4 => ?_)
  refine b_acmp_ne B X4 (py := 39) (pn := 23) d3_20 (by decide) (by decide) rfl (fun q => absurd rfl q) (fun _ => ?_)
  refine s_aloadN B X4 (pc' := 24) d3_23 rfl rfl rfl ?_
  refine s_getF B X4 (pc' := 27) e4 (host := "") (Or.inl (tw14 hw)) Via.refl D_b1_id d3_24 rfl (fun T5 X5 e5 => ?_)
  refine s_aloadN B X5 (pc' := 28) d3_27 rfl rfl rfl ?_
  refine s_getF B X5 (pc' := 31) e5 (host := "") (Or.inl (tw14 hw)) Via.refl D_b0_id d3_28 rfl (fun T6 X6 e6 => ?_)
  refine b_lcmp_ne B X6 (py := 39) (pn := 35) d3_31 rfl d3_32 (by decide) (by decide) rfl (fun q => absurd hk0 q) (fun _ => ?_)
  refine s_iconst B X6 (pc' := 36) (v := (1 : Int32)) d3_35 rfl rfl ?_
  refine s_goto B X6 (pc' := 40) d3_36 (by decide) (by decide) ?_
  exact r_nar B X6 (t := .boolean) (by simp) rfl d3_40 ⟨rfl, rfl, e6⟩ (by decide) (by decide)

theorem pn_mm3_6 : plainName "com/example/isolation/isolation/EntityKey" = true := by first | (simp [plainName, overriddenIn]; done) | decide +kernel
set_option maxRecDepth 65536 in
set_option maxHeartbeats 40000000 in
theorem mm3_6 (l : Launch) (Z : State) (a0 : Array Value) (hw : ∀ d ∈ tables_1, d.before a0 Z = true) (b0 : Addr) (q1 : Int64) (w_NODE w_RELATIONSHIP : Addr) (h0 : Heap) (FZ : OwnF Z Z.heap w_NODE w_RELATIONSHIP) (O0 : Old Z Z.heap.size h0) (ge_b0 : Z.heap.size ≤ b0) (E_b0 : Exa Z h0 b0 "com/example/isolation/isolation/EntityKey") (D_b0_id : Fld Z h0 b0 "com/example/isolation/isolation/EntityKey" "id" "J" (.long q1)) (D_b0_kind : Fld Z h0 b0 "com/example/isolation/isolation/EntityKey" "kind" "Lcom/example/isolation/isolation/EntityKind;" (.ref w_NODE))  :
    OMeets l Z mn0 prog_15_method_3_code 3 (some .boolean) [] ({ frames := 0, cells := 0, slots := 0, locals := 0 } : Room) #[(.ref b0), (.ref b0)] h0 (PureQ (some (.int (1 : Int32))) h0) := by
  refine OMeets.of pn_mm3_6 #[.val (.ref b0), .val (.ref b0), .unset] (fun m => by first | rfl | (simp [entryFrame, mkF, argsToLocals, Value.category, maxLocals]; done)) ?_
  intro p e s m below meth c s₁ B X0 e0
  have F0 := OwnF.ext O0.2 FZ
  obtain ⟨S_NODE, E_NODE, S_RELATIONSHIP, E_RELATIONSHIP, F_NODE_ordinal, F_RELATIONSHIP_ordinal, T_cache⟩ := id F0
  refine s_aloadN B X0 (pc' := 1) d3_0 rfl rfl rfl ?_
  refine s_instY B X0 (pc' := 4) e0 (tw23 hw) (Ins.self E_b0) d3_1 rfl (fun T1 X1 e1 => ?_)
  refine s_ifN B X1 (pc' := 7) d3_4 (by decide) rfl ?_
  refine s_aloadN B X1 (pc' := 8) d3_7 rfl rfl rfl ?_
  refine s_castY B X1 (pc' := 11) e1 (tw23 hw) (Ins.self E_b0) d3_8 rfl (fun T2 X2 e2 => ?_)
  refine s_astoreN B X2 (pc' := 12) (Ls' := #[.val (.ref b0), .val (.ref b0), .val (.ref b0)]) d3_11 rfl rfl rfl ?_
  refine s_aloadN B X2 (pc' := 13) d3_12 rfl rfl rfl ?_
  refine s_getF B X2 (pc' := 16) e2 (host := "") (Or.inl (tw12 hw)) Via.refl D_b0_kind d3_13 rfl (fun T3 X3 e3 => ?_)
  refine s_aloadN B X3 (pc' := 17) d3_16 rfl rfl rfl ?_
  refine s_getF B X3 (pc' := 20) e3 (host := "") (Or.inl (tw12 hw)) Via.refl D_b0_kind d3_17 rfl (fun T4 X4 e4 => ?_)
  refine b_acmp_ne B X4 (py := 39) (pn := 23) d3_20 (by decide) (by decide) rfl (fun q => absurd rfl q) (fun _ => ?_)
  refine s_aloadN B X4 (pc' := 24) d3_23 rfl rfl rfl ?_
  refine s_getF B X4 (pc' := 27) e4 (host := "") (Or.inl (tw14 hw)) Via.refl D_b0_id d3_24 rfl (fun T5 X5 e5 => ?_)
  refine s_aloadN B X5 (pc' := 28) d3_27 rfl rfl rfl ?_
  refine s_getF B X5 (pc' := 31) e5 (host := "") (Or.inl (tw14 hw)) Via.refl D_b0_id d3_28 rfl (fun T6 X6 e6 => ?_)
  refine b_lcmp_ne B X6 (py := 39) (pn := 35) d3_31 rfl d3_32 (by decide) (by decide) rfl (fun q => absurd rfl q) (fun _ => ?_)
  refine s_iconst B X6 (pc' := 36) (v := (1 : Int32)) d3_35 rfl rfl ?_
  refine s_goto B X6 (pc' := 40) d3_36 (by decide) (by decide) ?_
  exact r_nar B X6 (t := .boolean) (by simp) rfl d3_40 ⟨rfl, rfl, e6⟩ (by decide) (by decide)

theorem pn_mm3_7 : plainName "com/example/isolation/isolation/EntityKey" = true := by first | (simp [plainName, overriddenIn]; done) | decide +kernel
set_option maxRecDepth 65536 in
set_option maxHeartbeats 40000000 in
theorem mm3_7 (l : Launch) (Z : State) (a0 : Array Value) (hw : ∀ d ∈ tables_1, d.before a0 Z = true) (b0 : Addr) (q1 : Int64) (w_NODE w_RELATIONSHIP : Addr) (h0 : Heap) (FZ : OwnF Z Z.heap w_NODE w_RELATIONSHIP) (O0 : Old Z Z.heap.size h0) (ge_b0 : Z.heap.size ≤ b0) (E_b0 : Exa Z h0 b0 "com/example/isolation/isolation/EntityKey") (D_b0_id : Fld Z h0 b0 "com/example/isolation/isolation/EntityKey" "id" "J" (.long q1)) (D_b0_kind : Fld Z h0 b0 "com/example/isolation/isolation/EntityKey" "kind" "Lcom/example/isolation/isolation/EntityKind;" (.ref w_NODE))  :
    OMeets l Z mn0 prog_15_method_3_code 3 (some .boolean) [] ({ frames := 0, cells := 0, slots := 0, locals := 0 } : Room) #[(.ref b0), .null] h0 (PureQ (some (.int (0 : Int32))) h0) := by
  refine OMeets.of pn_mm3_7 #[.val (.ref b0), .val .null, .unset] (fun m => by first | rfl | (simp [entryFrame, mkF, argsToLocals, Value.category, maxLocals]; done)) ?_
  intro p e s m below meth c s₁ B X0 e0
  have F0 := OwnF.ext O0.2 FZ
  obtain ⟨S_NODE, E_NODE, S_RELATIONSHIP, E_RELATIONSHIP, F_NODE_ordinal, F_RELATIONSHIP_ordinal, T_cache⟩ := id F0
  refine s_aloadN B X0 (pc' := 1) d3_0 rfl rfl rfl ?_
  refine s_instNull B X0 (pc' := 4) d3_1 rfl ?_
  refine s_ifY B X0 (pc' := 39) d3_4 (by decide) (by decide) (by decide) ?_
  refine s_iconst B X0 (pc' := 40) (v := (0 : Int32)) d3_39 rfl rfl ?_
  exact r_nar B X0 (t := .boolean) (by simp) rfl d3_40 ⟨rfl, rfl, e0⟩ (by decide) (by decide)

theorem pn_mm3_8 : plainName "com/example/isolation/isolation/EntityKey" = true := by first | (simp [plainName, overriddenIn]; done) | decide +kernel
set_option maxRecDepth 65536 in
set_option maxHeartbeats 40000000 in
theorem mm3_8 (l : Launch) (Z : State) (a0 : Array Value) (hw : ∀ d ∈ tables_1, d.before a0 Z = true) (b0 : Addr) (b1 : Addr) (q2 : Int64) (w_NODE w_RELATIONSHIP : Addr) (h0 : Heap) (FZ : OwnF Z Z.heap w_NODE w_RELATIONSHIP) (O0 : Old Z Z.heap.size h0) (ge_b0 : Z.heap.size ≤ b0) (E_b0 : Exa Z h0 b0 "com/example/isolation/isolation/EntityKey") (D_b0_id : Fld Z h0 b0 "com/example/isolation/isolation/EntityKey" "id" "J" (.long q2)) (D_b0_kind : Fld Z h0 b0 "com/example/isolation/isolation/EntityKey" "kind" "Lcom/example/isolation/isolation/EntityKind;" (.ref w_NODE)) (ge_b1 : Z.heap.size ≤ b1) (E_b1 : Exa Z h0 b1 "com/example/isolation/isolation/EntityKey") (D_b1_id : Fld Z h0 b1 "com/example/isolation/isolation/EntityKey" "id" "J" (.long q2)) (D_b1_kind : Fld Z h0 b1 "com/example/isolation/isolation/EntityKey" "kind" "Lcom/example/isolation/isolation/EntityKind;" (.ref w_NODE)) (ne_b0_b1 : b0 ≠ b1)  :
    OMeets l Z mn0 prog_15_method_3_code 3 (some .boolean) [] ({ frames := 0, cells := 0, slots := 0, locals := 0 } : Room) #[(.ref b0), (.ref b1)] h0 (PureQ (some (.int (1 : Int32))) h0) := by
  refine OMeets.of pn_mm3_8 #[.val (.ref b0), .val (.ref b1), .unset] (fun m => by first | rfl | (simp [entryFrame, mkF, argsToLocals, Value.category, maxLocals]; done)) ?_
  intro p e s m below meth c s₁ B X0 e0
  have F0 := OwnF.ext O0.2 FZ
  obtain ⟨S_NODE, E_NODE, S_RELATIONSHIP, E_RELATIONSHIP, F_NODE_ordinal, F_RELATIONSHIP_ordinal, T_cache⟩ := id F0
  refine s_aloadN B X0 (pc' := 1) d3_0 rfl rfl rfl ?_
  refine s_instY B X0 (pc' := 4) e0 (tw23 hw) (Ins.self E_b1) d3_1 rfl (fun T1 X1 e1 => ?_)
  refine s_ifN B X1 (pc' := 7) d3_4 (by decide) rfl ?_
  refine s_aloadN B X1 (pc' := 8) d3_7 rfl rfl rfl ?_
  refine s_castY B X1 (pc' := 11) e1 (tw23 hw) (Ins.self E_b1) d3_8 rfl (fun T2 X2 e2 => ?_)
  refine s_astoreN B X2 (pc' := 12) (Ls' := #[.val (.ref b0), .val (.ref b1), .val (.ref b1)]) d3_11 rfl rfl rfl ?_
  refine s_aloadN B X2 (pc' := 13) d3_12 rfl rfl rfl ?_
  refine s_getF B X2 (pc' := 16) e2 (host := "") (Or.inl (tw12 hw)) Via.refl D_b1_kind d3_13 rfl (fun T3 X3 e3 => ?_)
  refine s_aloadN B X3 (pc' := 17) d3_16 rfl rfl rfl ?_
  refine s_getF B X3 (pc' := 20) e3 (host := "") (Or.inl (tw12 hw)) Via.refl D_b0_kind d3_17 rfl (fun T4 X4 e4 => ?_)
  refine b_acmp_ne B X4 (py := 39) (pn := 23) d3_20 (by decide) (by decide) rfl (fun q => absurd rfl q) (fun _ => ?_)
  refine s_aloadN B X4 (pc' := 24) d3_23 rfl rfl rfl ?_
  refine s_getF B X4 (pc' := 27) e4 (host := "") (Or.inl (tw14 hw)) Via.refl D_b1_id d3_24 rfl (fun T5 X5 e5 => ?_)
  refine s_aloadN B X5 (pc' := 28) d3_27 rfl rfl rfl ?_
  refine s_getF B X5 (pc' := 31) e5 (host := "") (Or.inl (tw14 hw)) Via.refl D_b0_id d3_28 rfl (fun T6 X6 e6 => ?_)
  refine b_lcmp_ne B X6 (py := 39) (pn := 35) d3_31 rfl d3_32 (by decide) (by decide) rfl (fun q => absurd rfl q) (fun _ => ?_)
  refine s_iconst B X6 (pc' := 36) (v := (1 : Int32)) d3_35 rfl rfl ?_
  refine s_goto B X6 (pc' := 40) d3_36 (by decide) (by decide) ?_
  exact r_nar B X6 (t := .boolean) (by simp) rfl d3_40 ⟨rfl, rfl, e6⟩ (by decide) (by decide)

theorem pn_mm1_9 : plainName "com/example/isolation/isolation/EntityKey" = true := by first | (simp [plainName, overriddenIn]; done) | decide +kernel
set_option maxRecDepth 65536 in
set_option maxHeartbeats 40000000 in
theorem mm1_9 (l : Launch) (Z : State) (a0 : Array Value) (hw : ∀ d ∈ tables_1, d.before a0 Z = true) (b0 : Addr) (q1 : Int64) (w_NODE w_RELATIONSHIP : Addr) (h0 : Heap) (FZ : OwnF Z Z.heap w_NODE w_RELATIONSHIP) (O0 : Old Z Z.heap.size h0) (ge_b0 : Z.heap.size ≤ b0) (E_b0 : Exa Z h0 b0 "com/example/isolation/isolation/EntityKey") (D_b0_id : Fld Z h0 b0 "com/example/isolation/isolation/EntityKey" "id" "J" (.long (0 : Int64))) (D_b0_kind : Fld Z h0 b0 "com/example/isolation/isolation/EntityKey" "kind" "Lcom/example/isolation/isolation/EntityKind;" .null)  :
    OMeets l Z mn4 prog_15_method_1_code 4 none [] ({ frames := 1, cells := 0, slots := 0, locals := 12 } : Room) #[(.ref b0), (.ref w_RELATIONSHIP), (.long q1)] h0 (fun v h L => v = none ∧ Fr Z.heap.size L ∧ Keep h0 h [b0] ∧ Fld Z h b0 "com/example/isolation/isolation/EntityKey" "id" "J" (.long q1) ∧ Fld Z h b0 "com/example/isolation/isolation/EntityKey" "kind" "Lcom/example/isolation/isolation/EntityKind;" (.ref w_RELATIONSHIP)) := by
  refine OMeets.of pn_mm1_9 #[.val (.ref b0), .val (.ref w_RELATIONSHIP), .val (.long q1), .second] (fun m => by first | rfl | (simp [entryFrame, mkF, argsToLocals, Value.category, maxLocals]; done)) ?_
  intro p e s m below meth c s₁ B X0 e0
  have F0 := OwnF.ext O0.2 FZ
  obtain ⟨S_NODE, E_NODE, S_RELATIONSHIP, E_RELATIONSHIP, F_NODE_ordinal, F_RELATIONSHIP_ordinal, T_cache⟩ := id F0
  refine s_aloadN B X0 (pc' := 1) d1_0 rfl rfl rfl ?_
  refine s_initO B X0 (pc' := 4) (W := 0) e0 (tw9 hw) (tw10 hw) (tw11 hw) rfl (by decide) (by decide) rfl d1_1 rfl (fun T1 X1 e1 => ?_)
  refine s_aloadN B X1 (pc' := 5) d1_4 rfl rfl rfl ?_
  refine s_aloadN B X1 (pc' := 6) d1_5 rfl rfl rfl ?_
  refine s_putF B X1 (pc' := 9) (ty := (.object "com/example/isolation/isolation/EntityKind")) e1 (host := "") (Or.inl (tw12 hw)) Via.refl D_b0_kind E_b0 (Or.inr ⟨(tw13 hw), rfl, rfl⟩) (tw4 hw) (by decide) rfl rfl d1_6 rfl (fun T2 h2 X2 e2 W2 => ?_)
  have G2 := D_b0_kind.same W2
  have N2 := Fr.snoc X2 (Fr.nil _) ge_b0
  have O2 := (O0).wr W2 ge_b0
  have F2 := OwnF.ext O2.2 FZ
  have K2 := ((Keep.refl h0 [b0])).wr W2 (Or.inl (List.mem_of_getElem? (i := 0) rfl))
  show Go p e below _ (T2.setTop (mkF m 9 #[.val (.ref b0), .val (.ref w_RELATIONSHIP), .val (.long q1), .second] []))
  refine s_aloadN B X2 (pc' := 10) d1_9 rfl rfl rfl ?_
  refine s_lloadN B X2 (pc' := 11) d1_10 rfl rfl ?_
  have f4 := (D_b0_id.other W2 (Or.inr (slot_ne (Or.inr (tw15 hw)) (Or.inr (tw13 hw)) (by decide) (t := .long) (t' := (.object "com/example/isolation/isolation/EntityKind")) (by decide) (by decide))))
  have f5 := (E_b0.wr W2)
  refine s_putF B X2 (pc' := 14) (ty := .long) e2 (host := "") (Or.inl (tw14 hw)) Via.refl f4 f5 (Or.inr ⟨(tw15 hw), rfl, rfl⟩) (tw4 hw) (by decide) rfl rfl d1_11 rfl (fun T3 h3 X3 e3 W3 => ?_)
  have G3 := f4.same W3
  have N3 := Fr.snoc X3 N2 ge_b0
  have O3 := (O2).wr W3 ge_b0
  have F3 := OwnF.ext O3.2 FZ
  have K3 := (K2).wr W3 (Or.inl (List.mem_of_getElem? (i := 0) rfl))
  show Go p e below _ (T3.setTop (mkF m 14 #[.val (.ref b0), .val (.ref w_RELATIONSHIP), .val (.long q1), .second] []))
  have f6 := (G2.other W3 (Or.inr (slot_ne (Or.inr (tw13 hw)) (Or.inr (tw15 hw)) (by decide) (t := (.object "com/example/isolation/isolation/EntityKind")) (t' := .long) (by decide) (by decide))))
  exact r_void B X3 rfl d1_14 (by rw [e3]; exact ⟨rfl, N3, K3, G3, f6⟩) (by decide) (by decide)
theorem own_ne_w_NODE_w_RELATIONSHIP {Z : State} {h : Heap} {w_NODE w_RELATIONSHIP : Addr} (F : OwnF Z h w_NODE w_RELATIONSHIP) : ¬ w_NODE = w_RELATIONSHIP := by
  obtain ⟨S_NODE, E_NODE, S_RELATIONSHIP, E_RELATIONSHIP, F_NODE_ordinal, F_RELATIONSHIP_ordinal, T_cache⟩ := F
  exact F_NODE_ordinal.ne F_RELATIONSHIP_ordinal (by decide)
theorem own_ne_w_RELATIONSHIP_w_NODE {Z : State} {h : Heap} {w_NODE w_RELATIONSHIP : Addr} (F : OwnF Z h w_NODE w_RELATIONSHIP) : ¬ w_RELATIONSHIP = w_NODE := by
  obtain ⟨S_NODE, E_NODE, S_RELATIONSHIP, E_RELATIONSHIP, F_NODE_ordinal, F_RELATIONSHIP_ordinal, T_cache⟩ := F
  exact F_RELATIONSHIP_ordinal.ne F_NODE_ordinal (by decide)

theorem pn_mm3_10 : plainName "com/example/isolation/isolation/EntityKey" = true := by first | (simp [plainName, overriddenIn]; done) | decide +kernel
set_option maxRecDepth 65536 in
set_option maxHeartbeats 40000000 in
theorem mm3_10 (l : Launch) (Z : State) (a0 : Array Value) (hw : ∀ d ∈ tables_1, d.before a0 Z = true) (b0 : Addr) (b1 : Addr) (q2 : Int64) (q3 : Int64) (w_NODE w_RELATIONSHIP : Addr) (h0 : Heap) (FZ : OwnF Z Z.heap w_NODE w_RELATIONSHIP) (O0 : Old Z Z.heap.size h0) (ge_b0 : Z.heap.size ≤ b0) (E_b0 : Exa Z h0 b0 "com/example/isolation/isolation/EntityKey") (D_b0_id : Fld Z h0 b0 "com/example/isolation/isolation/EntityKey" "id" "J" (.long q2)) (D_b0_kind : Fld Z h0 b0 "com/example/isolation/isolation/EntityKey" "kind" "Lcom/example/isolation/isolation/EntityKind;" (.ref w_NODE)) (ge_b1 : Z.heap.size ≤ b1) (E_b1 : Exa Z h0 b1 "com/example/isolation/isolation/EntityKey") (D_b1_id : Fld Z h0 b1 "com/example/isolation/isolation/EntityKey" "id" "J" (.long q3)) (D_b1_kind : Fld Z h0 b1 "com/example/isolation/isolation/EntityKey" "kind" "Lcom/example/isolation/isolation/EntityKind;" (.ref w_RELATIONSHIP)) (ne_b0_b1 : b0 ≠ b1) (hk0 : q2 = q3) :
    OMeets l Z mn0 prog_15_method_3_code 3 (some .boolean) [] ({ frames := 0, cells := 0, slots := 0, locals := 0 } : Room) #[(.ref b0), (.ref b1)] h0 (PureQ (some (.int (0 : Int32))) h0) := by
  refine OMeets.of pn_mm3_10 #[.val (.ref b0), .val (.ref b1), .unset] (fun m => by first | rfl | (simp [entryFrame, mkF, argsToLocals, Value.category, maxLocals]; done)) ?_
  intro p e s m below meth c s₁ B X0 e0
  have F0 := OwnF.ext O0.2 FZ
  obtain ⟨S_NODE, E_NODE, S_RELATIONSHIP, E_RELATIONSHIP, F_NODE_ordinal, F_RELATIONSHIP_ordinal, T_cache⟩ := id F0
  refine s_aloadN B X0 (pc' := 1) d3_0 rfl rfl rfl ?_
  refine s_instY B X0 (pc' := 4) e0 (tw23 hw) (Ins.self E_b1) d3_1 rfl (fun T1 X1 e1 => ?_)
  refine s_ifN B X1 (pc' := 7) d3_4 (by decide) rfl ?_
  refine s_aloadN B X1 (pc' := 8) d3_7 rfl rfl rfl ?_
  refine s_castY B X1 (pc' := 11) e1 (tw23 hw) (Ins.self E_b1) d3_8 rfl (fun T2 X2 e2 => ?_)
  refine s_astoreN B X2 (pc' := 12) (Ls' := #[.val (.ref b0), .val (.ref b1), .val (.ref b1)]) d3_11 rfl rfl rfl ?_
  refine s_aloadN B X2 (pc' := 13) d3_12 rfl rfl rfl ?_
  refine s_getF B X2 (pc' := 16) e2 (host := "") (Or.inl (tw12 hw)) Via.refl D_b1_kind d3_13 rfl (fun T3 X3 e3 => ?_)
  refine s_aloadN B X3 (pc' := 17) d3_16 rfl rfl rfl ?_
  refine s_getF B X3 (pc' := 20) e3 (host := "") (Or.inl (tw12 hw)) Via.refl D_b0_kind d3_17 rfl (fun T4 X4 e4 => ?_)
  refine b_acmp_ne B X4 (py := 39) (pn := 23) d3_20 (by decide) (by decide) rfl (fun _ => ?_) (fun q => absurd q (own_ne_w_RELATIONSHIP_w_NODE F0))
  refine s_iconst B X4 (pc' := 40) (v := (0 : Int32)) d3_39 rfl rfl ?_
  exact r_nar B X4 (t := .boolean) (by simp) rfl d3_40 ⟨rfl, rfl, e4⟩ (by decide) (by decide)

theorem pn_mm3_11 : plainName "com/example/isolation/isolation/EntityKey" = true := by first | (simp [plainName, overriddenIn]; done) | decide +kernel
set_option maxRecDepth 65536 in
set_option maxHeartbeats 40000000 in
theorem mm3_11 (l : Launch) (Z : State) (a0 : Array Value) (hw : ∀ d ∈ tables_1, d.before a0 Z = true) (b0 : Addr) (b1 : Addr) (q2 : Int64) (q3 : Int64) (w_NODE w_RELATIONSHIP : Addr) (h0 : Heap) (FZ : OwnF Z Z.heap w_NODE w_RELATIONSHIP) (O0 : Old Z Z.heap.size h0) (ge_b0 : Z.heap.size ≤ b0) (E_b0 : Exa Z h0 b0 "com/example/isolation/isolation/EntityKey") (D_b0_id : Fld Z h0 b0 "com/example/isolation/isolation/EntityKey" "id" "J" (.long q2)) (D_b0_kind : Fld Z h0 b0 "com/example/isolation/isolation/EntityKey" "kind" "Lcom/example/isolation/isolation/EntityKind;" (.ref w_RELATIONSHIP)) (ge_b1 : Z.heap.size ≤ b1) (E_b1 : Exa Z h0 b1 "com/example/isolation/isolation/EntityKey") (D_b1_id : Fld Z h0 b1 "com/example/isolation/isolation/EntityKey" "id" "J" (.long q3)) (D_b1_kind : Fld Z h0 b1 "com/example/isolation/isolation/EntityKey" "kind" "Lcom/example/isolation/isolation/EntityKind;" (.ref w_NODE)) (ne_b0_b1 : b0 ≠ b1) (hk0 : q3 = q2) :
    OMeets l Z mn0 prog_15_method_3_code 3 (some .boolean) [] ({ frames := 0, cells := 0, slots := 0, locals := 0 } : Room) #[(.ref b0), (.ref b1)] h0 (PureQ (some (.int (0 : Int32))) h0) := by
  refine OMeets.of pn_mm3_11 #[.val (.ref b0), .val (.ref b1), .unset] (fun m => by first | rfl | (simp [entryFrame, mkF, argsToLocals, Value.category, maxLocals]; done)) ?_
  intro p e s m below meth c s₁ B X0 e0
  have F0 := OwnF.ext O0.2 FZ
  obtain ⟨S_NODE, E_NODE, S_RELATIONSHIP, E_RELATIONSHIP, F_NODE_ordinal, F_RELATIONSHIP_ordinal, T_cache⟩ := id F0
  refine s_aloadN B X0 (pc' := 1) d3_0 rfl rfl rfl ?_
  refine s_instY B X0 (pc' := 4) e0 (tw23 hw) (Ins.self E_b1) d3_1 rfl (fun T1 X1 e1 => ?_)
  refine s_ifN B X1 (pc' := 7) d3_4 (by decide) rfl ?_
  refine s_aloadN B X1 (pc' := 8) d3_7 rfl rfl rfl ?_
  refine s_castY B X1 (pc' := 11) e1 (tw23 hw) (Ins.self E_b1) d3_8 rfl (fun T2 X2 e2 => ?_)
  refine s_astoreN B X2 (pc' := 12) (Ls' := #[.val (.ref b0), .val (.ref b1), .val (.ref b1)]) d3_11 rfl rfl rfl ?_
  refine s_aloadN B X2 (pc' := 13) d3_12 rfl rfl rfl ?_
  refine s_getF B X2 (pc' := 16) e2 (host := "") (Or.inl (tw12 hw)) Via.refl D_b1_kind d3_13 rfl (fun T3 X3 e3 => ?_)
  refine s_aloadN B X3 (pc' := 17) d3_16 rfl rfl rfl ?_
  refine s_getF B X3 (pc' := 20) e3 (host := "") (Or.inl (tw12 hw)) Via.refl D_b0_kind d3_17 rfl (fun T4 X4 e4 => ?_)
  refine b_acmp_ne B X4 (py := 39) (pn := 23) d3_20 (by decide) (by decide) rfl (fun _ => ?_) (fun q => absurd q (own_ne_w_NODE_w_RELATIONSHIP F0))
  refine s_iconst B X4 (pc' := 40) (v := (0 : Int32)) d3_39 rfl rfl ?_
  exact r_nar B X4 (t := .boolean) (by simp) rfl d3_40 ⟨rfl, rfl, e4⟩ (by decide) (by decide)

theorem pn_mm3_12 : plainName "com/example/isolation/isolation/EntityKey" = true := by first | (simp [plainName, overriddenIn]; done) | decide +kernel
set_option maxRecDepth 65536 in
set_option maxHeartbeats 40000000 in
theorem mm3_12 (l : Launch) (Z : State) (a0 : Array Value) (hw : ∀ d ∈ tables_1, d.before a0 Z = true) (b0 : Addr) (b1 : Addr) (q2 : Int64) (w_NODE w_RELATIONSHIP : Addr) (h0 : Heap) (FZ : OwnF Z Z.heap w_NODE w_RELATIONSHIP) (O0 : Old Z Z.heap.size h0) (ge_b0 : Z.heap.size ≤ b0) (E_b0 : Exa Z h0 b0 "com/example/isolation/isolation/EntityKey") (D_b0_id : Fld Z h0 b0 "com/example/isolation/isolation/EntityKey" "id" "J" (.long q2)) (D_b0_kind : Fld Z h0 b0 "com/example/isolation/isolation/EntityKey" "kind" "Lcom/example/isolation/isolation/EntityKind;" (.ref w_NODE)) (ge_b1 : Z.heap.size ≤ b1) (E_b1 : Exa Z h0 b1 "com/example/isolation/isolation/EntityKey") (D_b1_id : Fld Z h0 b1 "com/example/isolation/isolation/EntityKey" "id" "J" (.long q2)) (D_b1_kind : Fld Z h0 b1 "com/example/isolation/isolation/EntityKey" "kind" "Lcom/example/isolation/isolation/EntityKind;" (.ref w_RELATIONSHIP)) (ne_b0_b1 : b0 ≠ b1)  :
    OMeets l Z mn0 prog_15_method_3_code 3 (some .boolean) [] ({ frames := 0, cells := 0, slots := 0, locals := 0 } : Room) #[(.ref b0), (.ref b1)] h0 (PureQ (some (.int (0 : Int32))) h0) := by
  refine OMeets.of pn_mm3_12 #[.val (.ref b0), .val (.ref b1), .unset] (fun m => by first | rfl | (simp [entryFrame, mkF, argsToLocals, Value.category, maxLocals]; done)) ?_
  intro p e s m below meth c s₁ B X0 e0
  have F0 := OwnF.ext O0.2 FZ
  obtain ⟨S_NODE, E_NODE, S_RELATIONSHIP, E_RELATIONSHIP, F_NODE_ordinal, F_RELATIONSHIP_ordinal, T_cache⟩ := id F0
  refine s_aloadN B X0 (pc' := 1) d3_0 rfl rfl rfl ?_
  refine s_instY B X0 (pc' := 4) e0 (tw23 hw) (Ins.self E_b1) d3_1 rfl (fun T1 X1 e1 => ?_)
  refine s_ifN B X1 (pc' := 7) d3_4 (by decide) rfl ?_
  refine s_aloadN B X1 (pc' := 8) d3_7 rfl rfl rfl ?_
  refine s_castY B X1 (pc' := 11) e1 (tw23 hw) (Ins.self E_b1) d3_8 rfl (fun T2 X2 e2 => ?_)
  refine s_astoreN B X2 (pc' := 12) (Ls' := #[.val (.ref b0), .val (.ref b1), .val (.ref b1)]) d3_11 rfl rfl rfl ?_
  refine s_aloadN B X2 (pc' := 13) d3_12 rfl rfl rfl ?_
  refine s_getF B X2 (pc' := 16) e2 (host := "") (Or.inl (tw12 hw)) Via.refl D_b1_kind d3_13 rfl (fun T3 X3 e3 => ?_)
  refine s_aloadN B X3 (pc' := 17) d3_16 rfl rfl rfl ?_
  refine s_getF B X3 (pc' := 20) e3 (host := "") (Or.inl (tw12 hw)) Via.refl D_b0_kind d3_17 rfl (fun T4 X4 e4 => ?_)
  refine b_acmp_ne B X4 (py := 39) (pn := 23) d3_20 (by decide) (by decide) rfl (fun _ => ?_) (fun q => absurd q (own_ne_w_RELATIONSHIP_w_NODE F0))
  refine s_iconst B X4 (pc' := 40) (v := (0 : Int32)) d3_39 rfl rfl ?_
  exact r_nar B X4 (t := .boolean) (by simp) rfl d3_40 ⟨rfl, rfl, e4⟩ (by decide) (by decide)

theorem pn_mm3_13 : plainName "com/example/isolation/isolation/EntityKey" = true := by first | (simp [plainName, overriddenIn]; done) | decide +kernel
set_option maxRecDepth 65536 in
set_option maxHeartbeats 40000000 in
theorem mm3_13 (l : Launch) (Z : State) (a0 : Array Value) (hw : ∀ d ∈ tables_1, d.before a0 Z = true) (b0 : Addr) (b1 : Addr) (q2 : Int64) (w_NODE w_RELATIONSHIP : Addr) (h0 : Heap) (FZ : OwnF Z Z.heap w_NODE w_RELATIONSHIP) (O0 : Old Z Z.heap.size h0) (ge_b0 : Z.heap.size ≤ b0) (E_b0 : Exa Z h0 b0 "com/example/isolation/isolation/EntityKey") (D_b0_id : Fld Z h0 b0 "com/example/isolation/isolation/EntityKey" "id" "J" (.long q2)) (D_b0_kind : Fld Z h0 b0 "com/example/isolation/isolation/EntityKey" "kind" "Lcom/example/isolation/isolation/EntityKind;" (.ref w_RELATIONSHIP)) (ge_b1 : Z.heap.size ≤ b1) (E_b1 : Exa Z h0 b1 "com/example/isolation/isolation/EntityKey") (D_b1_id : Fld Z h0 b1 "com/example/isolation/isolation/EntityKey" "id" "J" (.long q2)) (D_b1_kind : Fld Z h0 b1 "com/example/isolation/isolation/EntityKey" "kind" "Lcom/example/isolation/isolation/EntityKind;" (.ref w_NODE)) (ne_b0_b1 : b0 ≠ b1)  :
    OMeets l Z mn0 prog_15_method_3_code 3 (some .boolean) [] ({ frames := 0, cells := 0, slots := 0, locals := 0 } : Room) #[(.ref b0), (.ref b1)] h0 (PureQ (some (.int (0 : Int32))) h0) := by
  refine OMeets.of pn_mm3_13 #[.val (.ref b0), .val (.ref b1), .unset] (fun m => by first | rfl | (simp [entryFrame, mkF, argsToLocals, Value.category, maxLocals]; done)) ?_
  intro p e s m below meth c s₁ B X0 e0
  have F0 := OwnF.ext O0.2 FZ
  obtain ⟨S_NODE, E_NODE, S_RELATIONSHIP, E_RELATIONSHIP, F_NODE_ordinal, F_RELATIONSHIP_ordinal, T_cache⟩ := id F0
  refine s_aloadN B X0 (pc' := 1) d3_0 rfl rfl rfl ?_
  refine s_instY B X0 (pc' := 4) e0 (tw23 hw) (Ins.self E_b1) d3_1 rfl (fun T1 X1 e1 => ?_)
  refine s_ifN B X1 (pc' := 7) d3_4 (by decide) rfl ?_
  refine s_aloadN B X1 (pc' := 8) d3_7 rfl rfl rfl ?_
  refine s_castY B X1 (pc' := 11) e1 (tw23 hw) (Ins.self E_b1) d3_8 rfl (fun T2 X2 e2 => ?_)
  refine s_astoreN B X2 (pc' := 12) (Ls' := #[.val (.ref b0), .val (.ref b1), .val (.ref b1)]) d3_11 rfl rfl rfl ?_
  refine s_aloadN B X2 (pc' := 13) d3_12 rfl rfl rfl ?_
  refine s_getF B X2 (pc' := 16) e2 (host := "") (Or.inl (tw12 hw)) Via.refl D_b1_kind d3_13 rfl (fun T3 X3 e3 => ?_)
  refine s_aloadN B X3 (pc' := 17) d3_16 rfl rfl rfl ?_
  refine s_getF B X3 (pc' := 20) e3 (host := "") (Or.inl (tw12 hw)) Via.refl D_b0_kind d3_17 rfl (fun T4 X4 e4 => ?_)
  refine b_acmp_ne B X4 (py := 39) (pn := 23) d3_20 (by decide) (by decide) rfl (fun _ => ?_) (fun q => absurd q (own_ne_w_NODE_w_RELATIONSHIP F0))
  refine s_iconst B X4 (pc' := 40) (v := (0 : Int32)) d3_39 rfl rfl ?_
  exact r_nar B X4 (t := .boolean) (by simp) rfl d3_40 ⟨rfl, rfl, e4⟩ (by decide) (by decide)

theorem pn_mm3_14 : plainName "com/example/isolation/isolation/EntityKey" = true := by first | (simp [plainName, overriddenIn]; done) | decide +kernel
set_option maxRecDepth 65536 in
set_option maxHeartbeats 40000000 in
theorem mm3_14 (l : Launch) (Z : State) (a0 : Array Value) (hw : ∀ d ∈ tables_1, d.before a0 Z = true) (b0 : Addr) (b1 : Addr) (q2 : Int64) (q3 : Int64) (w_NODE w_RELATIONSHIP : Addr) (h0 : Heap) (FZ : OwnF Z Z.heap w_NODE w_RELATIONSHIP) (O0 : Old Z Z.heap.size h0) (ge_b0 : Z.heap.size ≤ b0) (E_b0 : Exa Z h0 b0 "com/example/isolation/isolation/EntityKey") (D_b0_id : Fld Z h0 b0 "com/example/isolation/isolation/EntityKey" "id" "J" (.long q2)) (D_b0_kind : Fld Z h0 b0 "com/example/isolation/isolation/EntityKey" "kind" "Lcom/example/isolation/isolation/EntityKind;" (.ref w_RELATIONSHIP)) (ge_b1 : Z.heap.size ≤ b1) (E_b1 : Exa Z h0 b1 "com/example/isolation/isolation/EntityKey") (D_b1_id : Fld Z h0 b1 "com/example/isolation/isolation/EntityKey" "id" "J" (.long q3)) (D_b1_kind : Fld Z h0 b1 "com/example/isolation/isolation/EntityKey" "kind" "Lcom/example/isolation/isolation/EntityKind;" (.ref w_NODE)) (ne_b0_b1 : b0 ≠ b1) (hk0 : q2 = q3) :
    OMeets l Z mn0 prog_15_method_3_code 3 (some .boolean) [] ({ frames := 0, cells := 0, slots := 0, locals := 0 } : Room) #[(.ref b0), (.ref b1)] h0 (PureQ (some (.int (0 : Int32))) h0) := by
  refine OMeets.of pn_mm3_14 #[.val (.ref b0), .val (.ref b1), .unset] (fun m => by first | rfl | (simp [entryFrame, mkF, argsToLocals, Value.category, maxLocals]; done)) ?_
  intro p e s m below meth c s₁ B X0 e0
  have F0 := OwnF.ext O0.2 FZ
  obtain ⟨S_NODE, E_NODE, S_RELATIONSHIP, E_RELATIONSHIP, F_NODE_ordinal, F_RELATIONSHIP_ordinal, T_cache⟩ := id F0
  refine s_aloadN B X0 (pc' := 1) d3_0 rfl rfl rfl ?_
  refine s_instY B X0 (pc' := 4) e0 (tw23 hw) (Ins.self E_b1) d3_1 rfl (fun T1 X1 e1 => ?_)
  refine s_ifN B X1 (pc' := 7) d3_4 (by decide) rfl ?_
  refine s_aloadN B X1 (pc' := 8) d3_7 rfl rfl rfl ?_
  refine s_castY B X1 (pc' := 11) e1 (tw23 hw) (Ins.self E_b1) d3_8 rfl (fun T2 X2 e2 => ?_)
  refine s_astoreN B X2 (pc' := 12) (Ls' := #[.val (.ref b0), .val (.ref b1), .val (.ref b1)]) d3_11 rfl rfl rfl ?_
  refine s_aloadN B X2 (pc' := 13) d3_12 rfl rfl rfl ?_
  refine s_getF B X2 (pc' := 16) e2 (host := "") (Or.inl (tw12 hw)) Via.refl D_b1_kind d3_13 rfl (fun T3 X3 e3 => ?_)
  refine s_aloadN B X3 (pc' := 17) d3_16 rfl rfl rfl ?_
  refine s_getF B X3 (pc' := 20) e3 (host := "") (Or.inl (tw12 hw)) Via.refl D_b0_kind d3_17 rfl (fun T4 X4 e4 => ?_)
  refine b_acmp_ne B X4 (py := 39) (pn := 23) d3_20 (by decide) (by decide) rfl (fun _ => ?_) (fun q => absurd q (own_ne_w_NODE_w_RELATIONSHIP F0))
  refine s_iconst B X4 (pc' := 40) (v := (0 : Int32)) d3_39 rfl rfl ?_
  exact r_nar B X4 (t := .boolean) (by simp) rfl d3_40 ⟨rfl, rfl, e4⟩ (by decide) (by decide)

theorem pn_mm3_15 : plainName "com/example/isolation/isolation/EntityKey" = true := by first | (simp [plainName, overriddenIn]; done) | decide +kernel
set_option maxRecDepth 65536 in
set_option maxHeartbeats 40000000 in
theorem mm3_15 (l : Launch) (Z : State) (a0 : Array Value) (hw : ∀ d ∈ tables_1, d.before a0 Z = true) (b0 : Addr) (b1 : Addr) (q2 : Int64) (q3 : Int64) (w_NODE w_RELATIONSHIP : Addr) (h0 : Heap) (FZ : OwnF Z Z.heap w_NODE w_RELATIONSHIP) (O0 : Old Z Z.heap.size h0) (ge_b0 : Z.heap.size ≤ b0) (E_b0 : Exa Z h0 b0 "com/example/isolation/isolation/EntityKey") (D_b0_id : Fld Z h0 b0 "com/example/isolation/isolation/EntityKey" "id" "J" (.long q2)) (D_b0_kind : Fld Z h0 b0 "com/example/isolation/isolation/EntityKey" "kind" "Lcom/example/isolation/isolation/EntityKind;" (.ref w_NODE)) (ge_b1 : Z.heap.size ≤ b1) (E_b1 : Exa Z h0 b1 "com/example/isolation/isolation/EntityKey") (D_b1_id : Fld Z h0 b1 "com/example/isolation/isolation/EntityKey" "id" "J" (.long q3)) (D_b1_kind : Fld Z h0 b1 "com/example/isolation/isolation/EntityKey" "kind" "Lcom/example/isolation/isolation/EntityKind;" (.ref w_RELATIONSHIP)) (ne_b0_b1 : b0 ≠ b1) (hk0 : q3 = q2) :
    OMeets l Z mn0 prog_15_method_3_code 3 (some .boolean) [] ({ frames := 0, cells := 0, slots := 0, locals := 0 } : Room) #[(.ref b0), (.ref b1)] h0 (PureQ (some (.int (0 : Int32))) h0) := by
  refine OMeets.of pn_mm3_15 #[.val (.ref b0), .val (.ref b1), .unset] (fun m => by first | rfl | (simp [entryFrame, mkF, argsToLocals, Value.category, maxLocals]; done)) ?_
  intro p e s m below meth c s₁ B X0 e0
  have F0 := OwnF.ext O0.2 FZ
  obtain ⟨S_NODE, E_NODE, S_RELATIONSHIP, E_RELATIONSHIP, F_NODE_ordinal, F_RELATIONSHIP_ordinal, T_cache⟩ := id F0
  refine s_aloadN B X0 (pc' := 1) d3_0 rfl rfl rfl ?_
  refine s_instY B X0 (pc' := 4) e0 (tw23 hw) (Ins.self E_b1) d3_1 rfl (fun T1 X1 e1 => ?_)
  refine s_ifN B X1 (pc' := 7) d3_4 (by decide) rfl ?_
  refine s_aloadN B X1 (pc' := 8) d3_7 rfl rfl rfl ?_
  refine s_castY B X1 (pc' := 11) e1 (tw23 hw) (Ins.self E_b1) d3_8 rfl (fun T2 X2 e2 => ?_)
  refine s_astoreN B X2 (pc' := 12) (Ls' := #[.val (.ref b0), .val (.ref b1), .val (.ref b1)]) d3_11 rfl rfl rfl ?_
  refine s_aloadN B X2 (pc' := 13) d3_12 rfl rfl rfl ?_
  refine s_getF B X2 (pc' := 16) e2 (host := "") (Or.inl (tw12 hw)) Via.refl D_b1_kind d3_13 rfl (fun T3 X3 e3 => ?_)
  refine s_aloadN B X3 (pc' := 17) d3_16 rfl rfl rfl ?_
  refine s_getF B X3 (pc' := 20) e3 (host := "") (Or.inl (tw12 hw)) Via.refl D_b0_kind d3_17 rfl (fun T4 X4 e4 => ?_)
  refine b_acmp_ne B X4 (py := 39) (pn := 23) d3_20 (by decide) (by decide) rfl (fun _ => ?_) (fun q => absurd q (own_ne_w_RELATIONSHIP_w_NODE F0))
  refine s_iconst B X4 (pc' := 40) (v := (0 : Int32)) d3_39 rfl rfl ?_
  exact r_nar B X4 (t := .boolean) (by simp) rfl d3_40 ⟨rfl, rfl, e4⟩ (by decide) (by decide)

theorem pn_mm3_16 : plainName "com/example/isolation/isolation/EntityKey" = true := by first | (simp [plainName, overriddenIn]; done) | decide +kernel
set_option maxRecDepth 65536 in
set_option maxHeartbeats 40000000 in
theorem mm3_16 (l : Launch) (Z : State) (a0 : Array Value) (hw : ∀ d ∈ tables_1, d.before a0 Z = true) (b0 : Addr) (q1 : Int64) (w_NODE w_RELATIONSHIP : Addr) (h0 : Heap) (FZ : OwnF Z Z.heap w_NODE w_RELATIONSHIP) (O0 : Old Z Z.heap.size h0) (ge_b0 : Z.heap.size ≤ b0) (E_b0 : Exa Z h0 b0 "com/example/isolation/isolation/EntityKey") (D_b0_id : Fld Z h0 b0 "com/example/isolation/isolation/EntityKey" "id" "J" (.long q1)) (D_b0_kind : Fld Z h0 b0 "com/example/isolation/isolation/EntityKey" "kind" "Lcom/example/isolation/isolation/EntityKind;" (.ref w_RELATIONSHIP))  :
    OMeets l Z mn0 prog_15_method_3_code 3 (some .boolean) [] ({ frames := 0, cells := 0, slots := 0, locals := 0 } : Room) #[(.ref b0), (.ref b0)] h0 (PureQ (some (.int (1 : Int32))) h0) := by
  refine OMeets.of pn_mm3_16 #[.val (.ref b0), .val (.ref b0), .unset] (fun m => by first | rfl | (simp [entryFrame, mkF, argsToLocals, Value.category, maxLocals]; done)) ?_
  intro p e s m below meth c s₁ B X0 e0
  have F0 := OwnF.ext O0.2 FZ
  obtain ⟨S_NODE, E_NODE, S_RELATIONSHIP, E_RELATIONSHIP, F_NODE_ordinal, F_RELATIONSHIP_ordinal, T_cache⟩ := id F0
  refine s_aloadN B X0 (pc' := 1) d3_0 rfl rfl rfl ?_
  refine s_instY B X0 (pc' := 4) e0 (tw23 hw) (Ins.self E_b0) d3_1 rfl (fun T1 X1 e1 => ?_)
  refine s_ifN B X1 (pc' := 7) d3_4 (by decide) rfl ?_
  refine s_aloadN B X1 (pc' := 8) d3_7 rfl rfl rfl ?_
  refine s_castY B X1 (pc' := 11) e1 (tw23 hw) (Ins.self E_b0) d3_8 rfl (fun T2 X2 e2 => ?_)
  refine s_astoreN B X2 (pc' := 12) (Ls' := #[.val (.ref b0), .val (.ref b0), .val (.ref b0)]) d3_11 rfl rfl rfl ?_
  refine s_aloadN B X2 (pc' := 13) d3_12 rfl rfl rfl ?_
  refine s_getF B X2 (pc' := 16) e2 (host := "") (Or.inl (tw12 hw)) Via.refl D_b0_kind d3_13 rfl (fun T3 X3 e3 => ?_)
  refine s_aloadN B X3 (pc' := 17) d3_16 rfl rfl rfl ?_
  refine s_getF B X3 (pc' := 20) e3 (host := "") (Or.inl (tw12 hw)) Via.refl D_b0_kind d3_17 rfl (fun T4 X4 e4 => ?_)
  refine b_acmp_ne B X4 (py := 39) (pn := 23) d3_20 (by decide) (by decide) rfl (fun q => absurd rfl q) (fun _ => ?_)
  refine s_aloadN B X4 (pc' := 24) d3_23 rfl rfl rfl ?_
  refine s_getF B X4 (pc' := 27) e4 (host := "") (Or.inl (tw14 hw)) Via.refl D_b0_id d3_24 rfl (fun T5 X5 e5 => ?_)
  refine s_aloadN B X5 (pc' := 28) d3_27 rfl rfl rfl ?_
  refine s_getF B X5 (pc' := 31) e5 (host := "") (Or.inl (tw14 hw)) Via.refl D_b0_id d3_28 rfl (fun T6 X6 e6 => ?_)
  refine b_lcmp_ne B X6 (py := 39) (pn := 35) d3_31 rfl d3_32 (by decide) (by decide) rfl (fun q => absurd rfl q) (fun _ => ?_)
  refine s_iconst B X6 (pc' := 36) (v := (1 : Int32)) d3_35 rfl rfl ?_
  refine s_goto B X6 (pc' := 40) d3_36 (by decide) (by decide) ?_
  exact r_nar B X6 (t := .boolean) (by simp) rfl d3_40 ⟨rfl, rfl, e6⟩ (by decide) (by decide)

theorem pn_mm3_17 : plainName "com/example/isolation/isolation/EntityKey" = true := by first | (simp [plainName, overriddenIn]; done) | decide +kernel
set_option maxRecDepth 65536 in
set_option maxHeartbeats 40000000 in
theorem mm3_17 (l : Launch) (Z : State) (a0 : Array Value) (hw : ∀ d ∈ tables_1, d.before a0 Z = true) (b0 : Addr) (q1 : Int64) (w_NODE w_RELATIONSHIP : Addr) (h0 : Heap) (FZ : OwnF Z Z.heap w_NODE w_RELATIONSHIP) (O0 : Old Z Z.heap.size h0) (ge_b0 : Z.heap.size ≤ b0) (E_b0 : Exa Z h0 b0 "com/example/isolation/isolation/EntityKey") (D_b0_id : Fld Z h0 b0 "com/example/isolation/isolation/EntityKey" "id" "J" (.long q1)) (D_b0_kind : Fld Z h0 b0 "com/example/isolation/isolation/EntityKey" "kind" "Lcom/example/isolation/isolation/EntityKind;" (.ref w_RELATIONSHIP))  :
    OMeets l Z mn0 prog_15_method_3_code 3 (some .boolean) [] ({ frames := 0, cells := 0, slots := 0, locals := 0 } : Room) #[(.ref b0), .null] h0 (PureQ (some (.int (0 : Int32))) h0) := by
  refine OMeets.of pn_mm3_17 #[.val (.ref b0), .val .null, .unset] (fun m => by first | rfl | (simp [entryFrame, mkF, argsToLocals, Value.category, maxLocals]; done)) ?_
  intro p e s m below meth c s₁ B X0 e0
  have F0 := OwnF.ext O0.2 FZ
  obtain ⟨S_NODE, E_NODE, S_RELATIONSHIP, E_RELATIONSHIP, F_NODE_ordinal, F_RELATIONSHIP_ordinal, T_cache⟩ := id F0
  refine s_aloadN B X0 (pc' := 1) d3_0 rfl rfl rfl ?_
  refine s_instNull B X0 (pc' := 4) d3_1 rfl ?_
  refine s_ifY B X0 (pc' := 39) d3_4 (by decide) (by decide) (by decide) ?_
  refine s_iconst B X0 (pc' := 40) (v := (0 : Int32)) d3_39 rfl rfl ?_
  exact r_nar B X0 (t := .boolean) (by simp) rfl d3_40 ⟨rfl, rfl, e0⟩ (by decide) (by decide)

theorem pn_mm3_18 : plainName "com/example/isolation/isolation/EntityKey" = true := by first | (simp [plainName, overriddenIn]; done) | decide +kernel
set_option maxRecDepth 65536 in
set_option maxHeartbeats 40000000 in
theorem mm3_18 (l : Launch) (Z : State) (a0 : Array Value) (hw : ∀ d ∈ tables_1, d.before a0 Z = true) (b0 : Addr) (b1 : Addr) (q2 : Int64) (q3 : Int64) (w_NODE w_RELATIONSHIP : Addr) (h0 : Heap) (FZ : OwnF Z Z.heap w_NODE w_RELATIONSHIP) (O0 : Old Z Z.heap.size h0) (ge_b0 : Z.heap.size ≤ b0) (E_b0 : Exa Z h0 b0 "com/example/isolation/isolation/EntityKey") (D_b0_id : Fld Z h0 b0 "com/example/isolation/isolation/EntityKey" "id" "J" (.long q2)) (D_b0_kind : Fld Z h0 b0 "com/example/isolation/isolation/EntityKey" "kind" "Lcom/example/isolation/isolation/EntityKind;" (.ref w_RELATIONSHIP)) (ge_b1 : Z.heap.size ≤ b1) (E_b1 : Exa Z h0 b1 "com/example/isolation/isolation/EntityKey") (D_b1_id : Fld Z h0 b1 "com/example/isolation/isolation/EntityKey" "id" "J" (.long q3)) (D_b1_kind : Fld Z h0 b1 "com/example/isolation/isolation/EntityKey" "kind" "Lcom/example/isolation/isolation/EntityKind;" (.ref w_RELATIONSHIP)) (ne_b0_b1 : b0 ≠ b1) (hk0 : q2 = q3) :
    OMeets l Z mn0 prog_15_method_3_code 3 (some .boolean) [] ({ frames := 0, cells := 0, slots := 0, locals := 0 } : Room) #[(.ref b0), (.ref b1)] h0 (PureQ (some (.int (1 : Int32))) h0) := by
  refine OMeets.of pn_mm3_18 #[.val (.ref b0), .val (.ref b1), .unset] (fun m => by first | rfl | (simp [entryFrame, mkF, argsToLocals, Value.category, maxLocals]; done)) ?_
  intro p e s m below meth c s₁ B X0 e0
  have F0 := OwnF.ext O0.2 FZ
  obtain ⟨S_NODE, E_NODE, S_RELATIONSHIP, E_RELATIONSHIP, F_NODE_ordinal, F_RELATIONSHIP_ordinal, T_cache⟩ := id F0
  refine s_aloadN B X0 (pc' := 1) d3_0 rfl rfl rfl ?_
  refine s_instY B X0 (pc' := 4) e0 (tw23 hw) (Ins.self E_b1) d3_1 rfl (fun T1 X1 e1 => ?_)
  refine s_ifN B X1 (pc' := 7) d3_4 (by decide) rfl ?_
  refine s_aloadN B X1 (pc' := 8) d3_7 rfl rfl rfl ?_
  refine s_castY B X1 (pc' := 11) e1 (tw23 hw) (Ins.self E_b1) d3_8 rfl (fun T2 X2 e2 => ?_)
  refine s_astoreN B X2 (pc' := 12) (Ls' := #[.val (.ref b0), .val (.ref b1), .val (.ref b1)]) d3_11 rfl rfl rfl ?_
  refine s_aloadN B X2 (pc' := 13) d3_12 rfl rfl rfl ?_
  refine s_getF B X2 (pc' := 16) e2 (host := "") (Or.inl (tw12 hw)) Via.refl D_b1_kind d3_13 rfl (fun T3 X3 e3 => ?_)
  refine s_aloadN B X3 (pc' := 17) d3_16 rfl rfl rfl ?_
  refine s_getF B X3 (pc' := 20) e3 (host := "") (Or.inl (tw12 hw)) Via.refl D_b0_kind d3_17 rfl (fun T4 X4 e4 => ?_)
  refine b_acmp_ne B X4 (py := 39) (pn := 23) d3_20 (by decide) (by decide) rfl (fun q => absurd rfl q) (fun _ => ?_)
  refine s_aloadN B X4 (pc' := 24) d3_23 rfl rfl rfl ?_
  refine s_getF B X4 (pc' := 27) e4 (host := "") (Or.inl (tw14 hw)) Via.refl D_b1_id d3_24 rfl (fun T5 X5 e5 => ?_)
  refine s_aloadN B X5 (pc' := 28) d3_27 rfl rfl rfl ?_
  refine s_getF B X5 (pc' := 31) e5 (host := "") (Or.inl (tw14 hw)) Via.refl D_b0_id d3_28 rfl (fun T6 X6 e6 => ?_)
  refine b_lcmp_ne B X6 (py := 39) (pn := 35) d3_31 rfl d3_32 (by decide) (by decide) rfl (fun q => absurd (hk0).symm q) (fun _ => ?_)
  refine s_iconst B X6 (pc' := 36) (v := (1 : Int32)) d3_35 rfl rfl ?_
  refine s_goto B X6 (pc' := 40) d3_36 (by decide) (by decide) ?_
  exact r_nar B X6 (t := .boolean) (by simp) rfl d3_40 ⟨rfl, rfl, e6⟩ (by decide) (by decide)

theorem pn_mm3_19 : plainName "com/example/isolation/isolation/EntityKey" = true := by first | (simp [plainName, overriddenIn]; done) | decide +kernel
set_option maxRecDepth 65536 in
set_option maxHeartbeats 40000000 in
theorem mm3_19 (l : Launch) (Z : State) (a0 : Array Value) (hw : ∀ d ∈ tables_1, d.before a0 Z = true) (b0 : Addr) (b1 : Addr) (q2 : Int64) (q3 : Int64) (w_NODE w_RELATIONSHIP : Addr) (h0 : Heap) (FZ : OwnF Z Z.heap w_NODE w_RELATIONSHIP) (O0 : Old Z Z.heap.size h0) (ge_b0 : Z.heap.size ≤ b0) (E_b0 : Exa Z h0 b0 "com/example/isolation/isolation/EntityKey") (D_b0_id : Fld Z h0 b0 "com/example/isolation/isolation/EntityKey" "id" "J" (.long q2)) (D_b0_kind : Fld Z h0 b0 "com/example/isolation/isolation/EntityKey" "kind" "Lcom/example/isolation/isolation/EntityKind;" (.ref w_RELATIONSHIP)) (ge_b1 : Z.heap.size ≤ b1) (E_b1 : Exa Z h0 b1 "com/example/isolation/isolation/EntityKey") (D_b1_id : Fld Z h0 b1 "com/example/isolation/isolation/EntityKey" "id" "J" (.long q3)) (D_b1_kind : Fld Z h0 b1 "com/example/isolation/isolation/EntityKey" "kind" "Lcom/example/isolation/isolation/EntityKind;" (.ref w_RELATIONSHIP)) (ne_b0_b1 : b0 ≠ b1) (hk0 : q3 = q2) :
    OMeets l Z mn0 prog_15_method_3_code 3 (some .boolean) [] ({ frames := 0, cells := 0, slots := 0, locals := 0 } : Room) #[(.ref b0), (.ref b1)] h0 (PureQ (some (.int (1 : Int32))) h0) := by
  refine OMeets.of pn_mm3_19 #[.val (.ref b0), .val (.ref b1), .unset] (fun m => by first | rfl | (simp [entryFrame, mkF, argsToLocals, Value.category, maxLocals]; done)) ?_
  intro p e s m below meth c s₁ B X0 e0
  have F0 := OwnF.ext O0.2 FZ
  obtain ⟨S_NODE, E_NODE, S_RELATIONSHIP, E_RELATIONSHIP, F_NODE_ordinal, F_RELATIONSHIP_ordinal, T_cache⟩ := id F0
  refine s_aloadN B X0 (pc' := 1) d3_0 rfl rfl rfl ?_
  refine s_instY B X0 (pc' := 4) e0 (tw23 hw) (Ins.self E_b1) d3_1 rfl (fun T1 X1 e1 => ?_)
  refine s_ifN B X1 (pc' := 7) d3_4 (by decide) rfl ?_
  refine s_aloadN B X1 (pc' := 8) d3_7 rfl rfl rfl ?_
  refine s_castY B X1 (pc' := 11) e1 (tw23 hw) (Ins.self E_b1) d3_8 rfl (fun T2 X2 e2 => ?_)
  refine s_astoreN B X2 (pc' := 12) (Ls' := #[.val (.ref b0), .val (.ref b1), .val (.ref b1)]) d3_11 rfl rfl rfl ?_
  refine s_aloadN B X2 (pc' := 13) d3_12 rfl rfl rfl ?_
  refine s_getF B X2 (pc' := 16) e2 (host := "") (Or.inl (tw12 hw)) Via.refl D_b1_kind d3_13 rfl (fun T3 X3 e3 => ?_)
  refine s_aloadN B X3 (pc' := 17) d3_16 rfl rfl rfl ?_
  refine s_getF B X3 (pc' := 20) e3 (host := "") (Or.inl (tw12 hw)) Via.refl D_b0_kind d3_17 rfl (fun T4 X4 e4 => ?_)
  refine b_acmp_ne B X4 (py := 39) (pn := 23) d3_20 (by decide) (by decide) rfl (fun q => absurd rfl q) (fun _ => ?_)
  refine s_aloadN B X4 (pc' := 24) d3_23 rfl rfl rfl ?_
  refine s_getF B X4 (pc' := 27) e4 (host := "") (Or.inl (tw14 hw)) Via.refl D_b1_id d3_24 rfl (fun T5 X5 e5 => ?_)
  refine s_aloadN B X5 (pc' := 28) d3_27 rfl rfl rfl ?_
  refine s_getF B X5 (pc' := 31) e5 (host := "") (Or.inl (tw14 hw)) Via.refl D_b0_id d3_28 rfl (fun T6 X6 e6 => ?_)
  refine b_lcmp_ne B X6 (py := 39) (pn := 35) d3_31 rfl d3_32 (by decide) (by decide) rfl (fun q => absurd hk0 q) (fun _ => ?_)
  refine s_iconst B X6 (pc' := 36) (v := (1 : Int32)) d3_35 rfl rfl ?_
  refine s_goto B X6 (pc' := 40) d3_36 (by decide) (by decide) ?_
  exact r_nar B X6 (t := .boolean) (by simp) rfl d3_40 ⟨rfl, rfl, e6⟩ (by decide) (by decide)

theorem pn_mm3_20 : plainName "com/example/isolation/isolation/EntityKey" = true := by first | (simp [plainName, overriddenIn]; done) | decide +kernel
set_option maxRecDepth 65536 in
set_option maxHeartbeats 40000000 in
theorem mm3_20 (l : Launch) (Z : State) (a0 : Array Value) (hw : ∀ d ∈ tables_1, d.before a0 Z = true) (b0 : Addr) (b1 : Addr) (q2 : Int64) (w_NODE w_RELATIONSHIP : Addr) (h0 : Heap) (FZ : OwnF Z Z.heap w_NODE w_RELATIONSHIP) (O0 : Old Z Z.heap.size h0) (ge_b0 : Z.heap.size ≤ b0) (E_b0 : Exa Z h0 b0 "com/example/isolation/isolation/EntityKey") (D_b0_id : Fld Z h0 b0 "com/example/isolation/isolation/EntityKey" "id" "J" (.long q2)) (D_b0_kind : Fld Z h0 b0 "com/example/isolation/isolation/EntityKey" "kind" "Lcom/example/isolation/isolation/EntityKind;" (.ref w_RELATIONSHIP)) (ge_b1 : Z.heap.size ≤ b1) (E_b1 : Exa Z h0 b1 "com/example/isolation/isolation/EntityKey") (D_b1_id : Fld Z h0 b1 "com/example/isolation/isolation/EntityKey" "id" "J" (.long q2)) (D_b1_kind : Fld Z h0 b1 "com/example/isolation/isolation/EntityKey" "kind" "Lcom/example/isolation/isolation/EntityKind;" (.ref w_RELATIONSHIP)) (ne_b0_b1 : b0 ≠ b1)  :
    OMeets l Z mn0 prog_15_method_3_code 3 (some .boolean) [] ({ frames := 0, cells := 0, slots := 0, locals := 0 } : Room) #[(.ref b0), (.ref b1)] h0 (PureQ (some (.int (1 : Int32))) h0) := by
  refine OMeets.of pn_mm3_20 #[.val (.ref b0), .val (.ref b1), .unset] (fun m => by first | rfl | (simp [entryFrame, mkF, argsToLocals, Value.category, maxLocals]; done)) ?_
  intro p e s m below meth c s₁ B X0 e0
  have F0 := OwnF.ext O0.2 FZ
  obtain ⟨S_NODE, E_NODE, S_RELATIONSHIP, E_RELATIONSHIP, F_NODE_ordinal, F_RELATIONSHIP_ordinal, T_cache⟩ := id F0
  refine s_aloadN B X0 (pc' := 1) d3_0 rfl rfl rfl ?_
  refine s_instY B X0 (pc' := 4) e0 (tw23 hw) (Ins.self E_b1) d3_1 rfl (fun T1 X1 e1 => ?_)
  refine s_ifN B X1 (pc' := 7) d3_4 (by decide) rfl ?_
  refine s_aloadN B X1 (pc' := 8) d3_7 rfl rfl rfl ?_
  refine s_castY B X1 (pc' := 11) e1 (tw23 hw) (Ins.self E_b1) d3_8 rfl (fun T2 X2 e2 => ?_)
  refine s_astoreN B X2 (pc' := 12) (Ls' := #[.val (.ref b0), .val (.ref b1), .val (.ref b1)]) d3_11 rfl rfl rfl ?_
  refine s_aloadN B X2 (pc' := 13) d3_12 rfl rfl rfl ?_
  refine s_getF B X2 (pc' := 16) e2 (host := "") (Or.inl (tw12 hw)) Via.refl D_b1_kind d3_13 rfl (fun T3 X3 e3 => ?_)
  refine s_aloadN B X3 (pc' := 17) d3_16 rfl rfl rfl ?_
  refine s_getF B X3 (pc' := 20) e3 (host := "") (Or.inl (tw12 hw)) Via.refl D_b0_kind d3_17 rfl (fun T4 X4 e4 => ?_)
  refine b_acmp_ne B X4 (py := 39) (pn := 23) d3_20 (by decide) (by decide) rfl (fun q => absurd rfl q) (fun _ => ?_)
  refine s_aloadN B X4 (pc' := 24) d3_23 rfl rfl rfl ?_
  refine s_getF B X4 (pc' := 27) e4 (host := "") (Or.inl (tw14 hw)) Via.refl D_b1_id d3_24 rfl (fun T5 X5 e5 => ?_)
  refine s_aloadN B X5 (pc' := 28) d3_27 rfl rfl rfl ?_
  refine s_getF B X5 (pc' := 31) e5 (host := "") (Or.inl (tw14 hw)) Via.refl D_b0_id d3_28 rfl (fun T6 X6 e6 => ?_)
  refine b_lcmp_ne B X6 (py := 39) (pn := 35) d3_31 rfl d3_32 (by decide) (by decide) rfl (fun q => absurd rfl q) (fun _ => ?_)
  refine s_iconst B X6 (pc' := 36) (v := (1 : Int32)) d3_35 rfl rfl ?_
  refine s_goto B X6 (pc' := 40) d3_36 (by decide) (by decide) ?_
  exact r_nar B X6 (t := .boolean) (by simp) rfl d3_40 ⟨rfl, rfl, e6⟩ (by decide) (by decide)

theorem pn_mm3_21 : plainName "com/example/isolation/isolation/EntityKey" = true := by first | (simp [plainName, overriddenIn]; done) | decide +kernel
set_option maxRecDepth 65536 in
set_option maxHeartbeats 40000000 in
theorem mm3_21 (l : Launch) (Z : State) (a0 : Array Value) (hw : ∀ d ∈ tables_1, d.before a0 Z = true) (b0 : Addr) (b1 : Addr) (q2 : Int64) (q3 : Int64) (w_NODE w_RELATIONSHIP : Addr) (h0 : Heap) (FZ : OwnF Z Z.heap w_NODE w_RELATIONSHIP) (O0 : Old Z Z.heap.size h0) (ge_b0 : Z.heap.size ≤ b0) (E_b0 : Exa Z h0 b0 "com/example/isolation/isolation/EntityKey") (D_b0_id : Fld Z h0 b0 "com/example/isolation/isolation/EntityKey" "id" "J" (.long q2)) (D_b0_kind : Fld Z h0 b0 "com/example/isolation/isolation/EntityKey" "kind" "Lcom/example/isolation/isolation/EntityKind;" (.ref w_NODE)) (ge_b1 : Z.heap.size ≤ b1) (E_b1 : Exa Z h0 b1 "com/example/isolation/isolation/EntityKey") (D_b1_id : Fld Z h0 b1 "com/example/isolation/isolation/EntityKey" "id" "J" (.long q3)) (D_b1_kind : Fld Z h0 b1 "com/example/isolation/isolation/EntityKey" "kind" "Lcom/example/isolation/isolation/EntityKind;" (.ref w_NODE)) (ne_b0_b1 : b0 ≠ b1) (hk0 : ¬ q2 = q3) :
    OMeets l Z mn0 prog_15_method_3_code 3 (some .boolean) [] ({ frames := 0, cells := 0, slots := 0, locals := 0 } : Room) #[(.ref b0), (.ref b1)] h0 (PureQ (some (.int (0 : Int32))) h0) := by
  refine OMeets.of pn_mm3_21 #[.val (.ref b0), .val (.ref b1), .unset] (fun m => by first | rfl | (simp [entryFrame, mkF, argsToLocals, Value.category, maxLocals]; done)) ?_
  intro p e s m below meth c s₁ B X0 e0
  have F0 := OwnF.ext O0.2 FZ
  obtain ⟨S_NODE, E_NODE, S_RELATIONSHIP, E_RELATIONSHIP, F_NODE_ordinal, F_RELATIONSHIP_ordinal, T_cache⟩ := id F0
  refine s_aloadN B X0 (pc' := 1) d3_0 rfl rfl rfl ?_
  refine s_instY B X0 (pc' := 4) e0 (tw23 hw) (Ins.self E_b1) d3_1 rfl (fun T1 X1 e1 => ?_)
  refine s_ifN B X1 (pc' := 7) d3_4 (by decide) rfl ?_
  refine s_aloadN B X1 (pc' := 8) d3_7 rfl rfl rfl ?_
  refine s_castY B X1 (pc' := 11) e1 (tw23 hw) (Ins.self E_b1) d3_8 rfl (fun T2 X2 e2 => ?_)
  refine s_astoreN B X2 (pc' := 12) (Ls' := #[.val (.ref b0), .val (.ref b1), .val (.ref b1)]) d3_11 rfl rfl rfl ?_
  refine s_aloadN B X2 (pc' := 13) d3_12 rfl rfl rfl ?_
  refine s_getF B X2 (pc' := 16) e2 (host := "") (Or.inl (tw12 hw)) Via.refl D_b1_kind d3_13 rfl (fun T3 X3 e3 => ?_)
  refine s_aloadN B X3 (pc' := 17) d3_16 rfl rfl rfl ?_
  refine s_getF B X3 (pc' := 20) e3 (host := "") (Or.inl (tw12 hw)) Via.refl D_b0_kind d3_17 rfl (fun T4 X4 e4 => ?_)
  refine b_acmp_ne B X4 (py := 39) (pn := 23) d3_20 (by decide) (by decide) rfl (fun q => absurd rfl q) (fun _ => ?_)
  refine s_aloadN B X4 (pc' := 24) d3_23 rfl rfl rfl ?_
  refine s_getF B X4 (pc' := 27) e4 (host := "") (Or.inl (tw14 hw)) Via.refl D_b1_id d3_24 rfl (fun T5 X5 e5 => ?_)
  refine s_aloadN B X5 (pc' := 28) d3_27 rfl rfl rfl ?_
  refine s_getF B X5 (pc' := 31) e5 (host := "") (Or.inl (tw14 hw)) Via.refl D_b0_id d3_28 rfl (fun T6 X6 e6 => ?_)
  refine b_lcmp_ne B X6 (py := 39) (pn := 35) d3_31 rfl d3_32 (by decide) (by decide) rfl (fun _ => ?_) (fun q => absurd q (fun q => hk0 q.symm))
  refine s_iconst B X6 (pc' := 40) (v := (0 : Int32)) d3_39 rfl rfl ?_
  exact r_nar B X6 (t := .boolean) (by simp) rfl d3_40 ⟨rfl, rfl, e6⟩ (by decide) (by decide)

theorem pn_mm3_22 : plainName "com/example/isolation/isolation/EntityKey" = true := by first | (simp [plainName, overriddenIn]; done) | decide +kernel
set_option maxRecDepth 65536 in
set_option maxHeartbeats 40000000 in
theorem mm3_22 (l : Launch) (Z : State) (a0 : Array Value) (hw : ∀ d ∈ tables_1, d.before a0 Z = true) (b0 : Addr) (b1 : Addr) (q2 : Int64) (q3 : Int64) (w_NODE w_RELATIONSHIP : Addr) (h0 : Heap) (FZ : OwnF Z Z.heap w_NODE w_RELATIONSHIP) (O0 : Old Z Z.heap.size h0) (ge_b0 : Z.heap.size ≤ b0) (E_b0 : Exa Z h0 b0 "com/example/isolation/isolation/EntityKey") (D_b0_id : Fld Z h0 b0 "com/example/isolation/isolation/EntityKey" "id" "J" (.long q2)) (D_b0_kind : Fld Z h0 b0 "com/example/isolation/isolation/EntityKey" "kind" "Lcom/example/isolation/isolation/EntityKind;" (.ref w_NODE)) (ge_b1 : Z.heap.size ≤ b1) (E_b1 : Exa Z h0 b1 "com/example/isolation/isolation/EntityKey") (D_b1_id : Fld Z h0 b1 "com/example/isolation/isolation/EntityKey" "id" "J" (.long q3)) (D_b1_kind : Fld Z h0 b1 "com/example/isolation/isolation/EntityKey" "kind" "Lcom/example/isolation/isolation/EntityKind;" (.ref w_NODE)) (ne_b0_b1 : b0 ≠ b1) (hk0 : ¬ q3 = q2) :
    OMeets l Z mn0 prog_15_method_3_code 3 (some .boolean) [] ({ frames := 0, cells := 0, slots := 0, locals := 0 } : Room) #[(.ref b0), (.ref b1)] h0 (PureQ (some (.int (0 : Int32))) h0) := by
  refine OMeets.of pn_mm3_22 #[.val (.ref b0), .val (.ref b1), .unset] (fun m => by first | rfl | (simp [entryFrame, mkF, argsToLocals, Value.category, maxLocals]; done)) ?_
  intro p e s m below meth c s₁ B X0 e0
  have F0 := OwnF.ext O0.2 FZ
  obtain ⟨S_NODE, E_NODE, S_RELATIONSHIP, E_RELATIONSHIP, F_NODE_ordinal, F_RELATIONSHIP_ordinal, T_cache⟩ := id F0
  refine s_aloadN B X0 (pc' := 1) d3_0 rfl rfl rfl ?_
  refine s_instY B X0 (pc' := 4) e0 (tw23 hw) (Ins.self E_b1) d3_1 rfl (fun T1 X1 e1 => ?_)
  refine s_ifN B X1 (pc' := 7) d3_4 (by decide) rfl ?_
  refine s_aloadN B X1 (pc' := 8) d3_7 rfl rfl rfl ?_
  refine s_castY B X1 (pc' := 11) e1 (tw23 hw) (Ins.self E_b1) d3_8 rfl (fun T2 X2 e2 => ?_)
  refine s_astoreN B X2 (pc' := 12) (Ls' := #[.val (.ref b0), .val (.ref b1), .val (.ref b1)]) d3_11 rfl rfl rfl ?_
  refine s_aloadN B X2 (pc' := 13) d3_12 rfl rfl rfl ?_
  refine s_getF B X2 (pc' := 16) e2 (host := "") (Or.inl (tw12 hw)) Via.refl D_b1_kind d3_13 rfl (fun T3 X3 e3 => ?_)
  refine s_aloadN B X3 (pc' := 17) d3_16 rfl rfl rfl ?_
  refine s_getF B X3 (pc' := 20) e3 (host := "") (Or.inl (tw12 hw)) Via.refl D_b0_kind d3_17 rfl (fun T4 X4 e4 => ?_)
  refine b_acmp_ne B X4 (py := 39) (pn := 23) d3_20 (by decide) (by decide) rfl (fun q => absurd rfl q) (fun _ => ?_)
  refine s_aloadN B X4 (pc' := 24) d3_23 rfl rfl rfl ?_
  refine s_getF B X4 (pc' := 27) e4 (host := "") (Or.inl (tw14 hw)) Via.refl D_b1_id d3_24 rfl (fun T5 X5 e5 => ?_)
  refine s_aloadN B X5 (pc' := 28) d3_27 rfl rfl rfl ?_
  refine s_getF B X5 (pc' := 31) e5 (host := "") (Or.inl (tw14 hw)) Via.refl D_b0_id d3_28 rfl (fun T6 X6 e6 => ?_)
  refine b_lcmp_ne B X6 (py := 39) (pn := 35) d3_31 rfl d3_32 (by decide) (by decide) rfl (fun _ => ?_) (fun q => absurd q hk0)
  refine s_iconst B X6 (pc' := 40) (v := (0 : Int32)) d3_39 rfl rfl ?_
  exact r_nar B X6 (t := .boolean) (by simp) rfl d3_40 ⟨rfl, rfl, e6⟩ (by decide) (by decide)

theorem pn_mm3_23 : plainName "com/example/isolation/isolation/EntityKey" = true := by first | (simp [plainName, overriddenIn]; done) | decide +kernel
set_option maxRecDepth 65536 in
set_option maxHeartbeats 40000000 in
theorem mm3_23 (l : Launch) (Z : State) (a0 : Array Value) (hw : ∀ d ∈ tables_1, d.before a0 Z = true) (b0 : Addr) (b1 : Addr) (q2 : Int64) (q3 : Int64) (w_NODE w_RELATIONSHIP : Addr) (h0 : Heap) (FZ : OwnF Z Z.heap w_NODE w_RELATIONSHIP) (O0 : Old Z Z.heap.size h0) (ge_b0 : Z.heap.size ≤ b0) (E_b0 : Exa Z h0 b0 "com/example/isolation/isolation/EntityKey") (D_b0_id : Fld Z h0 b0 "com/example/isolation/isolation/EntityKey" "id" "J" (.long q2)) (D_b0_kind : Fld Z h0 b0 "com/example/isolation/isolation/EntityKey" "kind" "Lcom/example/isolation/isolation/EntityKind;" (.ref w_NODE)) (ge_b1 : Z.heap.size ≤ b1) (E_b1 : Exa Z h0 b1 "com/example/isolation/isolation/EntityKey") (D_b1_id : Fld Z h0 b1 "com/example/isolation/isolation/EntityKey" "id" "J" (.long q3)) (D_b1_kind : Fld Z h0 b1 "com/example/isolation/isolation/EntityKey" "kind" "Lcom/example/isolation/isolation/EntityKind;" (.ref w_RELATIONSHIP)) (ne_b0_b1 : b0 ≠ b1) (hk0 : ¬ q2 = q3) :
    OMeets l Z mn0 prog_15_method_3_code 3 (some .boolean) [] ({ frames := 0, cells := 0, slots := 0, locals := 0 } : Room) #[(.ref b0), (.ref b1)] h0 (PureQ (some (.int (0 : Int32))) h0) := by
  refine OMeets.of pn_mm3_23 #[.val (.ref b0), .val (.ref b1), .unset] (fun m => by first | rfl | (simp [entryFrame, mkF, argsToLocals, Value.category, maxLocals]; done)) ?_
  intro p e s m below meth c s₁ B X0 e0
  have F0 := OwnF.ext O0.2 FZ
  obtain ⟨S_NODE, E_NODE, S_RELATIONSHIP, E_RELATIONSHIP, F_NODE_ordinal, F_RELATIONSHIP_ordinal, T_cache⟩ := id F0
  refine s_aloadN B X0 (pc' := 1) d3_0 rfl rfl rfl ?_
  refine s_instY B X0 (pc' := 4) e0 (tw23 hw) (Ins.self E_b1) d3_1 rfl (fun T1 X1 e1 => ?_)
  refine s_ifN B X1 (pc' := 7) d3_4 (by decide) rfl ?_
  refine s_aloadN B X1 (pc' := 8) d3_7 rfl rfl rfl ?_
  refine s_castY B X1 (pc' := 11) e1 (tw23 hw) (Ins.self E_b1) d3_8 rfl (fun T2 X2 e2 => ?_)
  refine s_astoreN B X2 (pc' := 12) (Ls' := #[.val (.ref b0), .val (.ref b1), .val (.ref b1)]) d3_11 rfl rfl rfl ?_
  refine s_aloadN B X2 (pc' := 13) d3_12 rfl rfl rfl ?_
  refine s_getF B X2 (pc' := 16) e2 (host := "") (Or.inl (tw12 hw)) Via.refl D_b1_kind d3_13 rfl (fun T3 X3 e3 => ?_)
  refine s_aloadN B X3 (pc' := 17) d3_16 rfl rfl rfl ?_
  refine s_getF B X3 (pc' := 20) e3 (host := "") (Or.inl (tw12 hw)) Via.refl D_b0_kind d3_17 rfl (fun T4 X4 e4 => ?_)
  refine b_acmp_ne B X4 (py := 39) (pn := 23) d3_20 (by decide) (by decide) rfl (fun _ => ?_) (fun q => absurd q (own_ne_w_RELATIONSHIP_w_NODE F0))
  refine s_iconst B X4 (pc' := 40) (v := (0 : Int32)) d3_39 rfl rfl ?_
  exact r_nar B X4 (t := .boolean) (by simp) rfl d3_40 ⟨rfl, rfl, e4⟩ (by decide) (by decide)

theorem pn_mm3_24 : plainName "com/example/isolation/isolation/EntityKey" = true := by first | (simp [plainName, overriddenIn]; done) | decide +kernel
set_option maxRecDepth 65536 in
set_option maxHeartbeats 40000000 in
theorem mm3_24 (l : Launch) (Z : State) (a0 : Array Value) (hw : ∀ d ∈ tables_1, d.before a0 Z = true) (b0 : Addr) (b1 : Addr) (q2 : Int64) (q3 : Int64) (w_NODE w_RELATIONSHIP : Addr) (h0 : Heap) (FZ : OwnF Z Z.heap w_NODE w_RELATIONSHIP) (O0 : Old Z Z.heap.size h0) (ge_b0 : Z.heap.size ≤ b0) (E_b0 : Exa Z h0 b0 "com/example/isolation/isolation/EntityKey") (D_b0_id : Fld Z h0 b0 "com/example/isolation/isolation/EntityKey" "id" "J" (.long q2)) (D_b0_kind : Fld Z h0 b0 "com/example/isolation/isolation/EntityKey" "kind" "Lcom/example/isolation/isolation/EntityKind;" (.ref w_RELATIONSHIP)) (ge_b1 : Z.heap.size ≤ b1) (E_b1 : Exa Z h0 b1 "com/example/isolation/isolation/EntityKey") (D_b1_id : Fld Z h0 b1 "com/example/isolation/isolation/EntityKey" "id" "J" (.long q3)) (D_b1_kind : Fld Z h0 b1 "com/example/isolation/isolation/EntityKey" "kind" "Lcom/example/isolation/isolation/EntityKind;" (.ref w_NODE)) (ne_b0_b1 : b0 ≠ b1) (hk0 : ¬ q3 = q2) :
    OMeets l Z mn0 prog_15_method_3_code 3 (some .boolean) [] ({ frames := 0, cells := 0, slots := 0, locals := 0 } : Room) #[(.ref b0), (.ref b1)] h0 (PureQ (some (.int (0 : Int32))) h0) := by
  refine OMeets.of pn_mm3_24 #[.val (.ref b0), .val (.ref b1), .unset] (fun m => by first | rfl | (simp [entryFrame, mkF, argsToLocals, Value.category, maxLocals]; done)) ?_
  intro p e s m below meth c s₁ B X0 e0
  have F0 := OwnF.ext O0.2 FZ
  obtain ⟨S_NODE, E_NODE, S_RELATIONSHIP, E_RELATIONSHIP, F_NODE_ordinal, F_RELATIONSHIP_ordinal, T_cache⟩ := id F0
  refine s_aloadN B X0 (pc' := 1) d3_0 rfl rfl rfl ?_
  refine s_instY B X0 (pc' := 4) e0 (tw23 hw) (Ins.self E_b1) d3_1 rfl (fun T1 X1 e1 => ?_)
  refine s_ifN B X1 (pc' := 7) d3_4 (by decide) rfl ?_
  refine s_aloadN B X1 (pc' := 8) d3_7 rfl rfl rfl ?_
  refine s_castY B X1 (pc' := 11) e1 (tw23 hw) (Ins.self E_b1) d3_8 rfl (fun T2 X2 e2 => ?_)
  refine s_astoreN B X2 (pc' := 12) (Ls' := #[.val (.ref b0), .val (.ref b1), .val (.ref b1)]) d3_11 rfl rfl rfl ?_
  refine s_aloadN B X2 (pc' := 13) d3_12 rfl rfl rfl ?_
  refine s_getF B X2 (pc' := 16) e2 (host := "") (Or.inl (tw12 hw)) Via.refl D_b1_kind d3_13 rfl (fun T3 X3 e3 => ?_)
  refine s_aloadN B X3 (pc' := 17) d3_16 rfl rfl rfl ?_
  refine s_getF B X3 (pc' := 20) e3 (host := "") (Or.inl (tw12 hw)) Via.refl D_b0_kind d3_17 rfl (fun T4 X4 e4 => ?_)
  refine b_acmp_ne B X4 (py := 39) (pn := 23) d3_20 (by decide) (by decide) rfl (fun _ => ?_) (fun q => absurd q (own_ne_w_NODE_w_RELATIONSHIP F0))
  refine s_iconst B X4 (pc' := 40) (v := (0 : Int32)) d3_39 rfl rfl ?_
  exact r_nar B X4 (t := .boolean) (by simp) rfl d3_40 ⟨rfl, rfl, e4⟩ (by decide) (by decide)

theorem pn_mm3_25 : plainName "com/example/isolation/isolation/EntityKey" = true := by first | (simp [plainName, overriddenIn]; done) | decide +kernel
set_option maxRecDepth 65536 in
set_option maxHeartbeats 40000000 in
theorem mm3_25 (l : Launch) (Z : State) (a0 : Array Value) (hw : ∀ d ∈ tables_1, d.before a0 Z = true) (b0 : Addr) (b1 : Addr) (q2 : Int64) (q3 : Int64) (w_NODE w_RELATIONSHIP : Addr) (h0 : Heap) (FZ : OwnF Z Z.heap w_NODE w_RELATIONSHIP) (O0 : Old Z Z.heap.size h0) (ge_b0 : Z.heap.size ≤ b0) (E_b0 : Exa Z h0 b0 "com/example/isolation/isolation/EntityKey") (D_b0_id : Fld Z h0 b0 "com/example/isolation/isolation/EntityKey" "id" "J" (.long q2)) (D_b0_kind : Fld Z h0 b0 "com/example/isolation/isolation/EntityKey" "kind" "Lcom/example/isolation/isolation/EntityKind;" (.ref w_RELATIONSHIP)) (ge_b1 : Z.heap.size ≤ b1) (E_b1 : Exa Z h0 b1 "com/example/isolation/isolation/EntityKey") (D_b1_id : Fld Z h0 b1 "com/example/isolation/isolation/EntityKey" "id" "J" (.long q3)) (D_b1_kind : Fld Z h0 b1 "com/example/isolation/isolation/EntityKey" "kind" "Lcom/example/isolation/isolation/EntityKind;" (.ref w_NODE)) (ne_b0_b1 : b0 ≠ b1) (hk0 : ¬ q2 = q3) :
    OMeets l Z mn0 prog_15_method_3_code 3 (some .boolean) [] ({ frames := 0, cells := 0, slots := 0, locals := 0 } : Room) #[(.ref b0), (.ref b1)] h0 (PureQ (some (.int (0 : Int32))) h0) := by
  refine OMeets.of pn_mm3_25 #[.val (.ref b0), .val (.ref b1), .unset] (fun m => by first | rfl | (simp [entryFrame, mkF, argsToLocals, Value.category, maxLocals]; done)) ?_
  intro p e s m below meth c s₁ B X0 e0
  have F0 := OwnF.ext O0.2 FZ
  obtain ⟨S_NODE, E_NODE, S_RELATIONSHIP, E_RELATIONSHIP, F_NODE_ordinal, F_RELATIONSHIP_ordinal, T_cache⟩ := id F0
  refine s_aloadN B X0 (pc' := 1) d3_0 rfl rfl rfl ?_
  refine s_instY B X0 (pc' := 4) e0 (tw23 hw) (Ins.self E_b1) d3_1 rfl (fun T1 X1 e1 => ?_)
  refine s_ifN B X1 (pc' := 7) d3_4 (by decide) rfl ?_
  refine s_aloadN B X1 (pc' := 8) d3_7 rfl rfl rfl ?_
  refine s_castY B X1 (pc' := 11) e1 (tw23 hw) (Ins.self E_b1) d3_8 rfl (fun T2 X2 e2 => ?_)
  refine s_astoreN B X2 (pc' := 12) (Ls' := #[.val (.ref b0), .val (.ref b1), .val (.ref b1)]) d3_11 rfl rfl rfl ?_
  refine s_aloadN B X2 (pc' := 13) d3_12 rfl rfl rfl ?_
  refine s_getF B X2 (pc' := 16) e2 (host := "") (Or.inl (tw12 hw)) Via.refl D_b1_kind d3_13 rfl (fun T3 X3 e3 => ?_)
  refine s_aloadN B X3 (pc' := 17) d3_16 rfl rfl rfl ?_
  refine s_getF B X3 (pc' := 20) e3 (host := "") (Or.inl (tw12 hw)) Via.refl D_b0_kind d3_17 rfl (fun T4 X4 e4 => ?_)
  refine b_acmp_ne B X4 (py := 39) (pn := 23) d3_20 (by decide) (by decide) rfl (fun _ => ?_) (fun q => absurd q (own_ne_w_NODE_w_RELATIONSHIP F0))
  refine s_iconst B X4 (pc' := 40) (v := (0 : Int32)) d3_39 rfl rfl ?_
  exact r_nar B X4 (t := .boolean) (by simp) rfl d3_40 ⟨rfl, rfl, e4⟩ (by decide) (by decide)

theorem pn_mm3_26 : plainName "com/example/isolation/isolation/EntityKey" = true := by first | (simp [plainName, overriddenIn]; done) | decide +kernel
set_option maxRecDepth 65536 in
set_option maxHeartbeats 40000000 in
theorem mm3_26 (l : Launch) (Z : State) (a0 : Array Value) (hw : ∀ d ∈ tables_1, d.before a0 Z = true) (b0 : Addr) (b1 : Addr) (q2 : Int64) (q3 : Int64) (w_NODE w_RELATIONSHIP : Addr) (h0 : Heap) (FZ : OwnF Z Z.heap w_NODE w_RELATIONSHIP) (O0 : Old Z Z.heap.size h0) (ge_b0 : Z.heap.size ≤ b0) (E_b0 : Exa Z h0 b0 "com/example/isolation/isolation/EntityKey") (D_b0_id : Fld Z h0 b0 "com/example/isolation/isolation/EntityKey" "id" "J" (.long q2)) (D_b0_kind : Fld Z h0 b0 "com/example/isolation/isolation/EntityKey" "kind" "Lcom/example/isolation/isolation/EntityKind;" (.ref w_NODE)) (ge_b1 : Z.heap.size ≤ b1) (E_b1 : Exa Z h0 b1 "com/example/isolation/isolation/EntityKey") (D_b1_id : Fld Z h0 b1 "com/example/isolation/isolation/EntityKey" "id" "J" (.long q3)) (D_b1_kind : Fld Z h0 b1 "com/example/isolation/isolation/EntityKey" "kind" "Lcom/example/isolation/isolation/EntityKind;" (.ref w_RELATIONSHIP)) (ne_b0_b1 : b0 ≠ b1) (hk0 : ¬ q3 = q2) :
    OMeets l Z mn0 prog_15_method_3_code 3 (some .boolean) [] ({ frames := 0, cells := 0, slots := 0, locals := 0 } : Room) #[(.ref b0), (.ref b1)] h0 (PureQ (some (.int (0 : Int32))) h0) := by
  refine OMeets.of pn_mm3_26 #[.val (.ref b0), .val (.ref b1), .unset] (fun m => by first | rfl | (simp [entryFrame, mkF, argsToLocals, Value.category, maxLocals]; done)) ?_
  intro p e s m below meth c s₁ B X0 e0
  have F0 := OwnF.ext O0.2 FZ
  obtain ⟨S_NODE, E_NODE, S_RELATIONSHIP, E_RELATIONSHIP, F_NODE_ordinal, F_RELATIONSHIP_ordinal, T_cache⟩ := id F0
  refine s_aloadN B X0 (pc' := 1) d3_0 rfl rfl rfl ?_
  refine s_instY B X0 (pc' := 4) e0 (tw23 hw) (Ins.self E_b1) d3_1 rfl (fun T1 X1 e1 => ?_)
  refine s_ifN B X1 (pc' := 7) d3_4 (by decide) rfl ?_
  refine s_aloadN B X1 (pc' := 8) d3_7 rfl rfl rfl ?_
  refine s_castY B X1 (pc' := 11) e1 (tw23 hw) (Ins.self E_b1) d3_8 rfl (fun T2 X2 e2 => ?_)
  refine s_astoreN B X2 (pc' := 12) (Ls' := #[.val (.ref b0), .val (.ref b1), .val (.ref b1)]) d3_11 rfl rfl rfl ?_
  refine s_aloadN B X2 (pc' := 13) d3_12 rfl rfl rfl ?_
  refine s_getF B X2 (pc' := 16) e2 (host := "") (Or.inl (tw12 hw)) Via.refl D_b1_kind d3_13 rfl (fun T3 X3 e3 => ?_)
  refine s_aloadN B X3 (pc' := 17) d3_16 rfl rfl rfl ?_
  refine s_getF B X3 (pc' := 20) e3 (host := "") (Or.inl (tw12 hw)) Via.refl D_b0_kind d3_17 rfl (fun T4 X4 e4 => ?_)
  refine b_acmp_ne B X4 (py := 39) (pn := 23) d3_20 (by decide) (by decide) rfl (fun _ => ?_) (fun q => absurd q (own_ne_w_RELATIONSHIP_w_NODE F0))
  refine s_iconst B X4 (pc' := 40) (v := (0 : Int32)) d3_39 rfl rfl ?_
  exact r_nar B X4 (t := .boolean) (by simp) rfl d3_40 ⟨rfl, rfl, e4⟩ (by decide) (by decide)

theorem pn_mm3_27 : plainName "com/example/isolation/isolation/EntityKey" = true := by first | (simp [plainName, overriddenIn]; done) | decide +kernel
set_option maxRecDepth 65536 in
set_option maxHeartbeats 40000000 in
theorem mm3_27 (l : Launch) (Z : State) (a0 : Array Value) (hw : ∀ d ∈ tables_1, d.before a0 Z = true) (b0 : Addr) (b1 : Addr) (q2 : Int64) (q3 : Int64) (w_NODE w_RELATIONSHIP : Addr) (h0 : Heap) (FZ : OwnF Z Z.heap w_NODE w_RELATIONSHIP) (O0 : Old Z Z.heap.size h0) (ge_b0 : Z.heap.size ≤ b0) (E_b0 : Exa Z h0 b0 "com/example/isolation/isolation/EntityKey") (D_b0_id : Fld Z h0 b0 "com/example/isolation/isolation/EntityKey" "id" "J" (.long q2)) (D_b0_kind : Fld Z h0 b0 "com/example/isolation/isolation/EntityKey" "kind" "Lcom/example/isolation/isolation/EntityKind;" (.ref w_RELATIONSHIP)) (ge_b1 : Z.heap.size ≤ b1) (E_b1 : Exa Z h0 b1 "com/example/isolation/isolation/EntityKey") (D_b1_id : Fld Z h0 b1 "com/example/isolation/isolation/EntityKey" "id" "J" (.long q3)) (D_b1_kind : Fld Z h0 b1 "com/example/isolation/isolation/EntityKey" "kind" "Lcom/example/isolation/isolation/EntityKind;" (.ref w_RELATIONSHIP)) (ne_b0_b1 : b0 ≠ b1) (hk0 : ¬ q2 = q3) :
    OMeets l Z mn0 prog_15_method_3_code 3 (some .boolean) [] ({ frames := 0, cells := 0, slots := 0, locals := 0 } : Room) #[(.ref b0), (.ref b1)] h0 (PureQ (some (.int (0 : Int32))) h0) := by
  refine OMeets.of pn_mm3_27 #[.val (.ref b0), .val (.ref b1), .unset] (fun m => by first | rfl | (simp [entryFrame, mkF, argsToLocals, Value.category, maxLocals]; done)) ?_
  intro p e s m below meth c s₁ B X0 e0
  have F0 := OwnF.ext O0.2 FZ
  obtain ⟨S_NODE, E_NODE, S_RELATIONSHIP, E_RELATIONSHIP, F_NODE_ordinal, F_RELATIONSHIP_ordinal, T_cache⟩ := id F0
  refine s_aloadN B X0 (pc' := 1) d3_0 rfl rfl rfl ?_
  refine s_instY B X0 (pc' := 4) e0 (tw23 hw) (Ins.self E_b1) d3_1 rfl (fun T1 X1 e1 => ?_)
  refine s_ifN B X1 (pc' := 7) d3_4 (by decide) rfl ?_
  refine s_aloadN B X1 (pc' := 8) d3_7 rfl rfl rfl ?_
  refine s_castY B X1 (pc' := 11) e1 (tw23 hw) (Ins.self E_b1) d3_8 rfl (fun T2 X2 e2 => ?_)
  refine s_astoreN B X2 (pc' := 12) (Ls' := #[.val (.ref b0), .val (.ref b1), .val (.ref b1)]) d3_11 rfl rfl rfl ?_
  refine s_aloadN B X2 (pc' := 13) d3_12 rfl rfl rfl ?_
  refine s_getF B X2 (pc' := 16) e2 (host := "") (Or.inl (tw12 hw)) Via.refl D_b1_kind d3_13 rfl (fun T3 X3 e3 => ?_)
  refine s_aloadN B X3 (pc' := 17) d3_16 rfl rfl rfl ?_
  refine s_getF B X3 (pc' := 20) e3 (host := "") (Or.inl (tw12 hw)) Via.refl D_b0_kind d3_17 rfl (fun T4 X4 e4 => ?_)
  refine b_acmp_ne B X4 (py := 39) (pn := 23) d3_20 (by decide) (by decide) rfl (fun q => absurd rfl q) (fun _ => ?_)
  refine s_aloadN B X4 (pc' := 24) d3_23 rfl rfl rfl ?_
  refine s_getF B X4 (pc' := 27) e4 (host := "") (Or.inl (tw14 hw)) Via.refl D_b1_id d3_24 rfl (fun T5 X5 e5 => ?_)
  refine s_aloadN B X5 (pc' := 28) d3_27 rfl rfl rfl ?_
  refine s_getF B X5 (pc' := 31) e5 (host := "") (Or.inl (tw14 hw)) Via.refl D_b0_id d3_28 rfl (fun T6 X6 e6 => ?_)
  refine b_lcmp_ne B X6 (py := 39) (pn := 35) d3_31 rfl d3_32 (by decide) (by decide) rfl (fun _ => ?_) (fun q => absurd q (fun q => hk0 q.symm))
  refine s_iconst B X6 (pc' := 40) (v := (0 : Int32)) d3_39 rfl rfl ?_
  exact r_nar B X6 (t := .boolean) (by simp) rfl d3_40 ⟨rfl, rfl, e6⟩ (by decide) (by decide)

theorem pn_mm3_28 : plainName "com/example/isolation/isolation/EntityKey" = true := by first | (simp [plainName, overriddenIn]; done) | decide +kernel
set_option maxRecDepth 65536 in
set_option maxHeartbeats 40000000 in
theorem mm3_28 (l : Launch) (Z : State) (a0 : Array Value) (hw : ∀ d ∈ tables_1, d.before a0 Z = true) (b0 : Addr) (b1 : Addr) (q2 : Int64) (q3 : Int64) (w_NODE w_RELATIONSHIP : Addr) (h0 : Heap) (FZ : OwnF Z Z.heap w_NODE w_RELATIONSHIP) (O0 : Old Z Z.heap.size h0) (ge_b0 : Z.heap.size ≤ b0) (E_b0 : Exa Z h0 b0 "com/example/isolation/isolation/EntityKey") (D_b0_id : Fld Z h0 b0 "com/example/isolation/isolation/EntityKey" "id" "J" (.long q2)) (D_b0_kind : Fld Z h0 b0 "com/example/isolation/isolation/EntityKey" "kind" "Lcom/example/isolation/isolation/EntityKind;" (.ref w_RELATIONSHIP)) (ge_b1 : Z.heap.size ≤ b1) (E_b1 : Exa Z h0 b1 "com/example/isolation/isolation/EntityKey") (D_b1_id : Fld Z h0 b1 "com/example/isolation/isolation/EntityKey" "id" "J" (.long q3)) (D_b1_kind : Fld Z h0 b1 "com/example/isolation/isolation/EntityKey" "kind" "Lcom/example/isolation/isolation/EntityKind;" (.ref w_RELATIONSHIP)) (ne_b0_b1 : b0 ≠ b1) (hk0 : ¬ q3 = q2) :
    OMeets l Z mn0 prog_15_method_3_code 3 (some .boolean) [] ({ frames := 0, cells := 0, slots := 0, locals := 0 } : Room) #[(.ref b0), (.ref b1)] h0 (PureQ (some (.int (0 : Int32))) h0) := by
  refine OMeets.of pn_mm3_28 #[.val (.ref b0), .val (.ref b1), .unset] (fun m => by first | rfl | (simp [entryFrame, mkF, argsToLocals, Value.category, maxLocals]; done)) ?_
  intro p e s m below meth c s₁ B X0 e0
  have F0 := OwnF.ext O0.2 FZ
  obtain ⟨S_NODE, E_NODE, S_RELATIONSHIP, E_RELATIONSHIP, F_NODE_ordinal, F_RELATIONSHIP_ordinal, T_cache⟩ := id F0
  refine s_aloadN B X0 (pc' := 1) d3_0 rfl rfl rfl ?_
  refine s_instY B X0 (pc' := 4) e0 (tw23 hw) (Ins.self E_b1) d3_1 rfl (fun T1 X1 e1 => ?_)
  refine s_ifN B X1 (pc' := 7) d3_4 (by decide) rfl ?_
  refine s_aloadN B X1 (pc' := 8) d3_7 rfl rfl rfl ?_
  refine s_castY B X1 (pc' := 11) e1 (tw23 hw) (Ins.self E_b1) d3_8 rfl (fun T2 X2 e2 => ?_)
  refine s_astoreN B X2 (pc' := 12) (Ls' := #[.val (.ref b0), .val (.ref b1), .val (.ref b1)]) d3_11 rfl rfl rfl ?_
  refine s_aloadN B X2 (pc' := 13) d3_12 rfl rfl rfl ?_
  refine s_getF B X2 (pc' := 16) e2 (host := "") (Or.inl (tw12 hw)) Via.refl D_b1_kind d3_13 rfl (fun T3 X3 e3 => ?_)
  refine s_aloadN B X3 (pc' := 17) d3_16 rfl rfl rfl ?_
  refine s_getF B X3 (pc' := 20) e3 (host := "") (Or.inl (tw12 hw)) Via.refl D_b0_kind d3_17 rfl (fun T4 X4 e4 => ?_)
  refine b_acmp_ne B X4 (py := 39) (pn := 23) d3_20 (by decide) (by decide) rfl (fun q => absurd rfl q) (fun _ => ?_)
  refine s_aloadN B X4 (pc' := 24) d3_23 rfl rfl rfl ?_
  refine s_getF B X4 (pc' := 27) e4 (host := "") (Or.inl (tw14 hw)) Via.refl D_b1_id d3_24 rfl (fun T5 X5 e5 => ?_)
  refine s_aloadN B X5 (pc' := 28) d3_27 rfl rfl rfl ?_
  refine s_getF B X5 (pc' := 31) e5 (host := "") (Or.inl (tw14 hw)) Via.refl D_b0_id d3_28 rfl (fun T6 X6 e6 => ?_)
  refine b_lcmp_ne B X6 (py := 39) (pn := 35) d3_31 rfl d3_32 (by decide) (by decide) rfl (fun _ => ?_) (fun q => absurd q hk0)
  refine s_iconst B X6 (pc' := 40) (v := (0 : Int32)) d3_39 rfl rfl ?_
  exact r_nar B X6 (t := .boolean) (by simp) rfl d3_40 ⟨rfl, rfl, e6⟩ (by decide) (by decide)

theorem pn_rm_law : plainName "com/example/isolation/isolation/EntityKeyEqualsPinLaw" = true := by first | (simp [plainName, overriddenIn]; done) | decide +kernel
set_option maxRecDepth 65536 in
set_option maxHeartbeats 40000000 in
theorem rm_law (l : Launch) (Z : State) (a0 : Array Value) (hw : ∀ d ∈ tables_1, d.before a0 Z = true) (i0 : Int32) (i1 : Int64) (i2 : Int64) (w_NODE w_RELATIONSHIP : Addr) (F0 : OwnF Z Z.heap w_NODE w_RELATIONSHIP) :
    OMeets l Z x code maxLocals ret tables_1 room_1 #[(.int i0), (.long i1), (.long i2)] Z.heap (fun v h L => v = some (.int 1) ∧ Fr Z.heap.size L) := by
  refine OMeets.of pn_rm_law #[.val (.int i0), .val (.long i1), .second, .val (.long i2), .second, .unset, .unset, .unset, .unset, .unset, .unset, .unset, .unset] (fun m => by first | rfl | (simp [entryFrame, mkF, argsToLocals, Value.category, maxLocals]; done)) ?_
  intro p e s m below meth c s₁ B X0 e0
  have F := F0
  obtain ⟨S_NODE, E_NODE, S_RELATIONSHIP, E_RELATIONSHIP, F_NODE_ordinal, F_RELATIONSHIP_ordinal, T_cache⟩ := F
  by_cases hE : i1 = i2
  · refine s_iloadN B X0 (pc' := 1) at_0 rfl rfl ?_
    refine s_iconst B X0 (pc' := 2) (v := (1 : Int32)) at_1 rfl rfl ?_
    refine s_iand B X0 (pc' := 3) (v := (i0 &&& (1 : Int32))) at_2 rfl rfl ?_
    refine b_if_eq B X0 (py := 12) (pn := 6) at_3 (by decide) (by decide) rfl (fun hc3_1 => ?_) (fun hc3_1 => ?_)
    · refine s_getS B X0 (pc' := 15) e0 (tw0 hw) Via.refl S_NODE at_12 rfl (fun T2 X2 e2 => ?_)
      refine s_astore B X2 (pc' := 17) (Ls' := #[.val (.int i0), .val (.long i1), .second, .val (.long i2), .second, .val (.ref w_NODE), .unset, .unset, .unset, .unset, .unset, .unset, .unset]) at_15 rfl rfl rfl ?_
      refine s_iloadN B X2 (pc' := 18) at_17 rfl rfl ?_
      refine s_iconst B X2 (pc' := 19) (v := (2 : Int32)) at_18 rfl rfl ?_
      refine s_iand B X2 (pc' := 20) (v := (i0 &&& (2 : Int32))) at_19 rfl rfl ?_
      refine b_if_eq B X2 (py := 29) (pn := 23) at_20 (by decide) (by decide) rfl (fun hc20_3 => ?_) (fun hc20_3 => ?_)
      · refine s_getS B X2 (pc' := 32) e2 (tw0 hw) Via.refl S_NODE at_29 rfl (fun T4 X4 e4 => ?_)
        refine s_astore B X4 (pc' := 34) (Ls' := #[.val (.int i0), .val (.long i1), .second, .val (.long i2), .second, .val (.ref w_NODE), .val (.ref w_NODE), .unset, .unset, .unset, .unset, .unset, .unset]) at_32 rfl rfl rfl ?_
        refine s_iloadN B X4 (pc' := 35) at_34 rfl rfl ?_
        refine s_iconst B X4 (pc' := 36) (v := (4 : Int32)) at_35 rfl rfl ?_
        refine s_iand B X4 (pc' := 37) (v := (i0 &&& (4 : Int32))) at_36 rfl rfl ?_
        refine b_if_eq B X4 (py := 44) (pn := 40) at_37 (by decide) (by decide) rfl (fun hc37_5 => ?_) (fun hc37_5 => ?_)
        · refine s_lloadN B X4 (pc' := 45) at_44 rfl rfl ?_
          refine s_lstore B X4 (pc' := 47) (Ls' := #[.val (.int i0), .val (.long i1), .second, .val (.long i2), .second, .val (.ref w_NODE), .val (.ref w_NODE), .val (.long i2), .second, .unset, .unset, .unset, .unset]) at_45 rfl rfl ?_
          refine s_iloadN B X4 (pc' := 48) at_47 rfl rfl ?_
          refine s_iconst B X4 (pc' := 49) (v := (3 : Int32)) at_48 rfl rfl ?_
          refine s_iushr B X4 (pc' := 50) (v := ((i0.toUInt32 >>> ((3 : Int32) &&& 31).toUInt32).toInt32)) at_49 rfl rfl ?_
          refine s_iconst B X4 (pc' := 51) (v := (3 : Int32)) at_50 rfl rfl ?_
          refine s_iand B X4 (pc' := 52) (v := (((i0.toUInt32 >>> ((3 : Int32) &&& 31).toUInt32).toInt32) &&& (3 : Int32))) at_51 rfl rfl ?_
          refine s_istore B X4 (pc' := 54) (Ls' := #[.val (.int i0), .val (.long i1), .second, .val (.long i2), .second, .val (.ref w_NODE), .val (.ref w_NODE), .val (.long i2), .second, .val (.int (((i0.toUInt32 >>> ((3 : Int32) &&& 31).toUInt32).toInt32) &&& (3 : Int32))), .unset, .unset, .unset]) at_52 rfl rfl ?_
          refine s_new B X4 (pc' := 57) (n0 := 2) e4 (tw3 hw) (tw4 hw) (tw5 hw) (by decide) (by decide) at_54 rfl (fun T6 h6 o6 g6 X6 e6 E6 A6 D6 => ?_)
          have ge_o6 : Z.heap.size ≤ o6 := g6 ▸ old_le (Old.start Z)
          have O6 := ((Old.start Z)).ext E6
          have F6 := OwnF.ext O6.2 F0
          have D6_kind : Fld Z h6 o6 "com/example/isolation/isolation/EntityKey" "kind" "Lcom/example/isolation/isolation/EntityKind;" .null := D6 (Or.inr (tw13 hw)) (ty := (.object "com/example/isolation/isolation/EntityKind")) (by decide)
          have D6_id : Fld Z h6 o6 "com/example/isolation/isolation/EntityKey" "id" "J" (.long (0 : Int64)) := D6 (Or.inr (tw15 hw)) (ty := .long) (by decide)
          show Go p e below _ (T6.setTop (mkF m 57 #[.val (.int i0), .val (.long i1), .second, .val (.long i2), .second, .val (.ref w_NODE), .val (.ref w_NODE), .val (.long i2), .second, .val (.int (((i0.toUInt32 >>> ((3 : Int32) &&& 31).toUInt32).toInt32) &&& (3 : Int32))), .unset, .unset, .unset] [(.ref o6)]))
          refine s_dup B X6 (pc' := 58) at_57 rfl rfl ?_
          refine s_aload B X6 (pc' := 60) at_58 rfl rfl rfl ?_
          refine s_lloadN B X6 (pc' := 61) at_60 rfl rfl ?_
          refine c_init B X6 (y := mn4) (pc' := 64) (argsL := [(.ref w_NODE), (.long i1)]) (under := [(.ref o6)]) (W := 1) e6 rfl (tw6 hw) (tw7 hw) (tw8 hw) (tw5 hw) (by decide) (mm1_3 l Z a0 hw o6 i1 w_NODE w_RELATIONSHIP h6 F0 O6 ge_o6 A6 D6_id D6_kind ) (lenOf pd_2 rfl) rfl rfl (by decide) (by decide) (by decide) (by decide) rfl at_61 rfl (fun v7 T7 L7 X7 hQ7 => ?_)
          obtain ⟨rfl, Nq7, Kq7, u7_0, u7_1⟩ := hQ7
          obtain ⟨h7, e7⟩ : ∃ z, T7.heap = z := ⟨_, rfl⟩
          rw [e7] at Kq7 u7_0 u7_1
          have N7 := Fr.app (Fr.nil _) Nq7
          have O7 := (O6).keep Kq7 (allS ge_o6 all0)
          have F7 := OwnF.ext O7.2 F0
          show Go p e below _ (T7.setTop (mkF m 64 #[.val (.int i0), .val (.long i1), .second, .val (.long i2), .second, .val (.ref w_NODE), .val (.ref w_NODE), .val (.long i2), .second, .val (.int (((i0.toUInt32 >>> ((3 : Int32) &&& 31).toUInt32).toInt32) &&& (3 : Int32))), .unset, .unset, .unset] [(.ref o6)]))
          refine s_astore B X7 (pc' := 66) (Ls' := #[.val (.int i0), .val (.long i1), .second, .val (.long i2), .second, .val (.ref w_NODE), .val (.ref w_NODE), .val (.long i2), .second, .val (.int (((i0.toUInt32 >>> ((3 : Int32) &&& 31).toUInt32).toInt32) &&& (3 : Int32))), .val (.ref o6), .unset, .unset]) at_64 rfl rfl rfl ?_
          refine s_iload B X7 (pc' := 68) at_66 rfl rfl ?_
          refine b_if_ne B X7 (py := 86) (pn := 71) at_68 (by decide) (by decide) rfl (fun hc68_8 => ?_) (fun hc68_8 => ?_)
          · refine s_iload B X7 (pc' := 88) at_86 rfl rfl ?_
            refine s_iconst B X7 (pc' := 89) (v := (1 : Int32)) at_88 rfl rfl ?_
            refine b_icmp_ne B X7 (py := 114) (pn := 92) at_89 (by decide) (by decide) rfl (fun hc89_9 => ?_) (fun hc89_9 => ?_)
            · refine s_iload B X7 (pc' := 116) at_114 rfl rfl ?_
              refine s_iconst B X7 (pc' := 117) (v := (2 : Int32)) at_116 rfl rfl ?_
              refine b_icmp_ne B X7 (py := 128) (pn := 120) at_117 (by decide) (by decide) rfl (fun hc117_10 => ?_) (fun hc117_10 => ?_)
              · refine s_new B X7 (pc' := 131) (n0 := 2) e7 (tw3 hw) (tw4 hw) (tw5 hw) (by decide) (by decide) at_128 rfl (fun T11 h11 o11 g11 X11 e11 E11 A11 D11 => ?_)
                have f12 := (A6.keep Kq7)
                have ne_o6_o11 : o6 ≠ o11 := Nat.ne_of_lt (g11 ▸ f12.lt)
                have ge_o11 : Z.heap.size ≤ o11 := g11 ▸ old_le O7
                have O11 := (O7).ext E11
                have F11 := OwnF.ext O11.2 F0
                have D11_kind : Fld Z h11 o11 "com/example/isolation/isolation/EntityKey" "kind" "Lcom/example/isolation/isolation/EntityKind;" .null := D11 (Or.inr (tw13 hw)) (ty := (.object "com/example/isolation/isolation/EntityKind")) (by decide)
                have D11_id : Fld Z h11 o11 "com/example/isolation/isolation/EntityKey" "id" "J" (.long (0 : Int64)) := D11 (Or.inr (tw15 hw)) (ty := .long) (by decide)
                show Go p e below _ (T11.setTop (mkF m 131 #[.val (.int i0), .val (.long i1), .second, .val (.long i2), .second, .val (.ref w_NODE), .val (.ref w_NODE), .val (.long i2), .second, .val (.int (((i0.toUInt32 >>> ((3 : Int32) &&& 31).toUInt32).toInt32) &&& (3 : Int32))), .val (.ref o6), .unset, .unset] [(.ref o11)]))
                refine s_dup B X11 (pc' := 132) at_131 rfl rfl ?_
                refine s_aload B X11 (pc' := 134) at_132 rfl rfl rfl ?_
                refine s_lload B X11 (pc' := 136) at_134 rfl rfl ?_
                refine c_init B X11 (y := mn4) (pc' := 139) (argsL := [(.ref w_NODE), (.long i2)]) (under := [(.ref o11)]) (W := 1) e11 rfl (tw6 hw) (tw7 hw) (tw8 hw) (tw5 hw) (by decide) (mm1_3 l Z a0 hw o11 i2 w_NODE w_RELATIONSHIP h11 F0 O11 ge_o11 A11 D11_id D11_kind ) (lenOf pd_2 rfl) rfl rfl (by decide) (by decide) (by decide) (by decide) rfl at_136 rfl (fun v13 T13 L13 X13 hQ13 => ?_)
                obtain ⟨rfl, Nq13, Kq13, u13_0, u13_1⟩ := hQ13
                obtain ⟨h13, e13⟩ : ∃ z, T13.heap = z := ⟨_, rfl⟩
                rw [e13] at Kq13 u13_0 u13_1
                have N13 := Fr.app N7 Nq13
                have O13 := (O11).keep Kq13 (allS ge_o11 all0)
                have F13 := OwnF.ext O13.2 F0
                show Go p e below _ (T13.setTop (mkF m 139 #[.val (.int i0), .val (.long i1), .second, .val (.long i2), .second, .val (.ref w_NODE), .val (.ref w_NODE), .val (.long i2), .second, .val (.int (((i0.toUInt32 >>> ((3 : Int32) &&& 31).toUInt32).toInt32) &&& (3 : Int32))), .val (.ref o6), .unset, .unset] [(.ref o11)]))
                refine s_astore B X13 (pc' := 141) (Ls' := #[.val (.int i0), .val (.long i1), .second, .val (.long i2), .second, .val (.ref w_NODE), .val (.ref w_NODE), .val (.long i2), .second, .val (.int (((i0.toUInt32 >>> ((3 : Int32) &&& 31).toUInt32).toInt32) &&& (3 : Int32))), .val (.ref o6), .val (.ref o11), .unset]) at_139 rfl rfl rfl ?_
                refine s_aload B X13 (pc' := 143) at_141 rfl rfl rfl ?_
                refine s_aload B X13 (pc' := 145) at_143 rfl rfl rfl ?_
                refine b_acmp_ne B X13 (py := 159) (pn := 148) at_145 (by decide) (by decide) rfl (fun q => absurd rfl q) (fun _ => ?_)
                refine s_lloadN B X13 (pc' := 149) at_148 rfl rfl ?_
                refine s_lload B X13 (pc' := 151) at_149 rfl rfl ?_
                refine b_lcmp_ne B X13 (py := 159) (pn := 155) at_151 rfl at_152 (by decide) (by decide) rfl (fun q => absurd hE q) (fun _ => ?_)
                refine s_iconst B X13 (pc' := 156) (v := (1 : Int32)) at_155 rfl rfl ?_
                refine s_goto B X13 (pc' := 160) at_156 (by decide) (by decide) ?_
                refine s_istore B X13 (pc' := 162) (Ls' := #[.val (.int i0), .val (.long i1), .second, .val (.long i2), .second, .val (.ref w_NODE), .val (.ref w_NODE), .val (.long i2), .second, .val (.int (((i0.toUInt32 >>> ((3 : Int32) &&& 31).toUInt32).toInt32) &&& (3 : Int32))), .val (.ref o6), .val (.ref o11), .val (.int (1 : Int32))]) at_160 rfl rfl ?_
                refine s_aload B X13 (pc' := 164) at_162 rfl rfl rfl ?_
                refine s_aload B X13 (pc' := 166) at_164 rfl rfl rfl ?_
                have f14 := ((f12.ext E11).keep Kq13)
                have f15 := ((u7_0.ext E11).keep Kq13 (ninS ne_o6_o11 nin0))
                have f16 := ((u7_1.ext E11).keep Kq13 (ninS ne_o6_o11 nin0))
                have f17 := (A11.keep Kq13)
                refine p_virtual B X13 (y := mn0) (pc' := 169) (argsL := [(.ref o11)]) (under := []) (W := 0) e13 (tw16 hw) (tw17 hw) (tw19 hw) (tw18 hw) (tw20 hw) (tw5 hw) (by decide) (mm3_4 l Z a0 hw o6 o11 i1 i2 w_NODE w_RELATIONSHIP h13 F0 O13 ge_o6 f14 f15 f16 ge_o11 f17 u13_0 u13_1 ne_o6_o11 hE) f14 (lenOf pd_3 rfl) rfl rfl (by decide) (by decide) rfl rfl (by decide) (by decide) rfl at_166 rfl (fun T18 X18 e18 => ?_)
                show Go p e below _ (T18.setTop (mkF m 169 #[.val (.int i0), .val (.long i1), .second, .val (.long i2), .second, .val (.ref w_NODE), .val (.ref w_NODE), .val (.long i2), .second, .val (.int (((i0.toUInt32 >>> ((3 : Int32) &&& 31).toUInt32).toInt32) &&& (3 : Int32))), .val (.ref o6), .val (.ref o11), .val (.int (1 : Int32))] [(.int (1 : Int32))]))
                refine s_iload B X18 (pc' := 171) at_169 rfl rfl ?_
                refine s_icmpN B X18 (pc' := 174) at_171 (by decide) rfl ?_
                refine s_aload B X18 (pc' := 176) at_174 rfl rfl rfl ?_
                refine s_aload B X18 (pc' := 178) at_176 rfl rfl rfl ?_
                refine p_virtual B X18 (y := mn0) (pc' := 181) (argsL := [(.ref o6)]) (under := []) (W := 0) e18 (tw16 hw) (tw17 hw) (tw19 hw) (tw18 hw) (tw20 hw) (tw5 hw) (by decide) (mm3_5 l Z a0 hw o11 o6 i2 i1 w_NODE w_RELATIONSHIP h13 F0 O13 ge_o11 f17 u13_0 u13_1 ge_o6 f14 f15 f16 (Ne.symm ne_o6_o11) hE) f17 (lenOf pd_3 rfl) rfl rfl (by decide) (by decide) rfl rfl (by decide) (by decide) rfl at_178 rfl (fun T19 X19 e19 => ?_)
                show Go p e below _ (T19.setTop (mkF m 181 #[.val (.int i0), .val (.long i1), .second, .val (.long i2), .second, .val (.ref w_NODE), .val (.ref w_NODE), .val (.long i2), .second, .val (.int (((i0.toUInt32 >>> ((3 : Int32) &&& 31).toUInt32).toInt32) &&& (3 : Int32))), .val (.ref o6), .val (.ref o11), .val (.int (1 : Int32))] [(.int (1 : Int32))]))
                refine s_iload B X19 (pc' := 183) at_181 rfl rfl ?_
                refine s_icmpN B X19 (pc' := 186) at_183 (by decide) rfl ?_
                refine s_iconst B X19 (pc' := 187) (v := (1 : Int32)) at_186 rfl rfl ?_
                refine s_goto B X19 (pc' := 191) at_187 (by decide) (by decide) ?_
                exact r_nar B X19 (t := .boolean) (by simp) rfl at_191 ⟨rfl, N13⟩ (by decide) (by decide)
              · refine s_aload B X7 (pc' := 122) at_120 rfl rfl rfl ?_
                refine s_aload B X7 (pc' := 124) at_122 rfl rfl rfl ?_
                have f20 := (A6.keep Kq7)
                refine p_virtual B X7 (y := mn0) (pc' := 127) (argsL := [(.ref o6)]) (under := []) (W := 0) e7 (tw16 hw) (tw17 hw) (tw19 hw) (tw18 hw) (tw20 hw) (tw5 hw) (by decide) (mm3_6 l Z a0 hw o6 i1 w_NODE w_RELATIONSHIP h7 F0 O7 ge_o6 f20 u7_0 u7_1 ) f20 (lenOf pd_3 rfl) rfl rfl (by decide) (by decide) rfl rfl (by decide) (by decide) rfl at_124 rfl (fun T21 X21 e21 => ?_)
                show Go p e below _ (T21.setTop (mkF m 127 #[.val (.int i0), .val (.long i1), .second, .val (.long i2), .second, .val (.ref w_NODE), .val (.ref w_NODE), .val (.long i2), .second, .val (.int (((i0.toUInt32 >>> ((3 : Int32) &&& 31).toUInt32).toInt32) &&& (3 : Int32))), .val (.ref o6), .unset, .unset] [(.int (1 : Int32))]))
                exact r_nar B X21 (t := .boolean) (by simp) rfl at_127 ⟨rfl, N7⟩ (by decide) (by decide)
            · refine s_lloadN B X7 (pc' := 93) at_92 rfl rfl ?_
              refine c_static B X7 (y := mn3) (pc' := 96) (argsL := [(.long i1)]) (under := []) (W := 0) e7 (tw25 hw) (tw26 hw) (tw28 hw) (tw27 hw) (by decide) (rm_valueOf l Z a0 hw i1 w_NODE w_RELATIONSHIP h7 F0 O7) (lenOf pd_4 rfl) rfl rfl (by decide) (by decide) (by decide) (by decide) rfl at_93 rfl (fun v22 T22 L22 X22 hQ => ?_)
              obtain ⟨qL, rfl, Nq, Kq, EL⟩ := hQ
              obtain ⟨h22, e22⟩ : ∃ z, T22.heap = z := ⟨_, rfl⟩
              rw [e22] at Kq EL
              have N22 := Fr.app N7 Nq
              have O22 := (O7).keep Kq all0
              have F22 := OwnF.ext O22.2 F0
              show Go p e below _ (T22.setTop (mkF m 96 #[.val (.int i0), .val (.long i1), .second, .val (.long i2), .second, .val (.ref w_NODE), .val (.ref w_NODE), .val (.long i2), .second, .val (.int (((i0.toUInt32 >>> ((3 : Int32) &&& 31).toUInt32).toInt32) &&& (3 : Int32))), .val (.ref o6), .unset, .unset] [(.ref qL)]))
              refine s_astore B X22 (pc' := 98) (Ls' := #[.val (.int i0), .val (.long i1), .second, .val (.long i2), .second, .val (.ref w_NODE), .val (.ref w_NODE), .val (.long i2), .second, .val (.int (((i0.toUInt32 >>> ((3 : Int32) &&& 31).toUInt32).toInt32) &&& (3 : Int32))), .val (.ref o6), .val (.ref qL), .unset]) at_96 rfl rfl rfl ?_
              refine s_aload B X22 (pc' := 100) at_98 rfl rfl rfl ?_
              refine s_aload B X22 (pc' := 102) at_100 rfl rfl rfl ?_
              have f24 := ((A6.keep Kq7).keep Kq)
              refine p_virtual B X22 (y := mn0) (pc' := 105) (argsL := [(.ref qL)]) (under := []) (W := 0) e22 (tw16 hw) (tw17 hw) (tw19 hw) (tw18 hw) (tw20 hw) (tw5 hw) (by decide) (rm_eqL l Z a0 hw o6 qL h22 EL) f24 (lenOf pd_3 rfl) rfl rfl (by decide) (by decide) rfl rfl (by decide) (by decide) rfl at_102 rfl (fun T23 X23 e23 => ?_)
              show Go p e below _ (T23.setTop (mkF m 105 #[.val (.int i0), .val (.long i1), .second, .val (.long i2), .second, .val (.ref w_NODE), .val (.ref w_NODE), .val (.long i2), .second, .val (.int (((i0.toUInt32 >>> ((3 : Int32) &&& 31).toUInt32).toInt32) &&& (3 : Int32))), .val (.ref o6), .val (.ref qL), .unset] [(.int (0 : Int32))]))
              refine s_ifN B X23 (pc' := 108) at_105 (by decide) rfl ?_
              refine s_iconst B X23 (pc' := 109) (v := (1 : Int32)) at_108 rfl rfl ?_
              refine s_goto B X23 (pc' := 113) at_109 (by decide) (by decide) ?_
              exact r_nar B X23 (t := .boolean) (by simp) rfl at_113 ⟨rfl, N22⟩ (by decide) (by decide)
          · refine s_aload B X7 (pc' := 73) at_71 rfl rfl rfl ?_
            refine s_aconst_null B X7 (pc' := 74) at_73 rfl ?_
            have f25 := (A6.keep Kq7)
            refine p_virtual B X7 (y := mn0) (pc' := 77) (argsL := [.null]) (under := []) (W := 0) e7 (tw16 hw) (tw17 hw) (tw19 hw) (tw18 hw) (tw20 hw) (tw5 hw) (by decide) (mm3_7 l Z a0 hw o6 i1 w_NODE w_RELATIONSHIP h7 F0 O7 ge_o6 f25 u7_0 u7_1 ) f25 (lenOf pd_3 rfl) rfl rfl (by decide) (by decide) rfl rfl (by decide) (by decide) rfl at_74 rfl (fun T26 X26 e26 => ?_)
            show Go p e below _ (T26.setTop (mkF m 77 #[.val (.int i0), .val (.long i1), .second, .val (.long i2), .second, .val (.ref w_NODE), .val (.ref w_NODE), .val (.long i2), .second, .val (.int (((i0.toUInt32 >>> ((3 : Int32) &&& 31).toUInt32).toInt32) &&& (3 : Int32))), .val (.ref o6), .unset, .unset] [(.int (0 : Int32))]))
            refine s_ifN B X26 (pc' := 80) at_77 (by decide) rfl ?_
            refine s_iconst B X26 (pc' := 81) (v := (1 : Int32)) at_80 rfl rfl ?_
            refine s_goto B X26 (pc' := 85) at_81 (by decide) (by decide) ?_
            exact r_nar B X26 (t := .boolean) (by simp) rfl at_85 ⟨rfl, N7⟩ (by decide) (by decide)
        · refine s_lloadN B X4 (pc' := 41) at_40 rfl rfl ?_
          refine s_goto B X4 (pc' := 45) at_41 (by decide) (by decide) ?_
          refine s_lstore B X4 (pc' := 47) (Ls' := #[.val (.int i0), .val (.long i1), .second, .val (.long i2), .second, .val (.ref w_NODE), .val (.ref w_NODE), .val (.long i1), .second, .unset, .unset, .unset, .unset]) at_45 rfl rfl ?_
          refine s_iloadN B X4 (pc' := 48) at_47 rfl rfl ?_
          refine s_iconst B X4 (pc' := 49) (v := (3 : Int32)) at_48 rfl rfl ?_
          refine s_iushr B X4 (pc' := 50) (v := ((i0.toUInt32 >>> ((3 : Int32) &&& 31).toUInt32).toInt32)) at_49 rfl rfl ?_
          refine s_iconst B X4 (pc' := 51) (v := (3 : Int32)) at_50 rfl rfl ?_
          refine s_iand B X4 (pc' := 52) (v := (((i0.toUInt32 >>> ((3 : Int32) &&& 31).toUInt32).toInt32) &&& (3 : Int32))) at_51 rfl rfl ?_
          refine s_istore B X4 (pc' := 54) (Ls' := #[.val (.int i0), .val (.long i1), .second, .val (.long i2), .second, .val (.ref w_NODE), .val (.ref w_NODE), .val (.long i1), .second, .val (.int (((i0.toUInt32 >>> ((3 : Int32) &&& 31).toUInt32).toInt32) &&& (3 : Int32))), .unset, .unset, .unset]) at_52 rfl rfl ?_
          refine s_new B X4 (pc' := 57) (n0 := 2) e4 (tw3 hw) (tw4 hw) (tw5 hw) (by decide) (by decide) at_54 rfl (fun T27 h27 o27 g27 X27 e27 E27 A27 D27 => ?_)
          have ge_o27 : Z.heap.size ≤ o27 := g27 ▸ old_le (Old.start Z)
          have O27 := ((Old.start Z)).ext E27
          have F27 := OwnF.ext O27.2 F0
          have D27_kind : Fld Z h27 o27 "com/example/isolation/isolation/EntityKey" "kind" "Lcom/example/isolation/isolation/EntityKind;" .null := D27 (Or.inr (tw13 hw)) (ty := (.object "com/example/isolation/isolation/EntityKind")) (by decide)
          have D27_id : Fld Z h27 o27 "com/example/isolation/isolation/EntityKey" "id" "J" (.long (0 : Int64)) := D27 (Or.inr (tw15 hw)) (ty := .long) (by decide)
          show Go p e below _ (T27.setTop (mkF m 57 #[.val (.int i0), .val (.long i1), .second, .val (.long i2), .second, .val (.ref w_NODE), .val (.ref w_NODE), .val (.long i1), .second, .val (.int (((i0.toUInt32 >>> ((3 : Int32) &&& 31).toUInt32).toInt32) &&& (3 : Int32))), .unset, .unset, .unset] [(.ref o27)]))
          refine s_dup B X27 (pc' := 58) at_57 rfl rfl ?_
          refine s_aload B X27 (pc' := 60) at_58 rfl rfl rfl ?_
          refine s_lloadN B X27 (pc' := 61) at_60 rfl rfl ?_
          refine c_init B X27 (y := mn4) (pc' := 64) (argsL := [(.ref w_NODE), (.long i1)]) (under := [(.ref o27)]) (W := 1) e27 rfl (tw6 hw) (tw7 hw) (tw8 hw) (tw5 hw) (by decide) (mm1_3 l Z a0 hw o27 i1 w_NODE w_RELATIONSHIP h27 F0 O27 ge_o27 A27 D27_id D27_kind ) (lenOf pd_2 rfl) rfl rfl (by decide) (by decide) (by decide) (by decide) rfl at_61 rfl (fun v28 T28 L28 X28 hQ28 => ?_)
          obtain ⟨rfl, Nq28, Kq28, u28_0, u28_1⟩ := hQ28
          obtain ⟨h28, e28⟩ : ∃ z, T28.heap = z := ⟨_, rfl⟩
          rw [e28] at Kq28 u28_0 u28_1
          have N28 := Fr.app (Fr.nil _) Nq28
          have O28 := (O27).keep Kq28 (allS ge_o27 all0)
          have F28 := OwnF.ext O28.2 F0
          show Go p e below _ (T28.setTop (mkF m 64 #[.val (.int i0), .val (.long i1), .second, .val (.long i2), .second, .val (.ref w_NODE), .val (.ref w_NODE), .val (.long i1), .second, .val (.int (((i0.toUInt32 >>> ((3 : Int32) &&& 31).toUInt32).toInt32) &&& (3 : Int32))), .unset, .unset, .unset] [(.ref o27)]))
          refine s_astore B X28 (pc' := 66) (Ls' := #[.val (.int i0), .val (.long i1), .second, .val (.long i2), .second, .val (.ref w_NODE), .val (.ref w_NODE), .val (.long i1), .second, .val (.int (((i0.toUInt32 >>> ((3 : Int32) &&& 31).toUInt32).toInt32) &&& (3 : Int32))), .val (.ref o27), .unset, .unset]) at_64 rfl rfl rfl ?_
          refine s_iload B X28 (pc' := 68) at_66 rfl rfl ?_
          refine b_if_ne B X28 (py := 86) (pn := 71) at_68 (by decide) (by decide) rfl (fun hc68_29 => ?_) (fun hc68_29 => ?_)
          · refine s_iload B X28 (pc' := 88) at_86 rfl rfl ?_
            refine s_iconst B X28 (pc' := 89) (v := (1 : Int32)) at_88 rfl rfl ?_
            refine b_icmp_ne B X28 (py := 114) (pn := 92) at_89 (by decide) (by decide) rfl (fun hc89_30 => ?_) (fun hc89_30 => ?_)
            · refine s_iload B X28 (pc' := 116) at_114 rfl rfl ?_
              refine s_iconst B X28 (pc' := 117) (v := (2 : Int32)) at_116 rfl rfl ?_
              refine b_icmp_ne B X28 (py := 128) (pn := 120) at_117 (by decide) (by decide) rfl (fun hc117_31 => ?_) (fun hc117_31 => ?_)
              · refine s_new B X28 (pc' := 131) (n0 := 2) e28 (tw3 hw) (tw4 hw) (tw5 hw) (by decide) (by decide) at_128 rfl (fun T32 h32 o32 g32 X32 e32 E32 A32 D32 => ?_)
                have f33 := (A27.keep Kq28)
                have ne_o27_o32 : o27 ≠ o32 := Nat.ne_of_lt (g32 ▸ f33.lt)
                have ge_o32 : Z.heap.size ≤ o32 := g32 ▸ old_le O28
                have O32 := (O28).ext E32
                have F32 := OwnF.ext O32.2 F0
                have D32_kind : Fld Z h32 o32 "com/example/isolation/isolation/EntityKey" "kind" "Lcom/example/isolation/isolation/EntityKind;" .null := D32 (Or.inr (tw13 hw)) (ty := (.object "com/example/isolation/isolation/EntityKind")) (by decide)
                have D32_id : Fld Z h32 o32 "com/example/isolation/isolation/EntityKey" "id" "J" (.long (0 : Int64)) := D32 (Or.inr (tw15 hw)) (ty := .long) (by decide)
                show Go p e below _ (T32.setTop (mkF m 131 #[.val (.int i0), .val (.long i1), .second, .val (.long i2), .second, .val (.ref w_NODE), .val (.ref w_NODE), .val (.long i1), .second, .val (.int (((i0.toUInt32 >>> ((3 : Int32) &&& 31).toUInt32).toInt32) &&& (3 : Int32))), .val (.ref o27), .unset, .unset] [(.ref o32)]))
                refine s_dup B X32 (pc' := 132) at_131 rfl rfl ?_
                refine s_aload B X32 (pc' := 134) at_132 rfl rfl rfl ?_
                refine s_lload B X32 (pc' := 136) at_134 rfl rfl ?_
                refine c_init B X32 (y := mn4) (pc' := 139) (argsL := [(.ref w_NODE), (.long i1)]) (under := [(.ref o32)]) (W := 1) e32 rfl (tw6 hw) (tw7 hw) (tw8 hw) (tw5 hw) (by decide) (mm1_3 l Z a0 hw o32 i1 w_NODE w_RELATIONSHIP h32 F0 O32 ge_o32 A32 D32_id D32_kind ) (lenOf pd_2 rfl) rfl rfl (by decide) (by decide) (by decide) (by decide) rfl at_136 rfl (fun v34 T34 L34 X34 hQ34 => ?_)
                obtain ⟨rfl, Nq34, Kq34, u34_0, u34_1⟩ := hQ34
                obtain ⟨h34, e34⟩ : ∃ z, T34.heap = z := ⟨_, rfl⟩
                rw [e34] at Kq34 u34_0 u34_1
                have N34 := Fr.app N28 Nq34
                have O34 := (O32).keep Kq34 (allS ge_o32 all0)
                have F34 := OwnF.ext O34.2 F0
                show Go p e below _ (T34.setTop (mkF m 139 #[.val (.int i0), .val (.long i1), .second, .val (.long i2), .second, .val (.ref w_NODE), .val (.ref w_NODE), .val (.long i1), .second, .val (.int (((i0.toUInt32 >>> ((3 : Int32) &&& 31).toUInt32).toInt32) &&& (3 : Int32))), .val (.ref o27), .unset, .unset] [(.ref o32)]))
                refine s_astore B X34 (pc' := 141) (Ls' := #[.val (.int i0), .val (.long i1), .second, .val (.long i2), .second, .val (.ref w_NODE), .val (.ref w_NODE), .val (.long i1), .second, .val (.int (((i0.toUInt32 >>> ((3 : Int32) &&& 31).toUInt32).toInt32) &&& (3 : Int32))), .val (.ref o27), .val (.ref o32), .unset]) at_139 rfl rfl rfl ?_
                refine s_aload B X34 (pc' := 143) at_141 rfl rfl rfl ?_
                refine s_aload B X34 (pc' := 145) at_143 rfl rfl rfl ?_
                refine b_acmp_ne B X34 (py := 159) (pn := 148) at_145 (by decide) (by decide) rfl (fun q => absurd rfl q) (fun _ => ?_)
                refine s_lloadN B X34 (pc' := 149) at_148 rfl rfl ?_
                refine s_lload B X34 (pc' := 151) at_149 rfl rfl ?_
                refine b_lcmp_ne B X34 (py := 159) (pn := 155) at_151 rfl at_152 (by decide) (by decide) rfl (fun q => absurd rfl q) (fun _ => ?_)
                refine s_iconst B X34 (pc' := 156) (v := (1 : Int32)) at_155 rfl rfl ?_
                refine s_goto B X34 (pc' := 160) at_156 (by decide) (by decide) ?_
                refine s_istore B X34 (pc' := 162) (Ls' := #[.val (.int i0), .val (.long i1), .second, .val (.long i2), .second, .val (.ref w_NODE), .val (.ref w_NODE), .val (.long i1), .second, .val (.int (((i0.toUInt32 >>> ((3 : Int32) &&& 31).toUInt32).toInt32) &&& (3 : Int32))), .val (.ref o27), .val (.ref o32), .val (.int (1 : Int32))]) at_160 rfl rfl ?_
                refine s_aload B X34 (pc' := 164) at_162 rfl rfl rfl ?_
                refine s_aload B X34 (pc' := 166) at_164 rfl rfl rfl ?_
                have f35 := ((f33.ext E32).keep Kq34)
                have f36 := ((u28_0.ext E32).keep Kq34 (ninS ne_o27_o32 nin0))
                have f37 := ((u28_1.ext E32).keep Kq34 (ninS ne_o27_o32 nin0))
                have f38 := (A32.keep Kq34)
                refine p_virtual B X34 (y := mn0) (pc' := 169) (argsL := [(.ref o32)]) (under := []) (W := 0) e34 (tw16 hw) (tw17 hw) (tw19 hw) (tw18 hw) (tw20 hw) (tw5 hw) (by decide) (mm3_8 l Z a0 hw o27 o32 i1 w_NODE w_RELATIONSHIP h34 F0 O34 ge_o27 f35 f36 f37 ge_o32 f38 u34_0 u34_1 ne_o27_o32 ) f35 (lenOf pd_3 rfl) rfl rfl (by decide) (by decide) rfl rfl (by decide) (by decide) rfl at_166 rfl (fun T39 X39 e39 => ?_)
                show Go p e below _ (T39.setTop (mkF m 169 #[.val (.int i0), .val (.long i1), .second, .val (.long i2), .second, .val (.ref w_NODE), .val (.ref w_NODE), .val (.long i1), .second, .val (.int (((i0.toUInt32 >>> ((3 : Int32) &&& 31).toUInt32).toInt32) &&& (3 : Int32))), .val (.ref o27), .val (.ref o32), .val (.int (1 : Int32))] [(.int (1 : Int32))]))
                refine s_iload B X39 (pc' := 171) at_169 rfl rfl ?_
                refine s_icmpN B X39 (pc' := 174) at_171 (by decide) rfl ?_
                refine s_aload B X39 (pc' := 176) at_174 rfl rfl rfl ?_
                refine s_aload B X39 (pc' := 178) at_176 rfl rfl rfl ?_
                refine p_virtual B X39 (y := mn0) (pc' := 181) (argsL := [(.ref o27)]) (under := []) (W := 0) e39 (tw16 hw) (tw17 hw) (tw19 hw) (tw18 hw) (tw20 hw) (tw5 hw) (by decide) (mm3_8 l Z a0 hw o32 o27 i1 w_NODE w_RELATIONSHIP h34 F0 O34 ge_o32 f38 u34_0 u34_1 ge_o27 f35 f36 f37 (Ne.symm ne_o27_o32) ) f38 (lenOf pd_3 rfl) rfl rfl (by decide) (by decide) rfl rfl (by decide) (by decide) rfl at_178 rfl (fun T40 X40 e40 => ?_)
                show Go p e below _ (T40.setTop (mkF m 181 #[.val (.int i0), .val (.long i1), .second, .val (.long i2), .second, .val (.ref w_NODE), .val (.ref w_NODE), .val (.long i1), .second, .val (.int (((i0.toUInt32 >>> ((3 : Int32) &&& 31).toUInt32).toInt32) &&& (3 : Int32))), .val (.ref o27), .val (.ref o32), .val (.int (1 : Int32))] [(.int (1 : Int32))]))
                refine s_iload B X40 (pc' := 183) at_181 rfl rfl ?_
                refine s_icmpN B X40 (pc' := 186) at_183 (by decide) rfl ?_
                refine s_iconst B X40 (pc' := 187) (v := (1 : Int32)) at_186 rfl rfl ?_
                refine s_goto B X40 (pc' := 191) at_187 (by decide) (by decide) ?_
                exact r_nar B X40 (t := .boolean) (by simp) rfl at_191 ⟨rfl, N34⟩ (by decide) (by decide)
              · refine s_aload B X28 (pc' := 122) at_120 rfl rfl rfl ?_
                refine s_aload B X28 (pc' := 124) at_122 rfl rfl rfl ?_
                have f41 := (A27.keep Kq28)
                refine p_virtual B X28 (y := mn0) (pc' := 127) (argsL := [(.ref o27)]) (under := []) (W := 0) e28 (tw16 hw) (tw17 hw) (tw19 hw) (tw18 hw) (tw20 hw) (tw5 hw) (by decide) (mm3_6 l Z a0 hw o27 i1 w_NODE w_RELATIONSHIP h28 F0 O28 ge_o27 f41 u28_0 u28_1 ) f41 (lenOf pd_3 rfl) rfl rfl (by decide) (by decide) rfl rfl (by decide) (by decide) rfl at_124 rfl (fun T42 X42 e42 => ?_)
                show Go p e below _ (T42.setTop (mkF m 127 #[.val (.int i0), .val (.long i1), .second, .val (.long i2), .second, .val (.ref w_NODE), .val (.ref w_NODE), .val (.long i1), .second, .val (.int (((i0.toUInt32 >>> ((3 : Int32) &&& 31).toUInt32).toInt32) &&& (3 : Int32))), .val (.ref o27), .unset, .unset] [(.int (1 : Int32))]))
                exact r_nar B X42 (t := .boolean) (by simp) rfl at_127 ⟨rfl, N28⟩ (by decide) (by decide)
            · refine s_lloadN B X28 (pc' := 93) at_92 rfl rfl ?_
              refine c_static B X28 (y := mn3) (pc' := 96) (argsL := [(.long i1)]) (under := []) (W := 0) e28 (tw25 hw) (tw26 hw) (tw28 hw) (tw27 hw) (by decide) (rm_valueOf l Z a0 hw i1 w_NODE w_RELATIONSHIP h28 F0 O28) (lenOf pd_4 rfl) rfl rfl (by decide) (by decide) (by decide) (by decide) rfl at_93 rfl (fun v43 T43 L43 X43 hQ => ?_)
              obtain ⟨qL, rfl, Nq, Kq, EL⟩ := hQ
              obtain ⟨h43, e43⟩ : ∃ z, T43.heap = z := ⟨_, rfl⟩
              rw [e43] at Kq EL
              have N43 := Fr.app N28 Nq
              have O43 := (O28).keep Kq all0
              have F43 := OwnF.ext O43.2 F0
              show Go p e below _ (T43.setTop (mkF m 96 #[.val (.int i0), .val (.long i1), .second, .val (.long i2), .second, .val (.ref w_NODE), .val (.ref w_NODE), .val (.long i1), .second, .val (.int (((i0.toUInt32 >>> ((3 : Int32) &&& 31).toUInt32).toInt32) &&& (3 : Int32))), .val (.ref o27), .unset, .unset] [(.ref qL)]))
              refine s_astore B X43 (pc' := 98) (Ls' := #[.val (.int i0), .val (.long i1), .second, .val (.long i2), .second, .val (.ref w_NODE), .val (.ref w_NODE), .val (.long i1), .second, .val (.int (((i0.toUInt32 >>> ((3 : Int32) &&& 31).toUInt32).toInt32) &&& (3 : Int32))), .val (.ref o27), .val (.ref qL), .unset]) at_96 rfl rfl rfl ?_
              refine s_aload B X43 (pc' := 100) at_98 rfl rfl rfl ?_
              refine s_aload B X43 (pc' := 102) at_100 rfl rfl rfl ?_
              have f45 := ((A27.keep Kq28).keep Kq)
              refine p_virtual B X43 (y := mn0) (pc' := 105) (argsL := [(.ref qL)]) (under := []) (W := 0) e43 (tw16 hw) (tw17 hw) (tw19 hw) (tw18 hw) (tw20 hw) (tw5 hw) (by decide) (rm_eqL l Z a0 hw o27 qL h43 EL) f45 (lenOf pd_3 rfl) rfl rfl (by decide) (by decide) rfl rfl (by decide) (by decide) rfl at_102 rfl (fun T44 X44 e44 => ?_)
              show Go p e below _ (T44.setTop (mkF m 105 #[.val (.int i0), .val (.long i1), .second, .val (.long i2), .second, .val (.ref w_NODE), .val (.ref w_NODE), .val (.long i1), .second, .val (.int (((i0.toUInt32 >>> ((3 : Int32) &&& 31).toUInt32).toInt32) &&& (3 : Int32))), .val (.ref o27), .val (.ref qL), .unset] [(.int (0 : Int32))]))
              refine s_ifN B X44 (pc' := 108) at_105 (by decide) rfl ?_
              refine s_iconst B X44 (pc' := 109) (v := (1 : Int32)) at_108 rfl rfl ?_
              refine s_goto B X44 (pc' := 113) at_109 (by decide) (by decide) ?_
              exact r_nar B X44 (t := .boolean) (by simp) rfl at_113 ⟨rfl, N43⟩ (by decide) (by decide)
          · refine s_aload B X28 (pc' := 73) at_71 rfl rfl rfl ?_
            refine s_aconst_null B X28 (pc' := 74) at_73 rfl ?_
            have f46 := (A27.keep Kq28)
            refine p_virtual B X28 (y := mn0) (pc' := 77) (argsL := [.null]) (under := []) (W := 0) e28 (tw16 hw) (tw17 hw) (tw19 hw) (tw18 hw) (tw20 hw) (tw5 hw) (by decide) (mm3_7 l Z a0 hw o27 i1 w_NODE w_RELATIONSHIP h28 F0 O28 ge_o27 f46 u28_0 u28_1 ) f46 (lenOf pd_3 rfl) rfl rfl (by decide) (by decide) rfl rfl (by decide) (by decide) rfl at_74 rfl (fun T47 X47 e47 => ?_)
            show Go p e below _ (T47.setTop (mkF m 77 #[.val (.int i0), .val (.long i1), .second, .val (.long i2), .second, .val (.ref w_NODE), .val (.ref w_NODE), .val (.long i1), .second, .val (.int (((i0.toUInt32 >>> ((3 : Int32) &&& 31).toUInt32).toInt32) &&& (3 : Int32))), .val (.ref o27), .unset, .unset] [(.int (0 : Int32))]))
            refine s_ifN B X47 (pc' := 80) at_77 (by decide) rfl ?_
            refine s_iconst B X47 (pc' := 81) (v := (1 : Int32)) at_80 rfl rfl ?_
            refine s_goto B X47 (pc' := 85) at_81 (by decide) (by decide) ?_
            exact r_nar B X47 (t := .boolean) (by simp) rfl at_85 ⟨rfl, N28⟩ (by decide) (by decide)
      · refine s_getS B X2 (pc' := 26) e2 (tw21 hw) Via.refl S_RELATIONSHIP at_23 rfl (fun T48 X48 e48 => ?_)
        refine s_goto B X48 (pc' := 32) at_26 (by decide) (by decide) ?_
        refine s_astore B X48 (pc' := 34) (Ls' := #[.val (.int i0), .val (.long i1), .second, .val (.long i2), .second, .val (.ref w_NODE), .val (.ref w_RELATIONSHIP), .unset, .unset, .unset, .unset, .unset, .unset]) at_32 rfl rfl rfl ?_
        refine s_iloadN B X48 (pc' := 35) at_34 rfl rfl ?_
        refine s_iconst B X48 (pc' := 36) (v := (4 : Int32)) at_35 rfl rfl ?_
        refine s_iand B X48 (pc' := 37) (v := (i0 &&& (4 : Int32))) at_36 rfl rfl ?_
        refine b_if_eq B X48 (py := 44) (pn := 40) at_37 (by decide) (by decide) rfl (fun hc37_49 => ?_) (fun hc37_49 => ?_)
        · refine s_lloadN B X48 (pc' := 45) at_44 rfl rfl ?_
          refine s_lstore B X48 (pc' := 47) (Ls' := #[.val (.int i0), .val (.long i1), .second, .val (.long i2), .second, .val (.ref w_NODE), .val (.ref w_RELATIONSHIP), .val (.long i2), .second, .unset, .unset, .unset, .unset]) at_45 rfl rfl ?_
          refine s_iloadN B X48 (pc' := 48) at_47 rfl rfl ?_
          refine s_iconst B X48 (pc' := 49) (v := (3 : Int32)) at_48 rfl rfl ?_
          refine s_iushr B X48 (pc' := 50) (v := ((i0.toUInt32 >>> ((3 : Int32) &&& 31).toUInt32).toInt32)) at_49 rfl rfl ?_
          refine s_iconst B X48 (pc' := 51) (v := (3 : Int32)) at_50 rfl rfl ?_
          refine s_iand B X48 (pc' := 52) (v := (((i0.toUInt32 >>> ((3 : Int32) &&& 31).toUInt32).toInt32) &&& (3 : Int32))) at_51 rfl rfl ?_
          refine s_istore B X48 (pc' := 54) (Ls' := #[.val (.int i0), .val (.long i1), .second, .val (.long i2), .second, .val (.ref w_NODE), .val (.ref w_RELATIONSHIP), .val (.long i2), .second, .val (.int (((i0.toUInt32 >>> ((3 : Int32) &&& 31).toUInt32).toInt32) &&& (3 : Int32))), .unset, .unset, .unset]) at_52 rfl rfl ?_
          refine s_new B X48 (pc' := 57) (n0 := 2) e48 (tw3 hw) (tw4 hw) (tw5 hw) (by decide) (by decide) at_54 rfl (fun T50 h50 o50 g50 X50 e50 E50 A50 D50 => ?_)
          have ge_o50 : Z.heap.size ≤ o50 := g50 ▸ old_le (Old.start Z)
          have O50 := ((Old.start Z)).ext E50
          have F50 := OwnF.ext O50.2 F0
          have D50_kind : Fld Z h50 o50 "com/example/isolation/isolation/EntityKey" "kind" "Lcom/example/isolation/isolation/EntityKind;" .null := D50 (Or.inr (tw13 hw)) (ty := (.object "com/example/isolation/isolation/EntityKind")) (by decide)
          have D50_id : Fld Z h50 o50 "com/example/isolation/isolation/EntityKey" "id" "J" (.long (0 : Int64)) := D50 (Or.inr (tw15 hw)) (ty := .long) (by decide)
          show Go p e below _ (T50.setTop (mkF m 57 #[.val (.int i0), .val (.long i1), .second, .val (.long i2), .second, .val (.ref w_NODE), .val (.ref w_RELATIONSHIP), .val (.long i2), .second, .val (.int (((i0.toUInt32 >>> ((3 : Int32) &&& 31).toUInt32).toInt32) &&& (3 : Int32))), .unset, .unset, .unset] [(.ref o50)]))
          refine s_dup B X50 (pc' := 58) at_57 rfl rfl ?_
          refine s_aload B X50 (pc' := 60) at_58 rfl rfl rfl ?_
          refine s_lloadN B X50 (pc' := 61) at_60 rfl rfl ?_
          refine c_init B X50 (y := mn4) (pc' := 64) (argsL := [(.ref w_NODE), (.long i1)]) (under := [(.ref o50)]) (W := 1) e50 rfl (tw6 hw) (tw7 hw) (tw8 hw) (tw5 hw) (by decide) (mm1_3 l Z a0 hw o50 i1 w_NODE w_RELATIONSHIP h50 F0 O50 ge_o50 A50 D50_id D50_kind ) (lenOf pd_2 rfl) rfl rfl (by decide) (by decide) (by decide) (by decide) rfl at_61 rfl (fun v51 T51 L51 X51 hQ51 => ?_)
          obtain ⟨rfl, Nq51, Kq51, u51_0, u51_1⟩ := hQ51
          obtain ⟨h51, e51⟩ : ∃ z, T51.heap = z := ⟨_, rfl⟩
          rw [e51] at Kq51 u51_0 u51_1
          have N51 := Fr.app (Fr.nil _) Nq51
          have O51 := (O50).keep Kq51 (allS ge_o50 all0)
          have F51 := OwnF.ext O51.2 F0
          show Go p e below _ (T51.setTop (mkF m 64 #[.val (.int i0), .val (.long i1), .second, .val (.long i2), .second, .val (.ref w_NODE), .val (.ref w_RELATIONSHIP), .val (.long i2), .second, .val (.int (((i0.toUInt32 >>> ((3 : Int32) &&& 31).toUInt32).toInt32) &&& (3 : Int32))), .unset, .unset, .unset] [(.ref o50)]))
          refine s_astore B X51 (pc' := 66) (Ls' := #[.val (.int i0), .val (.long i1), .second, .val (.long i2), .second, .val (.ref w_NODE), .val (.ref w_RELATIONSHIP), .val (.long i2), .second, .val (.int (((i0.toUInt32 >>> ((3 : Int32) &&& 31).toUInt32).toInt32) &&& (3 : Int32))), .val (.ref o50), .unset, .unset]) at_64 rfl rfl rfl ?_
          refine s_iload B X51 (pc' := 68) at_66 rfl rfl ?_
          refine b_if_ne B X51 (py := 86) (pn := 71) at_68 (by decide) (by decide) rfl (fun hc68_52 => ?_) (fun hc68_52 => ?_)
          · refine s_iload B X51 (pc' := 88) at_86 rfl rfl ?_
            refine s_iconst B X51 (pc' := 89) (v := (1 : Int32)) at_88 rfl rfl ?_
            refine b_icmp_ne B X51 (py := 114) (pn := 92) at_89 (by decide) (by decide) rfl (fun hc89_53 => ?_) (fun hc89_53 => ?_)
            · refine s_iload B X51 (pc' := 116) at_114 rfl rfl ?_
              refine s_iconst B X51 (pc' := 117) (v := (2 : Int32)) at_116 rfl rfl ?_
              refine b_icmp_ne B X51 (py := 128) (pn := 120) at_117 (by decide) (by decide) rfl (fun hc117_54 => ?_) (fun hc117_54 => ?_)
              · refine s_new B X51 (pc' := 131) (n0 := 2) e51 (tw3 hw) (tw4 hw) (tw5 hw) (by decide) (by decide) at_128 rfl (fun T55 h55 o55 g55 X55 e55 E55 A55 D55 => ?_)
                have f56 := (A50.keep Kq51)
                have ne_o50_o55 : o50 ≠ o55 := Nat.ne_of_lt (g55 ▸ f56.lt)
                have ge_o55 : Z.heap.size ≤ o55 := g55 ▸ old_le O51
                have O55 := (O51).ext E55
                have F55 := OwnF.ext O55.2 F0
                have D55_kind : Fld Z h55 o55 "com/example/isolation/isolation/EntityKey" "kind" "Lcom/example/isolation/isolation/EntityKind;" .null := D55 (Or.inr (tw13 hw)) (ty := (.object "com/example/isolation/isolation/EntityKind")) (by decide)
                have D55_id : Fld Z h55 o55 "com/example/isolation/isolation/EntityKey" "id" "J" (.long (0 : Int64)) := D55 (Or.inr (tw15 hw)) (ty := .long) (by decide)
                show Go p e below _ (T55.setTop (mkF m 131 #[.val (.int i0), .val (.long i1), .second, .val (.long i2), .second, .val (.ref w_NODE), .val (.ref w_RELATIONSHIP), .val (.long i2), .second, .val (.int (((i0.toUInt32 >>> ((3 : Int32) &&& 31).toUInt32).toInt32) &&& (3 : Int32))), .val (.ref o50), .unset, .unset] [(.ref o55)]))
                refine s_dup B X55 (pc' := 132) at_131 rfl rfl ?_
                refine s_aload B X55 (pc' := 134) at_132 rfl rfl rfl ?_
                refine s_lload B X55 (pc' := 136) at_134 rfl rfl ?_
                refine c_init B X55 (y := mn4) (pc' := 139) (argsL := [(.ref w_RELATIONSHIP), (.long i2)]) (under := [(.ref o55)]) (W := 1) e55 rfl (tw6 hw) (tw7 hw) (tw8 hw) (tw5 hw) (by decide) (mm1_9 l Z a0 hw o55 i2 w_NODE w_RELATIONSHIP h55 F0 O55 ge_o55 A55 D55_id D55_kind ) (lenOf pd_2 rfl) rfl rfl (by decide) (by decide) (by decide) (by decide) rfl at_136 rfl (fun v57 T57 L57 X57 hQ57 => ?_)
                obtain ⟨rfl, Nq57, Kq57, u57_0, u57_1⟩ := hQ57
                obtain ⟨h57, e57⟩ : ∃ z, T57.heap = z := ⟨_, rfl⟩
                rw [e57] at Kq57 u57_0 u57_1
                have N57 := Fr.app N51 Nq57
                have O57 := (O55).keep Kq57 (allS ge_o55 all0)
                have F57 := OwnF.ext O57.2 F0
                show Go p e below _ (T57.setTop (mkF m 139 #[.val (.int i0), .val (.long i1), .second, .val (.long i2), .second, .val (.ref w_NODE), .val (.ref w_RELATIONSHIP), .val (.long i2), .second, .val (.int (((i0.toUInt32 >>> ((3 : Int32) &&& 31).toUInt32).toInt32) &&& (3 : Int32))), .val (.ref o50), .unset, .unset] [(.ref o55)]))
                refine s_astore B X57 (pc' := 141) (Ls' := #[.val (.int i0), .val (.long i1), .second, .val (.long i2), .second, .val (.ref w_NODE), .val (.ref w_RELATIONSHIP), .val (.long i2), .second, .val (.int (((i0.toUInt32 >>> ((3 : Int32) &&& 31).toUInt32).toInt32) &&& (3 : Int32))), .val (.ref o50), .val (.ref o55), .unset]) at_139 rfl rfl rfl ?_
                refine s_aload B X57 (pc' := 143) at_141 rfl rfl rfl ?_
                refine s_aload B X57 (pc' := 145) at_143 rfl rfl rfl ?_
                refine b_acmp_ne B X57 (py := 159) (pn := 148) at_145 (by decide) (by decide) rfl (fun _ => ?_) (fun q => absurd q (own_ne_w_NODE_w_RELATIONSHIP F57))
                refine s_iconst B X57 (pc' := 160) (v := (0 : Int32)) at_159 rfl rfl ?_
                refine s_istore B X57 (pc' := 162) (Ls' := #[.val (.int i0), .val (.long i1), .second, .val (.long i2), .second, .val (.ref w_NODE), .val (.ref w_RELATIONSHIP), .val (.long i2), .second, .val (.int (((i0.toUInt32 >>> ((3 : Int32) &&& 31).toUInt32).toInt32) &&& (3 : Int32))), .val (.ref o50), .val (.ref o55), .val (.int (0 : Int32))]) at_160 rfl rfl ?_
                refine s_aload B X57 (pc' := 164) at_162 rfl rfl rfl ?_
                refine s_aload B X57 (pc' := 166) at_164 rfl rfl rfl ?_
                have f58 := ((f56.ext E55).keep Kq57)
                have f59 := ((u51_0.ext E55).keep Kq57 (ninS ne_o50_o55 nin0))
                have f60 := ((u51_1.ext E55).keep Kq57 (ninS ne_o50_o55 nin0))
                have f61 := (A55.keep Kq57)
                refine p_virtual B X57 (y := mn0) (pc' := 169) (argsL := [(.ref o55)]) (under := []) (W := 0) e57 (tw16 hw) (tw17 hw) (tw19 hw) (tw18 hw) (tw20 hw) (tw5 hw) (by decide) (mm3_10 l Z a0 hw o50 o55 i1 i2 w_NODE w_RELATIONSHIP h57 F0 O57 ge_o50 f58 f59 f60 ge_o55 f61 u57_0 u57_1 ne_o50_o55 hE) f58 (lenOf pd_3 rfl) rfl rfl (by decide) (by decide) rfl rfl (by decide) (by decide) rfl at_166 rfl (fun T62 X62 e62 => ?_)
                show Go p e below _ (T62.setTop (mkF m 169 #[.val (.int i0), .val (.long i1), .second, .val (.long i2), .second, .val (.ref w_NODE), .val (.ref w_RELATIONSHIP), .val (.long i2), .second, .val (.int (((i0.toUInt32 >>> ((3 : Int32) &&& 31).toUInt32).toInt32) &&& (3 : Int32))), .val (.ref o50), .val (.ref o55), .val (.int (0 : Int32))] [(.int (0 : Int32))]))
                refine s_iload B X62 (pc' := 171) at_169 rfl rfl ?_
                refine s_icmpN B X62 (pc' := 174) at_171 (by decide) rfl ?_
                refine s_aload B X62 (pc' := 176) at_174 rfl rfl rfl ?_
                refine s_aload B X62 (pc' := 178) at_176 rfl rfl rfl ?_
                refine p_virtual B X62 (y := mn0) (pc' := 181) (argsL := [(.ref o50)]) (under := []) (W := 0) e62 (tw16 hw) (tw17 hw) (tw19 hw) (tw18 hw) (tw20 hw) (tw5 hw) (by decide) (mm3_11 l Z a0 hw o55 o50 i2 i1 w_NODE w_RELATIONSHIP h57 F0 O57 ge_o55 f61 u57_0 u57_1 ge_o50 f58 f59 f60 (Ne.symm ne_o50_o55) hE) f61 (lenOf pd_3 rfl) rfl rfl (by decide) (by decide) rfl rfl (by decide) (by decide) rfl at_178 rfl (fun T63 X63 e63 => ?_)
                show Go p e below _ (T63.setTop (mkF m 181 #[.val (.int i0), .val (.long i1), .second, .val (.long i2), .second, .val (.ref w_NODE), .val (.ref w_RELATIONSHIP), .val (.long i2), .second, .val (.int (((i0.toUInt32 >>> ((3 : Int32) &&& 31).toUInt32).toInt32) &&& (3 : Int32))), .val (.ref o50), .val (.ref o55), .val (.int (0 : Int32))] [(.int (0 : Int32))]))
                refine s_iload B X63 (pc' := 183) at_181 rfl rfl ?_
                refine s_icmpN B X63 (pc' := 186) at_183 (by decide) rfl ?_
                refine s_iconst B X63 (pc' := 187) (v := (1 : Int32)) at_186 rfl rfl ?_
                refine s_goto B X63 (pc' := 191) at_187 (by decide) (by decide) ?_
                exact r_nar B X63 (t := .boolean) (by simp) rfl at_191 ⟨rfl, N57⟩ (by decide) (by decide)
              · refine s_aload B X51 (pc' := 122) at_120 rfl rfl rfl ?_
                refine s_aload B X51 (pc' := 124) at_122 rfl rfl rfl ?_
                have f64 := (A50.keep Kq51)
                refine p_virtual B X51 (y := mn0) (pc' := 127) (argsL := [(.ref o50)]) (under := []) (W := 0) e51 (tw16 hw) (tw17 hw) (tw19 hw) (tw18 hw) (tw20 hw) (tw5 hw) (by decide) (mm3_6 l Z a0 hw o50 i1 w_NODE w_RELATIONSHIP h51 F0 O51 ge_o50 f64 u51_0 u51_1 ) f64 (lenOf pd_3 rfl) rfl rfl (by decide) (by decide) rfl rfl (by decide) (by decide) rfl at_124 rfl (fun T65 X65 e65 => ?_)
                show Go p e below _ (T65.setTop (mkF m 127 #[.val (.int i0), .val (.long i1), .second, .val (.long i2), .second, .val (.ref w_NODE), .val (.ref w_RELATIONSHIP), .val (.long i2), .second, .val (.int (((i0.toUInt32 >>> ((3 : Int32) &&& 31).toUInt32).toInt32) &&& (3 : Int32))), .val (.ref o50), .unset, .unset] [(.int (1 : Int32))]))
                exact r_nar B X65 (t := .boolean) (by simp) rfl at_127 ⟨rfl, N51⟩ (by decide) (by decide)
            · refine s_lloadN B X51 (pc' := 93) at_92 rfl rfl ?_
              refine c_static B X51 (y := mn3) (pc' := 96) (argsL := [(.long i1)]) (under := []) (W := 0) e51 (tw25 hw) (tw26 hw) (tw28 hw) (tw27 hw) (by decide) (rm_valueOf l Z a0 hw i1 w_NODE w_RELATIONSHIP h51 F0 O51) (lenOf pd_4 rfl) rfl rfl (by decide) (by decide) (by decide) (by decide) rfl at_93 rfl (fun v66 T66 L66 X66 hQ => ?_)
              obtain ⟨qL, rfl, Nq, Kq, EL⟩ := hQ
              obtain ⟨h66, e66⟩ : ∃ z, T66.heap = z := ⟨_, rfl⟩
              rw [e66] at Kq EL
              have N66 := Fr.app N51 Nq
              have O66 := (O51).keep Kq all0
              have F66 := OwnF.ext O66.2 F0
              show Go p e below _ (T66.setTop (mkF m 96 #[.val (.int i0), .val (.long i1), .second, .val (.long i2), .second, .val (.ref w_NODE), .val (.ref w_RELATIONSHIP), .val (.long i2), .second, .val (.int (((i0.toUInt32 >>> ((3 : Int32) &&& 31).toUInt32).toInt32) &&& (3 : Int32))), .val (.ref o50), .unset, .unset] [(.ref qL)]))
              refine s_astore B X66 (pc' := 98) (Ls' := #[.val (.int i0), .val (.long i1), .second, .val (.long i2), .second, .val (.ref w_NODE), .val (.ref w_RELATIONSHIP), .val (.long i2), .second, .val (.int (((i0.toUInt32 >>> ((3 : Int32) &&& 31).toUInt32).toInt32) &&& (3 : Int32))), .val (.ref o50), .val (.ref qL), .unset]) at_96 rfl rfl rfl ?_
              refine s_aload B X66 (pc' := 100) at_98 rfl rfl rfl ?_
              refine s_aload B X66 (pc' := 102) at_100 rfl rfl rfl ?_
              have f68 := ((A50.keep Kq51).keep Kq)
              refine p_virtual B X66 (y := mn0) (pc' := 105) (argsL := [(.ref qL)]) (under := []) (W := 0) e66 (tw16 hw) (tw17 hw) (tw19 hw) (tw18 hw) (tw20 hw) (tw5 hw) (by decide) (rm_eqL l Z a0 hw o50 qL h66 EL) f68 (lenOf pd_3 rfl) rfl rfl (by decide) (by decide) rfl rfl (by decide) (by decide) rfl at_102 rfl (fun T67 X67 e67 => ?_)
              show Go p e below _ (T67.setTop (mkF m 105 #[.val (.int i0), .val (.long i1), .second, .val (.long i2), .second, .val (.ref w_NODE), .val (.ref w_RELATIONSHIP), .val (.long i2), .second, .val (.int (((i0.toUInt32 >>> ((3 : Int32) &&& 31).toUInt32).toInt32) &&& (3 : Int32))), .val (.ref o50), .val (.ref qL), .unset] [(.int (0 : Int32))]))
              refine s_ifN B X67 (pc' := 108) at_105 (by decide) rfl ?_
              refine s_iconst B X67 (pc' := 109) (v := (1 : Int32)) at_108 rfl rfl ?_
              refine s_goto B X67 (pc' := 113) at_109 (by decide) (by decide) ?_
              exact r_nar B X67 (t := .boolean) (by simp) rfl at_113 ⟨rfl, N66⟩ (by decide) (by decide)
          · refine s_aload B X51 (pc' := 73) at_71 rfl rfl rfl ?_
            refine s_aconst_null B X51 (pc' := 74) at_73 rfl ?_
            have f69 := (A50.keep Kq51)
            refine p_virtual B X51 (y := mn0) (pc' := 77) (argsL := [.null]) (under := []) (W := 0) e51 (tw16 hw) (tw17 hw) (tw19 hw) (tw18 hw) (tw20 hw) (tw5 hw) (by decide) (mm3_7 l Z a0 hw o50 i1 w_NODE w_RELATIONSHIP h51 F0 O51 ge_o50 f69 u51_0 u51_1 ) f69 (lenOf pd_3 rfl) rfl rfl (by decide) (by decide) rfl rfl (by decide) (by decide) rfl at_74 rfl (fun T70 X70 e70 => ?_)
            show Go p e below _ (T70.setTop (mkF m 77 #[.val (.int i0), .val (.long i1), .second, .val (.long i2), .second, .val (.ref w_NODE), .val (.ref w_RELATIONSHIP), .val (.long i2), .second, .val (.int (((i0.toUInt32 >>> ((3 : Int32) &&& 31).toUInt32).toInt32) &&& (3 : Int32))), .val (.ref o50), .unset, .unset] [(.int (0 : Int32))]))
            refine s_ifN B X70 (pc' := 80) at_77 (by decide) rfl ?_
            refine s_iconst B X70 (pc' := 81) (v := (1 : Int32)) at_80 rfl rfl ?_
            refine s_goto B X70 (pc' := 85) at_81 (by decide) (by decide) ?_
            exact r_nar B X70 (t := .boolean) (by simp) rfl at_85 ⟨rfl, N51⟩ (by decide) (by decide)
        · refine s_lloadN B X48 (pc' := 41) at_40 rfl rfl ?_
          refine s_goto B X48 (pc' := 45) at_41 (by decide) (by decide) ?_
          refine s_lstore B X48 (pc' := 47) (Ls' := #[.val (.int i0), .val (.long i1), .second, .val (.long i2), .second, .val (.ref w_NODE), .val (.ref w_RELATIONSHIP), .val (.long i1), .second, .unset, .unset, .unset, .unset]) at_45 rfl rfl ?_
          refine s_iloadN B X48 (pc' := 48) at_47 rfl rfl ?_
          refine s_iconst B X48 (pc' := 49) (v := (3 : Int32)) at_48 rfl rfl ?_
          refine s_iushr B X48 (pc' := 50) (v := ((i0.toUInt32 >>> ((3 : Int32) &&& 31).toUInt32).toInt32)) at_49 rfl rfl ?_
          refine s_iconst B X48 (pc' := 51) (v := (3 : Int32)) at_50 rfl rfl ?_
          refine s_iand B X48 (pc' := 52) (v := (((i0.toUInt32 >>> ((3 : Int32) &&& 31).toUInt32).toInt32) &&& (3 : Int32))) at_51 rfl rfl ?_
          refine s_istore B X48 (pc' := 54) (Ls' := #[.val (.int i0), .val (.long i1), .second, .val (.long i2), .second, .val (.ref w_NODE), .val (.ref w_RELATIONSHIP), .val (.long i1), .second, .val (.int (((i0.toUInt32 >>> ((3 : Int32) &&& 31).toUInt32).toInt32) &&& (3 : Int32))), .unset, .unset, .unset]) at_52 rfl rfl ?_
          refine s_new B X48 (pc' := 57) (n0 := 2) e48 (tw3 hw) (tw4 hw) (tw5 hw) (by decide) (by decide) at_54 rfl (fun T71 h71 o71 g71 X71 e71 E71 A71 D71 => ?_)
          have ge_o71 : Z.heap.size ≤ o71 := g71 ▸ old_le (Old.start Z)
          have O71 := ((Old.start Z)).ext E71
          have F71 := OwnF.ext O71.2 F0
          have D71_kind : Fld Z h71 o71 "com/example/isolation/isolation/EntityKey" "kind" "Lcom/example/isolation/isolation/EntityKind;" .null := D71 (Or.inr (tw13 hw)) (ty := (.object "com/example/isolation/isolation/EntityKind")) (by decide)
          have D71_id : Fld Z h71 o71 "com/example/isolation/isolation/EntityKey" "id" "J" (.long (0 : Int64)) := D71 (Or.inr (tw15 hw)) (ty := .long) (by decide)
          show Go p e below _ (T71.setTop (mkF m 57 #[.val (.int i0), .val (.long i1), .second, .val (.long i2), .second, .val (.ref w_NODE), .val (.ref w_RELATIONSHIP), .val (.long i1), .second, .val (.int (((i0.toUInt32 >>> ((3 : Int32) &&& 31).toUInt32).toInt32) &&& (3 : Int32))), .unset, .unset, .unset] [(.ref o71)]))
          refine s_dup B X71 (pc' := 58) at_57 rfl rfl ?_
          refine s_aload B X71 (pc' := 60) at_58 rfl rfl rfl ?_
          refine s_lloadN B X71 (pc' := 61) at_60 rfl rfl ?_
          refine c_init B X71 (y := mn4) (pc' := 64) (argsL := [(.ref w_NODE), (.long i1)]) (under := [(.ref o71)]) (W := 1) e71 rfl (tw6 hw) (tw7 hw) (tw8 hw) (tw5 hw) (by decide) (mm1_3 l Z a0 hw o71 i1 w_NODE w_RELATIONSHIP h71 F0 O71 ge_o71 A71 D71_id D71_kind ) (lenOf pd_2 rfl) rfl rfl (by decide) (by decide) (by decide) (by decide) rfl at_61 rfl (fun v72 T72 L72 X72 hQ72 => ?_)
          obtain ⟨rfl, Nq72, Kq72, u72_0, u72_1⟩ := hQ72
          obtain ⟨h72, e72⟩ : ∃ z, T72.heap = z := ⟨_, rfl⟩
          rw [e72] at Kq72 u72_0 u72_1
          have N72 := Fr.app (Fr.nil _) Nq72
          have O72 := (O71).keep Kq72 (allS ge_o71 all0)
          have F72 := OwnF.ext O72.2 F0
          show Go p e below _ (T72.setTop (mkF m 64 #[.val (.int i0), .val (.long i1), .second, .val (.long i2), .second, .val (.ref w_NODE), .val (.ref w_RELATIONSHIP), .val (.long i1), .second, .val (.int (((i0.toUInt32 >>> ((3 : Int32) &&& 31).toUInt32).toInt32) &&& (3 : Int32))), .unset, .unset, .unset] [(.ref o71)]))
          refine s_astore B X72 (pc' := 66) (Ls' := #[.val (.int i0), .val (.long i1), .second, .val (.long i2), .second, .val (.ref w_NODE), .val (.ref w_RELATIONSHIP), .val (.long i1), .second, .val (.int (((i0.toUInt32 >>> ((3 : Int32) &&& 31).toUInt32).toInt32) &&& (3 : Int32))), .val (.ref o71), .unset, .unset]) at_64 rfl rfl rfl ?_
          refine s_iload B X72 (pc' := 68) at_66 rfl rfl ?_
          refine b_if_ne B X72 (py := 86) (pn := 71) at_68 (by decide) (by decide) rfl (fun hc68_73 => ?_) (fun hc68_73 => ?_)
          · refine s_iload B X72 (pc' := 88) at_86 rfl rfl ?_
            refine s_iconst B X72 (pc' := 89) (v := (1 : Int32)) at_88 rfl rfl ?_
            refine b_icmp_ne B X72 (py := 114) (pn := 92) at_89 (by decide) (by decide) rfl (fun hc89_74 => ?_) (fun hc89_74 => ?_)
            · refine s_iload B X72 (pc' := 116) at_114 rfl rfl ?_
              refine s_iconst B X72 (pc' := 117) (v := (2 : Int32)) at_116 rfl rfl ?_
              refine b_icmp_ne B X72 (py := 128) (pn := 120) at_117 (by decide) (by decide) rfl (fun hc117_75 => ?_) (fun hc117_75 => ?_)
              · refine s_new B X72 (pc' := 131) (n0 := 2) e72 (tw3 hw) (tw4 hw) (tw5 hw) (by decide) (by decide) at_128 rfl (fun T76 h76 o76 g76 X76 e76 E76 A76 D76 => ?_)
                have f77 := (A71.keep Kq72)
                have ne_o71_o76 : o71 ≠ o76 := Nat.ne_of_lt (g76 ▸ f77.lt)
                have ge_o76 : Z.heap.size ≤ o76 := g76 ▸ old_le O72
                have O76 := (O72).ext E76
                have F76 := OwnF.ext O76.2 F0
                have D76_kind : Fld Z h76 o76 "com/example/isolation/isolation/EntityKey" "kind" "Lcom/example/isolation/isolation/EntityKind;" .null := D76 (Or.inr (tw13 hw)) (ty := (.object "com/example/isolation/isolation/EntityKind")) (by decide)
                have D76_id : Fld Z h76 o76 "com/example/isolation/isolation/EntityKey" "id" "J" (.long (0 : Int64)) := D76 (Or.inr (tw15 hw)) (ty := .long) (by decide)
                show Go p e below _ (T76.setTop (mkF m 131 #[.val (.int i0), .val (.long i1), .second, .val (.long i2), .second, .val (.ref w_NODE), .val (.ref w_RELATIONSHIP), .val (.long i1), .second, .val (.int (((i0.toUInt32 >>> ((3 : Int32) &&& 31).toUInt32).toInt32) &&& (3 : Int32))), .val (.ref o71), .unset, .unset] [(.ref o76)]))
                refine s_dup B X76 (pc' := 132) at_131 rfl rfl ?_
                refine s_aload B X76 (pc' := 134) at_132 rfl rfl rfl ?_
                refine s_lload B X76 (pc' := 136) at_134 rfl rfl ?_
                refine c_init B X76 (y := mn4) (pc' := 139) (argsL := [(.ref w_RELATIONSHIP), (.long i1)]) (under := [(.ref o76)]) (W := 1) e76 rfl (tw6 hw) (tw7 hw) (tw8 hw) (tw5 hw) (by decide) (mm1_9 l Z a0 hw o76 i1 w_NODE w_RELATIONSHIP h76 F0 O76 ge_o76 A76 D76_id D76_kind ) (lenOf pd_2 rfl) rfl rfl (by decide) (by decide) (by decide) (by decide) rfl at_136 rfl (fun v78 T78 L78 X78 hQ78 => ?_)
                obtain ⟨rfl, Nq78, Kq78, u78_0, u78_1⟩ := hQ78
                obtain ⟨h78, e78⟩ : ∃ z, T78.heap = z := ⟨_, rfl⟩
                rw [e78] at Kq78 u78_0 u78_1
                have N78 := Fr.app N72 Nq78
                have O78 := (O76).keep Kq78 (allS ge_o76 all0)
                have F78 := OwnF.ext O78.2 F0
                show Go p e below _ (T78.setTop (mkF m 139 #[.val (.int i0), .val (.long i1), .second, .val (.long i2), .second, .val (.ref w_NODE), .val (.ref w_RELATIONSHIP), .val (.long i1), .second, .val (.int (((i0.toUInt32 >>> ((3 : Int32) &&& 31).toUInt32).toInt32) &&& (3 : Int32))), .val (.ref o71), .unset, .unset] [(.ref o76)]))
                refine s_astore B X78 (pc' := 141) (Ls' := #[.val (.int i0), .val (.long i1), .second, .val (.long i2), .second, .val (.ref w_NODE), .val (.ref w_RELATIONSHIP), .val (.long i1), .second, .val (.int (((i0.toUInt32 >>> ((3 : Int32) &&& 31).toUInt32).toInt32) &&& (3 : Int32))), .val (.ref o71), .val (.ref o76), .unset]) at_139 rfl rfl rfl ?_
                refine s_aload B X78 (pc' := 143) at_141 rfl rfl rfl ?_
                refine s_aload B X78 (pc' := 145) at_143 rfl rfl rfl ?_
                refine b_acmp_ne B X78 (py := 159) (pn := 148) at_145 (by decide) (by decide) rfl (fun _ => ?_) (fun q => absurd q (own_ne_w_NODE_w_RELATIONSHIP F78))
                refine s_iconst B X78 (pc' := 160) (v := (0 : Int32)) at_159 rfl rfl ?_
                refine s_istore B X78 (pc' := 162) (Ls' := #[.val (.int i0), .val (.long i1), .second, .val (.long i2), .second, .val (.ref w_NODE), .val (.ref w_RELATIONSHIP), .val (.long i1), .second, .val (.int (((i0.toUInt32 >>> ((3 : Int32) &&& 31).toUInt32).toInt32) &&& (3 : Int32))), .val (.ref o71), .val (.ref o76), .val (.int (0 : Int32))]) at_160 rfl rfl ?_
                refine s_aload B X78 (pc' := 164) at_162 rfl rfl rfl ?_
                refine s_aload B X78 (pc' := 166) at_164 rfl rfl rfl ?_
                have f79 := ((f77.ext E76).keep Kq78)
                have f80 := ((u72_0.ext E76).keep Kq78 (ninS ne_o71_o76 nin0))
                have f81 := ((u72_1.ext E76).keep Kq78 (ninS ne_o71_o76 nin0))
                have f82 := (A76.keep Kq78)
                refine p_virtual B X78 (y := mn0) (pc' := 169) (argsL := [(.ref o76)]) (under := []) (W := 0) e78 (tw16 hw) (tw17 hw) (tw19 hw) (tw18 hw) (tw20 hw) (tw5 hw) (by decide) (mm3_12 l Z a0 hw o71 o76 i1 w_NODE w_RELATIONSHIP h78 F0 O78 ge_o71 f79 f80 f81 ge_o76 f82 u78_0 u78_1 ne_o71_o76 ) f79 (lenOf pd_3 rfl) rfl rfl (by decide) (by decide) rfl rfl (by decide) (by decide) rfl at_166 rfl (fun T83 X83 e83 => ?_)
                show Go p e below _ (T83.setTop (mkF m 169 #[.val (.int i0), .val (.long i1), .second, .val (.long i2), .second, .val (.ref w_NODE), .val (.ref w_RELATIONSHIP), .val (.long i1), .second, .val (.int (((i0.toUInt32 >>> ((3 : Int32) &&& 31).toUInt32).toInt32) &&& (3 : Int32))), .val (.ref o71), .val (.ref o76), .val (.int (0 : Int32))] [(.int (0 : Int32))]))
                refine s_iload B X83 (pc' := 171) at_169 rfl rfl ?_
                refine s_icmpN B X83 (pc' := 174) at_171 (by decide) rfl ?_
                refine s_aload B X83 (pc' := 176) at_174 rfl rfl rfl ?_
                refine s_aload B X83 (pc' := 178) at_176 rfl rfl rfl ?_
                refine p_virtual B X83 (y := mn0) (pc' := 181) (argsL := [(.ref o71)]) (under := []) (W := 0) e83 (tw16 hw) (tw17 hw) (tw19 hw) (tw18 hw) (tw20 hw) (tw5 hw) (by decide) (mm3_13 l Z a0 hw o76 o71 i1 w_NODE w_RELATIONSHIP h78 F0 O78 ge_o76 f82 u78_0 u78_1 ge_o71 f79 f80 f81 (Ne.symm ne_o71_o76) ) f82 (lenOf pd_3 rfl) rfl rfl (by decide) (by decide) rfl rfl (by decide) (by decide) rfl at_178 rfl (fun T84 X84 e84 => ?_)
                show Go p e below _ (T84.setTop (mkF m 181 #[.val (.int i0), .val (.long i1), .second, .val (.long i2), .second, .val (.ref w_NODE), .val (.ref w_RELATIONSHIP), .val (.long i1), .second, .val (.int (((i0.toUInt32 >>> ((3 : Int32) &&& 31).toUInt32).toInt32) &&& (3 : Int32))), .val (.ref o71), .val (.ref o76), .val (.int (0 : Int32))] [(.int (0 : Int32))]))
                refine s_iload B X84 (pc' := 183) at_181 rfl rfl ?_
                refine s_icmpN B X84 (pc' := 186) at_183 (by decide) rfl ?_
                refine s_iconst B X84 (pc' := 187) (v := (1 : Int32)) at_186 rfl rfl ?_
                refine s_goto B X84 (pc' := 191) at_187 (by decide) (by decide) ?_
                exact r_nar B X84 (t := .boolean) (by simp) rfl at_191 ⟨rfl, N78⟩ (by decide) (by decide)
              · refine s_aload B X72 (pc' := 122) at_120 rfl rfl rfl ?_
                refine s_aload B X72 (pc' := 124) at_122 rfl rfl rfl ?_
                have f85 := (A71.keep Kq72)
                refine p_virtual B X72 (y := mn0) (pc' := 127) (argsL := [(.ref o71)]) (under := []) (W := 0) e72 (tw16 hw) (tw17 hw) (tw19 hw) (tw18 hw) (tw20 hw) (tw5 hw) (by decide) (mm3_6 l Z a0 hw o71 i1 w_NODE w_RELATIONSHIP h72 F0 O72 ge_o71 f85 u72_0 u72_1 ) f85 (lenOf pd_3 rfl) rfl rfl (by decide) (by decide) rfl rfl (by decide) (by decide) rfl at_124 rfl (fun T86 X86 e86 => ?_)
                show Go p e below _ (T86.setTop (mkF m 127 #[.val (.int i0), .val (.long i1), .second, .val (.long i2), .second, .val (.ref w_NODE), .val (.ref w_RELATIONSHIP), .val (.long i1), .second, .val (.int (((i0.toUInt32 >>> ((3 : Int32) &&& 31).toUInt32).toInt32) &&& (3 : Int32))), .val (.ref o71), .unset, .unset] [(.int (1 : Int32))]))
                exact r_nar B X86 (t := .boolean) (by simp) rfl at_127 ⟨rfl, N72⟩ (by decide) (by decide)
            · refine s_lloadN B X72 (pc' := 93) at_92 rfl rfl ?_
              refine c_static B X72 (y := mn3) (pc' := 96) (argsL := [(.long i1)]) (under := []) (W := 0) e72 (tw25 hw) (tw26 hw) (tw28 hw) (tw27 hw) (by decide) (rm_valueOf l Z a0 hw i1 w_NODE w_RELATIONSHIP h72 F0 O72) (lenOf pd_4 rfl) rfl rfl (by decide) (by decide) (by decide) (by decide) rfl at_93 rfl (fun v87 T87 L87 X87 hQ => ?_)
              obtain ⟨qL, rfl, Nq, Kq, EL⟩ := hQ
              obtain ⟨h87, e87⟩ : ∃ z, T87.heap = z := ⟨_, rfl⟩
              rw [e87] at Kq EL
              have N87 := Fr.app N72 Nq
              have O87 := (O72).keep Kq all0
              have F87 := OwnF.ext O87.2 F0
              show Go p e below _ (T87.setTop (mkF m 96 #[.val (.int i0), .val (.long i1), .second, .val (.long i2), .second, .val (.ref w_NODE), .val (.ref w_RELATIONSHIP), .val (.long i1), .second, .val (.int (((i0.toUInt32 >>> ((3 : Int32) &&& 31).toUInt32).toInt32) &&& (3 : Int32))), .val (.ref o71), .unset, .unset] [(.ref qL)]))
              refine s_astore B X87 (pc' := 98) (Ls' := #[.val (.int i0), .val (.long i1), .second, .val (.long i2), .second, .val (.ref w_NODE), .val (.ref w_RELATIONSHIP), .val (.long i1), .second, .val (.int (((i0.toUInt32 >>> ((3 : Int32) &&& 31).toUInt32).toInt32) &&& (3 : Int32))), .val (.ref o71), .val (.ref qL), .unset]) at_96 rfl rfl rfl ?_
              refine s_aload B X87 (pc' := 100) at_98 rfl rfl rfl ?_
              refine s_aload B X87 (pc' := 102) at_100 rfl rfl rfl ?_
              have f89 := ((A71.keep Kq72).keep Kq)
              refine p_virtual B X87 (y := mn0) (pc' := 105) (argsL := [(.ref qL)]) (under := []) (W := 0) e87 (tw16 hw) (tw17 hw) (tw19 hw) (tw18 hw) (tw20 hw) (tw5 hw) (by decide) (rm_eqL l Z a0 hw o71 qL h87 EL) f89 (lenOf pd_3 rfl) rfl rfl (by decide) (by decide) rfl rfl (by decide) (by decide) rfl at_102 rfl (fun T88 X88 e88 => ?_)
              show Go p e below _ (T88.setTop (mkF m 105 #[.val (.int i0), .val (.long i1), .second, .val (.long i2), .second, .val (.ref w_NODE), .val (.ref w_RELATIONSHIP), .val (.long i1), .second, .val (.int (((i0.toUInt32 >>> ((3 : Int32) &&& 31).toUInt32).toInt32) &&& (3 : Int32))), .val (.ref o71), .val (.ref qL), .unset] [(.int (0 : Int32))]))
              refine s_ifN B X88 (pc' := 108) at_105 (by decide) rfl ?_
              refine s_iconst B X88 (pc' := 109) (v := (1 : Int32)) at_108 rfl rfl ?_
              refine s_goto B X88 (pc' := 113) at_109 (by decide) (by decide) ?_
              exact r_nar B X88 (t := .boolean) (by simp) rfl at_113 ⟨rfl, N87⟩ (by decide) (by decide)
          · refine s_aload B X72 (pc' := 73) at_71 rfl rfl rfl ?_
            refine s_aconst_null B X72 (pc' := 74) at_73 rfl ?_
            have f90 := (A71.keep Kq72)
            refine p_virtual B X72 (y := mn0) (pc' := 77) (argsL := [.null]) (under := []) (W := 0) e72 (tw16 hw) (tw17 hw) (tw19 hw) (tw18 hw) (tw20 hw) (tw5 hw) (by decide) (mm3_7 l Z a0 hw o71 i1 w_NODE w_RELATIONSHIP h72 F0 O72 ge_o71 f90 u72_0 u72_1 ) f90 (lenOf pd_3 rfl) rfl rfl (by decide) (by decide) rfl rfl (by decide) (by decide) rfl at_74 rfl (fun T91 X91 e91 => ?_)
            show Go p e below _ (T91.setTop (mkF m 77 #[.val (.int i0), .val (.long i1), .second, .val (.long i2), .second, .val (.ref w_NODE), .val (.ref w_RELATIONSHIP), .val (.long i1), .second, .val (.int (((i0.toUInt32 >>> ((3 : Int32) &&& 31).toUInt32).toInt32) &&& (3 : Int32))), .val (.ref o71), .unset, .unset] [(.int (0 : Int32))]))
            refine s_ifN B X91 (pc' := 80) at_77 (by decide) rfl ?_
            refine s_iconst B X91 (pc' := 81) (v := (1 : Int32)) at_80 rfl rfl ?_
            refine s_goto B X91 (pc' := 85) at_81 (by decide) (by decide) ?_
            exact r_nar B X91 (t := .boolean) (by simp) rfl at_85 ⟨rfl, N72⟩ (by decide) (by decide)
    · refine s_getS B X0 (pc' := 9) e0 (tw21 hw) Via.refl S_RELATIONSHIP at_6 rfl (fun T92 X92 e92 => ?_)
      refine s_goto B X92 (pc' := 15) at_9 (by decide) (by decide) ?_
      refine s_astore B X92 (pc' := 17) (Ls' := #[.val (.int i0), .val (.long i1), .second, .val (.long i2), .second, .val (.ref w_RELATIONSHIP), .unset, .unset, .unset, .unset, .unset, .unset, .unset]) at_15 rfl rfl rfl ?_
      refine s_iloadN B X92 (pc' := 18) at_17 rfl rfl ?_
      refine s_iconst B X92 (pc' := 19) (v := (2 : Int32)) at_18 rfl rfl ?_
      refine s_iand B X92 (pc' := 20) (v := (i0 &&& (2 : Int32))) at_19 rfl rfl ?_
      refine b_if_eq B X92 (py := 29) (pn := 23) at_20 (by decide) (by decide) rfl (fun hc20_93 => ?_) (fun hc20_93 => ?_)
      · refine s_getS B X92 (pc' := 32) e92 (tw0 hw) Via.refl S_NODE at_29 rfl (fun T94 X94 e94 => ?_)
        refine s_astore B X94 (pc' := 34) (Ls' := #[.val (.int i0), .val (.long i1), .second, .val (.long i2), .second, .val (.ref w_RELATIONSHIP), .val (.ref w_NODE), .unset, .unset, .unset, .unset, .unset, .unset]) at_32 rfl rfl rfl ?_
        refine s_iloadN B X94 (pc' := 35) at_34 rfl rfl ?_
        refine s_iconst B X94 (pc' := 36) (v := (4 : Int32)) at_35 rfl rfl ?_
        refine s_iand B X94 (pc' := 37) (v := (i0 &&& (4 : Int32))) at_36 rfl rfl ?_
        refine b_if_eq B X94 (py := 44) (pn := 40) at_37 (by decide) (by decide) rfl (fun hc37_95 => ?_) (fun hc37_95 => ?_)
        · refine s_lloadN B X94 (pc' := 45) at_44 rfl rfl ?_
          refine s_lstore B X94 (pc' := 47) (Ls' := #[.val (.int i0), .val (.long i1), .second, .val (.long i2), .second, .val (.ref w_RELATIONSHIP), .val (.ref w_NODE), .val (.long i2), .second, .unset, .unset, .unset, .unset]) at_45 rfl rfl ?_
          refine s_iloadN B X94 (pc' := 48) at_47 rfl rfl ?_
          refine s_iconst B X94 (pc' := 49) (v := (3 : Int32)) at_48 rfl rfl ?_
          refine s_iushr B X94 (pc' := 50) (v := ((i0.toUInt32 >>> ((3 : Int32) &&& 31).toUInt32).toInt32)) at_49 rfl rfl ?_
          refine s_iconst B X94 (pc' := 51) (v := (3 : Int32)) at_50 rfl rfl ?_
          refine s_iand B X94 (pc' := 52) (v := (((i0.toUInt32 >>> ((3 : Int32) &&& 31).toUInt32).toInt32) &&& (3 : Int32))) at_51 rfl rfl ?_
          refine s_istore B X94 (pc' := 54) (Ls' := #[.val (.int i0), .val (.long i1), .second, .val (.long i2), .second, .val (.ref w_RELATIONSHIP), .val (.ref w_NODE), .val (.long i2), .second, .val (.int (((i0.toUInt32 >>> ((3 : Int32) &&& 31).toUInt32).toInt32) &&& (3 : Int32))), .unset, .unset, .unset]) at_52 rfl rfl ?_
          refine s_new B X94 (pc' := 57) (n0 := 2) e94 (tw3 hw) (tw4 hw) (tw5 hw) (by decide) (by decide) at_54 rfl (fun T96 h96 o96 g96 X96 e96 E96 A96 D96 => ?_)
          have ge_o96 : Z.heap.size ≤ o96 := g96 ▸ old_le (Old.start Z)
          have O96 := ((Old.start Z)).ext E96
          have F96 := OwnF.ext O96.2 F0
          have D96_kind : Fld Z h96 o96 "com/example/isolation/isolation/EntityKey" "kind" "Lcom/example/isolation/isolation/EntityKind;" .null := D96 (Or.inr (tw13 hw)) (ty := (.object "com/example/isolation/isolation/EntityKind")) (by decide)
          have D96_id : Fld Z h96 o96 "com/example/isolation/isolation/EntityKey" "id" "J" (.long (0 : Int64)) := D96 (Or.inr (tw15 hw)) (ty := .long) (by decide)
          show Go p e below _ (T96.setTop (mkF m 57 #[.val (.int i0), .val (.long i1), .second, .val (.long i2), .second, .val (.ref w_RELATIONSHIP), .val (.ref w_NODE), .val (.long i2), .second, .val (.int (((i0.toUInt32 >>> ((3 : Int32) &&& 31).toUInt32).toInt32) &&& (3 : Int32))), .unset, .unset, .unset] [(.ref o96)]))
          refine s_dup B X96 (pc' := 58) at_57 rfl rfl ?_
          refine s_aload B X96 (pc' := 60) at_58 rfl rfl rfl ?_
          refine s_lloadN B X96 (pc' := 61) at_60 rfl rfl ?_
          refine c_init B X96 (y := mn4) (pc' := 64) (argsL := [(.ref w_RELATIONSHIP), (.long i1)]) (under := [(.ref o96)]) (W := 1) e96 rfl (tw6 hw) (tw7 hw) (tw8 hw) (tw5 hw) (by decide) (mm1_9 l Z a0 hw o96 i1 w_NODE w_RELATIONSHIP h96 F0 O96 ge_o96 A96 D96_id D96_kind ) (lenOf pd_2 rfl) rfl rfl (by decide) (by decide) (by decide) (by decide) rfl at_61 rfl (fun v97 T97 L97 X97 hQ97 => ?_)
          obtain ⟨rfl, Nq97, Kq97, u97_0, u97_1⟩ := hQ97
          obtain ⟨h97, e97⟩ : ∃ z, T97.heap = z := ⟨_, rfl⟩
          rw [e97] at Kq97 u97_0 u97_1
          have N97 := Fr.app (Fr.nil _) Nq97
          have O97 := (O96).keep Kq97 (allS ge_o96 all0)
          have F97 := OwnF.ext O97.2 F0
          show Go p e below _ (T97.setTop (mkF m 64 #[.val (.int i0), .val (.long i1), .second, .val (.long i2), .second, .val (.ref w_RELATIONSHIP), .val (.ref w_NODE), .val (.long i2), .second, .val (.int (((i0.toUInt32 >>> ((3 : Int32) &&& 31).toUInt32).toInt32) &&& (3 : Int32))), .unset, .unset, .unset] [(.ref o96)]))
          refine s_astore B X97 (pc' := 66) (Ls' := #[.val (.int i0), .val (.long i1), .second, .val (.long i2), .second, .val (.ref w_RELATIONSHIP), .val (.ref w_NODE), .val (.long i2), .second, .val (.int (((i0.toUInt32 >>> ((3 : Int32) &&& 31).toUInt32).toInt32) &&& (3 : Int32))), .val (.ref o96), .unset, .unset]) at_64 rfl rfl rfl ?_
          refine s_iload B X97 (pc' := 68) at_66 rfl rfl ?_
          refine b_if_ne B X97 (py := 86) (pn := 71) at_68 (by decide) (by decide) rfl (fun hc68_98 => ?_) (fun hc68_98 => ?_)
          · refine s_iload B X97 (pc' := 88) at_86 rfl rfl ?_
            refine s_iconst B X97 (pc' := 89) (v := (1 : Int32)) at_88 rfl rfl ?_
            refine b_icmp_ne B X97 (py := 114) (pn := 92) at_89 (by decide) (by decide) rfl (fun hc89_99 => ?_) (fun hc89_99 => ?_)
            · refine s_iload B X97 (pc' := 116) at_114 rfl rfl ?_
              refine s_iconst B X97 (pc' := 117) (v := (2 : Int32)) at_116 rfl rfl ?_
              refine b_icmp_ne B X97 (py := 128) (pn := 120) at_117 (by decide) (by decide) rfl (fun hc117_100 => ?_) (fun hc117_100 => ?_)
              · refine s_new B X97 (pc' := 131) (n0 := 2) e97 (tw3 hw) (tw4 hw) (tw5 hw) (by decide) (by decide) at_128 rfl (fun T101 h101 o101 g101 X101 e101 E101 A101 D101 => ?_)
                have f102 := (A96.keep Kq97)
                have ne_o96_o101 : o96 ≠ o101 := Nat.ne_of_lt (g101 ▸ f102.lt)
                have ge_o101 : Z.heap.size ≤ o101 := g101 ▸ old_le O97
                have O101 := (O97).ext E101
                have F101 := OwnF.ext O101.2 F0
                have D101_kind : Fld Z h101 o101 "com/example/isolation/isolation/EntityKey" "kind" "Lcom/example/isolation/isolation/EntityKind;" .null := D101 (Or.inr (tw13 hw)) (ty := (.object "com/example/isolation/isolation/EntityKind")) (by decide)
                have D101_id : Fld Z h101 o101 "com/example/isolation/isolation/EntityKey" "id" "J" (.long (0 : Int64)) := D101 (Or.inr (tw15 hw)) (ty := .long) (by decide)
                show Go p e below _ (T101.setTop (mkF m 131 #[.val (.int i0), .val (.long i1), .second, .val (.long i2), .second, .val (.ref w_RELATIONSHIP), .val (.ref w_NODE), .val (.long i2), .second, .val (.int (((i0.toUInt32 >>> ((3 : Int32) &&& 31).toUInt32).toInt32) &&& (3 : Int32))), .val (.ref o96), .unset, .unset] [(.ref o101)]))
                refine s_dup B X101 (pc' := 132) at_131 rfl rfl ?_
                refine s_aload B X101 (pc' := 134) at_132 rfl rfl rfl ?_
                refine s_lload B X101 (pc' := 136) at_134 rfl rfl ?_
                refine c_init B X101 (y := mn4) (pc' := 139) (argsL := [(.ref w_NODE), (.long i2)]) (under := [(.ref o101)]) (W := 1) e101 rfl (tw6 hw) (tw7 hw) (tw8 hw) (tw5 hw) (by decide) (mm1_3 l Z a0 hw o101 i2 w_NODE w_RELATIONSHIP h101 F0 O101 ge_o101 A101 D101_id D101_kind ) (lenOf pd_2 rfl) rfl rfl (by decide) (by decide) (by decide) (by decide) rfl at_136 rfl (fun v103 T103 L103 X103 hQ103 => ?_)
                obtain ⟨rfl, Nq103, Kq103, u103_0, u103_1⟩ := hQ103
                obtain ⟨h103, e103⟩ : ∃ z, T103.heap = z := ⟨_, rfl⟩
                rw [e103] at Kq103 u103_0 u103_1
                have N103 := Fr.app N97 Nq103
                have O103 := (O101).keep Kq103 (allS ge_o101 all0)
                have F103 := OwnF.ext O103.2 F0
                show Go p e below _ (T103.setTop (mkF m 139 #[.val (.int i0), .val (.long i1), .second, .val (.long i2), .second, .val (.ref w_RELATIONSHIP), .val (.ref w_NODE), .val (.long i2), .second, .val (.int (((i0.toUInt32 >>> ((3 : Int32) &&& 31).toUInt32).toInt32) &&& (3 : Int32))), .val (.ref o96), .unset, .unset] [(.ref o101)]))
                refine s_astore B X103 (pc' := 141) (Ls' := #[.val (.int i0), .val (.long i1), .second, .val (.long i2), .second, .val (.ref w_RELATIONSHIP), .val (.ref w_NODE), .val (.long i2), .second, .val (.int (((i0.toUInt32 >>> ((3 : Int32) &&& 31).toUInt32).toInt32) &&& (3 : Int32))), .val (.ref o96), .val (.ref o101), .unset]) at_139 rfl rfl rfl ?_
                refine s_aload B X103 (pc' := 143) at_141 rfl rfl rfl ?_
                refine s_aload B X103 (pc' := 145) at_143 rfl rfl rfl ?_
                refine b_acmp_ne B X103 (py := 159) (pn := 148) at_145 (by decide) (by decide) rfl (fun _ => ?_) (fun q => absurd q (own_ne_w_RELATIONSHIP_w_NODE F103))
                refine s_iconst B X103 (pc' := 160) (v := (0 : Int32)) at_159 rfl rfl ?_
                refine s_istore B X103 (pc' := 162) (Ls' := #[.val (.int i0), .val (.long i1), .second, .val (.long i2), .second, .val (.ref w_RELATIONSHIP), .val (.ref w_NODE), .val (.long i2), .second, .val (.int (((i0.toUInt32 >>> ((3 : Int32) &&& 31).toUInt32).toInt32) &&& (3 : Int32))), .val (.ref o96), .val (.ref o101), .val (.int (0 : Int32))]) at_160 rfl rfl ?_
                refine s_aload B X103 (pc' := 164) at_162 rfl rfl rfl ?_
                refine s_aload B X103 (pc' := 166) at_164 rfl rfl rfl ?_
                have f104 := ((f102.ext E101).keep Kq103)
                have f105 := ((u97_0.ext E101).keep Kq103 (ninS ne_o96_o101 nin0))
                have f106 := ((u97_1.ext E101).keep Kq103 (ninS ne_o96_o101 nin0))
                have f107 := (A101.keep Kq103)
                refine p_virtual B X103 (y := mn0) (pc' := 169) (argsL := [(.ref o101)]) (under := []) (W := 0) e103 (tw16 hw) (tw17 hw) (tw19 hw) (tw18 hw) (tw20 hw) (tw5 hw) (by decide) (mm3_14 l Z a0 hw o96 o101 i1 i2 w_NODE w_RELATIONSHIP h103 F0 O103 ge_o96 f104 f105 f106 ge_o101 f107 u103_0 u103_1 ne_o96_o101 hE) f104 (lenOf pd_3 rfl) rfl rfl (by decide) (by decide) rfl rfl (by decide) (by decide) rfl at_166 rfl (fun T108 X108 e108 => ?_)
                show Go p e below _ (T108.setTop (mkF m 169 #[.val (.int i0), .val (.long i1), .second, .val (.long i2), .second, .val (.ref w_RELATIONSHIP), .val (.ref w_NODE), .val (.long i2), .second, .val (.int (((i0.toUInt32 >>> ((3 : Int32) &&& 31).toUInt32).toInt32) &&& (3 : Int32))), .val (.ref o96), .val (.ref o101), .val (.int (0 : Int32))] [(.int (0 : Int32))]))
                refine s_iload B X108 (pc' := 171) at_169 rfl rfl ?_
                refine s_icmpN B X108 (pc' := 174) at_171 (by decide) rfl ?_
                refine s_aload B X108 (pc' := 176) at_174 rfl rfl rfl ?_
                refine s_aload B X108 (pc' := 178) at_176 rfl rfl rfl ?_
                refine p_virtual B X108 (y := mn0) (pc' := 181) (argsL := [(.ref o96)]) (under := []) (W := 0) e108 (tw16 hw) (tw17 hw) (tw19 hw) (tw18 hw) (tw20 hw) (tw5 hw) (by decide) (mm3_15 l Z a0 hw o101 o96 i2 i1 w_NODE w_RELATIONSHIP h103 F0 O103 ge_o101 f107 u103_0 u103_1 ge_o96 f104 f105 f106 (Ne.symm ne_o96_o101) hE) f107 (lenOf pd_3 rfl) rfl rfl (by decide) (by decide) rfl rfl (by decide) (by decide) rfl at_178 rfl (fun T109 X109 e109 => ?_)
                show Go p e below _ (T109.setTop (mkF m 181 #[.val (.int i0), .val (.long i1), .second, .val (.long i2), .second, .val (.ref w_RELATIONSHIP), .val (.ref w_NODE), .val (.long i2), .second, .val (.int (((i0.toUInt32 >>> ((3 : Int32) &&& 31).toUInt32).toInt32) &&& (3 : Int32))), .val (.ref o96), .val (.ref o101), .val (.int (0 : Int32))] [(.int (0 : Int32))]))
                refine s_iload B X109 (pc' := 183) at_181 rfl rfl ?_
                refine s_icmpN B X109 (pc' := 186) at_183 (by decide) rfl ?_
                refine s_iconst B X109 (pc' := 187) (v := (1 : Int32)) at_186 rfl rfl ?_
                refine s_goto B X109 (pc' := 191) at_187 (by decide) (by decide) ?_
                exact r_nar B X109 (t := .boolean) (by simp) rfl at_191 ⟨rfl, N103⟩ (by decide) (by decide)
              · refine s_aload B X97 (pc' := 122) at_120 rfl rfl rfl ?_
                refine s_aload B X97 (pc' := 124) at_122 rfl rfl rfl ?_
                have f110 := (A96.keep Kq97)
                refine p_virtual B X97 (y := mn0) (pc' := 127) (argsL := [(.ref o96)]) (under := []) (W := 0) e97 (tw16 hw) (tw17 hw) (tw19 hw) (tw18 hw) (tw20 hw) (tw5 hw) (by decide) (mm3_16 l Z a0 hw o96 i1 w_NODE w_RELATIONSHIP h97 F0 O97 ge_o96 f110 u97_0 u97_1 ) f110 (lenOf pd_3 rfl) rfl rfl (by decide) (by decide) rfl rfl (by decide) (by decide) rfl at_124 rfl (fun T111 X111 e111 => ?_)
                show Go p e below _ (T111.setTop (mkF m 127 #[.val (.int i0), .val (.long i1), .second, .val (.long i2), .second, .val (.ref w_RELATIONSHIP), .val (.ref w_NODE), .val (.long i2), .second, .val (.int (((i0.toUInt32 >>> ((3 : Int32) &&& 31).toUInt32).toInt32) &&& (3 : Int32))), .val (.ref o96), .unset, .unset] [(.int (1 : Int32))]))
                exact r_nar B X111 (t := .boolean) (by simp) rfl at_127 ⟨rfl, N97⟩ (by decide) (by decide)
            · refine s_lloadN B X97 (pc' := 93) at_92 rfl rfl ?_
              refine c_static B X97 (y := mn3) (pc' := 96) (argsL := [(.long i1)]) (under := []) (W := 0) e97 (tw25 hw) (tw26 hw) (tw28 hw) (tw27 hw) (by decide) (rm_valueOf l Z a0 hw i1 w_NODE w_RELATIONSHIP h97 F0 O97) (lenOf pd_4 rfl) rfl rfl (by decide) (by decide) (by decide) (by decide) rfl at_93 rfl (fun v112 T112 L112 X112 hQ => ?_)
              obtain ⟨qL, rfl, Nq, Kq, EL⟩ := hQ
              obtain ⟨h112, e112⟩ : ∃ z, T112.heap = z := ⟨_, rfl⟩
              rw [e112] at Kq EL
              have N112 := Fr.app N97 Nq
              have O112 := (O97).keep Kq all0
              have F112 := OwnF.ext O112.2 F0
              show Go p e below _ (T112.setTop (mkF m 96 #[.val (.int i0), .val (.long i1), .second, .val (.long i2), .second, .val (.ref w_RELATIONSHIP), .val (.ref w_NODE), .val (.long i2), .second, .val (.int (((i0.toUInt32 >>> ((3 : Int32) &&& 31).toUInt32).toInt32) &&& (3 : Int32))), .val (.ref o96), .unset, .unset] [(.ref qL)]))
              refine s_astore B X112 (pc' := 98) (Ls' := #[.val (.int i0), .val (.long i1), .second, .val (.long i2), .second, .val (.ref w_RELATIONSHIP), .val (.ref w_NODE), .val (.long i2), .second, .val (.int (((i0.toUInt32 >>> ((3 : Int32) &&& 31).toUInt32).toInt32) &&& (3 : Int32))), .val (.ref o96), .val (.ref qL), .unset]) at_96 rfl rfl rfl ?_
              refine s_aload B X112 (pc' := 100) at_98 rfl rfl rfl ?_
              refine s_aload B X112 (pc' := 102) at_100 rfl rfl rfl ?_
              have f114 := ((A96.keep Kq97).keep Kq)
              refine p_virtual B X112 (y := mn0) (pc' := 105) (argsL := [(.ref qL)]) (under := []) (W := 0) e112 (tw16 hw) (tw17 hw) (tw19 hw) (tw18 hw) (tw20 hw) (tw5 hw) (by decide) (rm_eqL l Z a0 hw o96 qL h112 EL) f114 (lenOf pd_3 rfl) rfl rfl (by decide) (by decide) rfl rfl (by decide) (by decide) rfl at_102 rfl (fun T113 X113 e113 => ?_)
              show Go p e below _ (T113.setTop (mkF m 105 #[.val (.int i0), .val (.long i1), .second, .val (.long i2), .second, .val (.ref w_RELATIONSHIP), .val (.ref w_NODE), .val (.long i2), .second, .val (.int (((i0.toUInt32 >>> ((3 : Int32) &&& 31).toUInt32).toInt32) &&& (3 : Int32))), .val (.ref o96), .val (.ref qL), .unset] [(.int (0 : Int32))]))
              refine s_ifN B X113 (pc' := 108) at_105 (by decide) rfl ?_
              refine s_iconst B X113 (pc' := 109) (v := (1 : Int32)) at_108 rfl rfl ?_
              refine s_goto B X113 (pc' := 113) at_109 (by decide) (by decide) ?_
              exact r_nar B X113 (t := .boolean) (by simp) rfl at_113 ⟨rfl, N112⟩ (by decide) (by decide)
          · refine s_aload B X97 (pc' := 73) at_71 rfl rfl rfl ?_
            refine s_aconst_null B X97 (pc' := 74) at_73 rfl ?_
            have f115 := (A96.keep Kq97)
            refine p_virtual B X97 (y := mn0) (pc' := 77) (argsL := [.null]) (under := []) (W := 0) e97 (tw16 hw) (tw17 hw) (tw19 hw) (tw18 hw) (tw20 hw) (tw5 hw) (by decide) (mm3_17 l Z a0 hw o96 i1 w_NODE w_RELATIONSHIP h97 F0 O97 ge_o96 f115 u97_0 u97_1 ) f115 (lenOf pd_3 rfl) rfl rfl (by decide) (by decide) rfl rfl (by decide) (by decide) rfl at_74 rfl (fun T116 X116 e116 => ?_)
            show Go p e below _ (T116.setTop (mkF m 77 #[.val (.int i0), .val (.long i1), .second, .val (.long i2), .second, .val (.ref w_RELATIONSHIP), .val (.ref w_NODE), .val (.long i2), .second, .val (.int (((i0.toUInt32 >>> ((3 : Int32) &&& 31).toUInt32).toInt32) &&& (3 : Int32))), .val (.ref o96), .unset, .unset] [(.int (0 : Int32))]))
            refine s_ifN B X116 (pc' := 80) at_77 (by decide) rfl ?_
            refine s_iconst B X116 (pc' := 81) (v := (1 : Int32)) at_80 rfl rfl ?_
            refine s_goto B X116 (pc' := 85) at_81 (by decide) (by decide) ?_
            exact r_nar B X116 (t := .boolean) (by simp) rfl at_85 ⟨rfl, N97⟩ (by decide) (by decide)
        · refine s_lloadN B X94 (pc' := 41) at_40 rfl rfl ?_
          refine s_goto B X94 (pc' := 45) at_41 (by decide) (by decide) ?_
          refine s_lstore B X94 (pc' := 47) (Ls' := #[.val (.int i0), .val (.long i1), .second, .val (.long i2), .second, .val (.ref w_RELATIONSHIP), .val (.ref w_NODE), .val (.long i1), .second, .unset, .unset, .unset, .unset]) at_45 rfl rfl ?_
          refine s_iloadN B X94 (pc' := 48) at_47 rfl rfl ?_
          refine s_iconst B X94 (pc' := 49) (v := (3 : Int32)) at_48 rfl rfl ?_
          refine s_iushr B X94 (pc' := 50) (v := ((i0.toUInt32 >>> ((3 : Int32) &&& 31).toUInt32).toInt32)) at_49 rfl rfl ?_
          refine s_iconst B X94 (pc' := 51) (v := (3 : Int32)) at_50 rfl rfl ?_
          refine s_iand B X94 (pc' := 52) (v := (((i0.toUInt32 >>> ((3 : Int32) &&& 31).toUInt32).toInt32) &&& (3 : Int32))) at_51 rfl rfl ?_
          refine s_istore B X94 (pc' := 54) (Ls' := #[.val (.int i0), .val (.long i1), .second, .val (.long i2), .second, .val (.ref w_RELATIONSHIP), .val (.ref w_NODE), .val (.long i1), .second, .val (.int (((i0.toUInt32 >>> ((3 : Int32) &&& 31).toUInt32).toInt32) &&& (3 : Int32))), .unset, .unset, .unset]) at_52 rfl rfl ?_
          refine s_new B X94 (pc' := 57) (n0 := 2) e94 (tw3 hw) (tw4 hw) (tw5 hw) (by decide) (by decide) at_54 rfl (fun T117 h117 o117 g117 X117 e117 E117 A117 D117 => ?_)
          have ge_o117 : Z.heap.size ≤ o117 := g117 ▸ old_le (Old.start Z)
          have O117 := ((Old.start Z)).ext E117
          have F117 := OwnF.ext O117.2 F0
          have D117_kind : Fld Z h117 o117 "com/example/isolation/isolation/EntityKey" "kind" "Lcom/example/isolation/isolation/EntityKind;" .null := D117 (Or.inr (tw13 hw)) (ty := (.object "com/example/isolation/isolation/EntityKind")) (by decide)
          have D117_id : Fld Z h117 o117 "com/example/isolation/isolation/EntityKey" "id" "J" (.long (0 : Int64)) := D117 (Or.inr (tw15 hw)) (ty := .long) (by decide)
          show Go p e below _ (T117.setTop (mkF m 57 #[.val (.int i0), .val (.long i1), .second, .val (.long i2), .second, .val (.ref w_RELATIONSHIP), .val (.ref w_NODE), .val (.long i1), .second, .val (.int (((i0.toUInt32 >>> ((3 : Int32) &&& 31).toUInt32).toInt32) &&& (3 : Int32))), .unset, .unset, .unset] [(.ref o117)]))
          refine s_dup B X117 (pc' := 58) at_57 rfl rfl ?_
          refine s_aload B X117 (pc' := 60) at_58 rfl rfl rfl ?_
          refine s_lloadN B X117 (pc' := 61) at_60 rfl rfl ?_
          refine c_init B X117 (y := mn4) (pc' := 64) (argsL := [(.ref w_RELATIONSHIP), (.long i1)]) (under := [(.ref o117)]) (W := 1) e117 rfl (tw6 hw) (tw7 hw) (tw8 hw) (tw5 hw) (by decide) (mm1_9 l Z a0 hw o117 i1 w_NODE w_RELATIONSHIP h117 F0 O117 ge_o117 A117 D117_id D117_kind ) (lenOf pd_2 rfl) rfl rfl (by decide) (by decide) (by decide) (by decide) rfl at_61 rfl (fun v118 T118 L118 X118 hQ118 => ?_)
          obtain ⟨rfl, Nq118, Kq118, u118_0, u118_1⟩ := hQ118
          obtain ⟨h118, e118⟩ : ∃ z, T118.heap = z := ⟨_, rfl⟩
          rw [e118] at Kq118 u118_0 u118_1
          have N118 := Fr.app (Fr.nil _) Nq118
          have O118 := (O117).keep Kq118 (allS ge_o117 all0)
          have F118 := OwnF.ext O118.2 F0
          show Go p e below _ (T118.setTop (mkF m 64 #[.val (.int i0), .val (.long i1), .second, .val (.long i2), .second, .val (.ref w_RELATIONSHIP), .val (.ref w_NODE), .val (.long i1), .second, .val (.int (((i0.toUInt32 >>> ((3 : Int32) &&& 31).toUInt32).toInt32) &&& (3 : Int32))), .unset, .unset, .unset] [(.ref o117)]))
          refine s_astore B X118 (pc' := 66) (Ls' := #[.val (.int i0), .val (.long i1), .second, .val (.long i2), .second, .val (.ref w_RELATIONSHIP), .val (.ref w_NODE), .val (.long i1), .second, .val (.int (((i0.toUInt32 >>> ((3 : Int32) &&& 31).toUInt32).toInt32) &&& (3 : Int32))), .val (.ref o117), .unset, .unset]) at_64 rfl rfl rfl ?_
          refine s_iload B X118 (pc' := 68) at_66 rfl rfl ?_
          refine b_if_ne B X118 (py := 86) (pn := 71) at_68 (by decide) (by decide) rfl (fun hc68_119 => ?_) (fun hc68_119 => ?_)
          · refine s_iload B X118 (pc' := 88) at_86 rfl rfl ?_
            refine s_iconst B X118 (pc' := 89) (v := (1 : Int32)) at_88 rfl rfl ?_
            refine b_icmp_ne B X118 (py := 114) (pn := 92) at_89 (by decide) (by decide) rfl (fun hc89_120 => ?_) (fun hc89_120 => ?_)
            · refine s_iload B X118 (pc' := 116) at_114 rfl rfl ?_
              refine s_iconst B X118 (pc' := 117) (v := (2 : Int32)) at_116 rfl rfl ?_
              refine b_icmp_ne B X118 (py := 128) (pn := 120) at_117 (by decide) (by decide) rfl (fun hc117_121 => ?_) (fun hc117_121 => ?_)
              · refine s_new B X118 (pc' := 131) (n0 := 2) e118 (tw3 hw) (tw4 hw) (tw5 hw) (by decide) (by decide) at_128 rfl (fun T122 h122 o122 g122 X122 e122 E122 A122 D122 => ?_)
                have f123 := (A117.keep Kq118)
                have ne_o117_o122 : o117 ≠ o122 := Nat.ne_of_lt (g122 ▸ f123.lt)
                have ge_o122 : Z.heap.size ≤ o122 := g122 ▸ old_le O118
                have O122 := (O118).ext E122
                have F122 := OwnF.ext O122.2 F0
                have D122_kind : Fld Z h122 o122 "com/example/isolation/isolation/EntityKey" "kind" "Lcom/example/isolation/isolation/EntityKind;" .null := D122 (Or.inr (tw13 hw)) (ty := (.object "com/example/isolation/isolation/EntityKind")) (by decide)
                have D122_id : Fld Z h122 o122 "com/example/isolation/isolation/EntityKey" "id" "J" (.long (0 : Int64)) := D122 (Or.inr (tw15 hw)) (ty := .long) (by decide)
                show Go p e below _ (T122.setTop (mkF m 131 #[.val (.int i0), .val (.long i1), .second, .val (.long i2), .second, .val (.ref w_RELATIONSHIP), .val (.ref w_NODE), .val (.long i1), .second, .val (.int (((i0.toUInt32 >>> ((3 : Int32) &&& 31).toUInt32).toInt32) &&& (3 : Int32))), .val (.ref o117), .unset, .unset] [(.ref o122)]))
                refine s_dup B X122 (pc' := 132) at_131 rfl rfl ?_
                refine s_aload B X122 (pc' := 134) at_132 rfl rfl rfl ?_
                refine s_lload B X122 (pc' := 136) at_134 rfl rfl ?_
                refine c_init B X122 (y := mn4) (pc' := 139) (argsL := [(.ref w_NODE), (.long i1)]) (under := [(.ref o122)]) (W := 1) e122 rfl (tw6 hw) (tw7 hw) (tw8 hw) (tw5 hw) (by decide) (mm1_3 l Z a0 hw o122 i1 w_NODE w_RELATIONSHIP h122 F0 O122 ge_o122 A122 D122_id D122_kind ) (lenOf pd_2 rfl) rfl rfl (by decide) (by decide) (by decide) (by decide) rfl at_136 rfl (fun v124 T124 L124 X124 hQ124 => ?_)
                obtain ⟨rfl, Nq124, Kq124, u124_0, u124_1⟩ := hQ124
                obtain ⟨h124, e124⟩ : ∃ z, T124.heap = z := ⟨_, rfl⟩
                rw [e124] at Kq124 u124_0 u124_1
                have N124 := Fr.app N118 Nq124
                have O124 := (O122).keep Kq124 (allS ge_o122 all0)
                have F124 := OwnF.ext O124.2 F0
                show Go p e below _ (T124.setTop (mkF m 139 #[.val (.int i0), .val (.long i1), .second, .val (.long i2), .second, .val (.ref w_RELATIONSHIP), .val (.ref w_NODE), .val (.long i1), .second, .val (.int (((i0.toUInt32 >>> ((3 : Int32) &&& 31).toUInt32).toInt32) &&& (3 : Int32))), .val (.ref o117), .unset, .unset] [(.ref o122)]))
                refine s_astore B X124 (pc' := 141) (Ls' := #[.val (.int i0), .val (.long i1), .second, .val (.long i2), .second, .val (.ref w_RELATIONSHIP), .val (.ref w_NODE), .val (.long i1), .second, .val (.int (((i0.toUInt32 >>> ((3 : Int32) &&& 31).toUInt32).toInt32) &&& (3 : Int32))), .val (.ref o117), .val (.ref o122), .unset]) at_139 rfl rfl rfl ?_
                refine s_aload B X124 (pc' := 143) at_141 rfl rfl rfl ?_
                refine s_aload B X124 (pc' := 145) at_143 rfl rfl rfl ?_
                refine b_acmp_ne B X124 (py := 159) (pn := 148) at_145 (by decide) (by decide) rfl (fun _ => ?_) (fun q => absurd q (own_ne_w_RELATIONSHIP_w_NODE F124))
                refine s_iconst B X124 (pc' := 160) (v := (0 : Int32)) at_159 rfl rfl ?_
                refine s_istore B X124 (pc' := 162) (Ls' := #[.val (.int i0), .val (.long i1), .second, .val (.long i2), .second, .val (.ref w_RELATIONSHIP), .val (.ref w_NODE), .val (.long i1), .second, .val (.int (((i0.toUInt32 >>> ((3 : Int32) &&& 31).toUInt32).toInt32) &&& (3 : Int32))), .val (.ref o117), .val (.ref o122), .val (.int (0 : Int32))]) at_160 rfl rfl ?_
                refine s_aload B X124 (pc' := 164) at_162 rfl rfl rfl ?_
                refine s_aload B X124 (pc' := 166) at_164 rfl rfl rfl ?_
                have f125 := ((f123.ext E122).keep Kq124)
                have f126 := ((u118_0.ext E122).keep Kq124 (ninS ne_o117_o122 nin0))
                have f127 := ((u118_1.ext E122).keep Kq124 (ninS ne_o117_o122 nin0))
                have f128 := (A122.keep Kq124)
                refine p_virtual B X124 (y := mn0) (pc' := 169) (argsL := [(.ref o122)]) (under := []) (W := 0) e124 (tw16 hw) (tw17 hw) (tw19 hw) (tw18 hw) (tw20 hw) (tw5 hw) (by decide) (mm3_13 l Z a0 hw o117 o122 i1 w_NODE w_RELATIONSHIP h124 F0 O124 ge_o117 f125 f126 f127 ge_o122 f128 u124_0 u124_1 ne_o117_o122 ) f125 (lenOf pd_3 rfl) rfl rfl (by decide) (by decide) rfl rfl (by decide) (by decide) rfl at_166 rfl (fun T129 X129 e129 => ?_)
                show Go p e below _ (T129.setTop (mkF m 169 #[.val (.int i0), .val (.long i1), .second, .val (.long i2), .second, .val (.ref w_RELATIONSHIP), .val (.ref w_NODE), .val (.long i1), .second, .val (.int (((i0.toUInt32 >>> ((3 : Int32) &&& 31).toUInt32).toInt32) &&& (3 : Int32))), .val (.ref o117), .val (.ref o122), .val (.int (0 : Int32))] [(.int (0 : Int32))]))
                refine s_iload B X129 (pc' := 171) at_169 rfl rfl ?_
                refine s_icmpN B X129 (pc' := 174) at_171 (by decide) rfl ?_
                refine s_aload B X129 (pc' := 176) at_174 rfl rfl rfl ?_
                refine s_aload B X129 (pc' := 178) at_176 rfl rfl rfl ?_
                refine p_virtual B X129 (y := mn0) (pc' := 181) (argsL := [(.ref o117)]) (under := []) (W := 0) e129 (tw16 hw) (tw17 hw) (tw19 hw) (tw18 hw) (tw20 hw) (tw5 hw) (by decide) (mm3_12 l Z a0 hw o122 o117 i1 w_NODE w_RELATIONSHIP h124 F0 O124 ge_o122 f128 u124_0 u124_1 ge_o117 f125 f126 f127 (Ne.symm ne_o117_o122) ) f128 (lenOf pd_3 rfl) rfl rfl (by decide) (by decide) rfl rfl (by decide) (by decide) rfl at_178 rfl (fun T130 X130 e130 => ?_)
                show Go p e below _ (T130.setTop (mkF m 181 #[.val (.int i0), .val (.long i1), .second, .val (.long i2), .second, .val (.ref w_RELATIONSHIP), .val (.ref w_NODE), .val (.long i1), .second, .val (.int (((i0.toUInt32 >>> ((3 : Int32) &&& 31).toUInt32).toInt32) &&& (3 : Int32))), .val (.ref o117), .val (.ref o122), .val (.int (0 : Int32))] [(.int (0 : Int32))]))
                refine s_iload B X130 (pc' := 183) at_181 rfl rfl ?_
                refine s_icmpN B X130 (pc' := 186) at_183 (by decide) rfl ?_
                refine s_iconst B X130 (pc' := 187) (v := (1 : Int32)) at_186 rfl rfl ?_
                refine s_goto B X130 (pc' := 191) at_187 (by decide) (by decide) ?_
                exact r_nar B X130 (t := .boolean) (by simp) rfl at_191 ⟨rfl, N124⟩ (by decide) (by decide)
              · refine s_aload B X118 (pc' := 122) at_120 rfl rfl rfl ?_
                refine s_aload B X118 (pc' := 124) at_122 rfl rfl rfl ?_
                have f131 := (A117.keep Kq118)
                refine p_virtual B X118 (y := mn0) (pc' := 127) (argsL := [(.ref o117)]) (under := []) (W := 0) e118 (tw16 hw) (tw17 hw) (tw19 hw) (tw18 hw) (tw20 hw) (tw5 hw) (by decide) (mm3_16 l Z a0 hw o117 i1 w_NODE w_RELATIONSHIP h118 F0 O118 ge_o117 f131 u118_0 u118_1 ) f131 (lenOf pd_3 rfl) rfl rfl (by decide) (by decide) rfl rfl (by decide) (by decide) rfl at_124 rfl (fun T132 X132 e132 => ?_)
                show Go p e below _ (T132.setTop (mkF m 127 #[.val (.int i0), .val (.long i1), .second, .val (.long i2), .second, .val (.ref w_RELATIONSHIP), .val (.ref w_NODE), .val (.long i1), .second, .val (.int (((i0.toUInt32 >>> ((3 : Int32) &&& 31).toUInt32).toInt32) &&& (3 : Int32))), .val (.ref o117), .unset, .unset] [(.int (1 : Int32))]))
                exact r_nar B X132 (t := .boolean) (by simp) rfl at_127 ⟨rfl, N118⟩ (by decide) (by decide)
            · refine s_lloadN B X118 (pc' := 93) at_92 rfl rfl ?_
              refine c_static B X118 (y := mn3) (pc' := 96) (argsL := [(.long i1)]) (under := []) (W := 0) e118 (tw25 hw) (tw26 hw) (tw28 hw) (tw27 hw) (by decide) (rm_valueOf l Z a0 hw i1 w_NODE w_RELATIONSHIP h118 F0 O118) (lenOf pd_4 rfl) rfl rfl (by decide) (by decide) (by decide) (by decide) rfl at_93 rfl (fun v133 T133 L133 X133 hQ => ?_)
              obtain ⟨qL, rfl, Nq, Kq, EL⟩ := hQ
              obtain ⟨h133, e133⟩ : ∃ z, T133.heap = z := ⟨_, rfl⟩
              rw [e133] at Kq EL
              have N133 := Fr.app N118 Nq
              have O133 := (O118).keep Kq all0
              have F133 := OwnF.ext O133.2 F0
              show Go p e below _ (T133.setTop (mkF m 96 #[.val (.int i0), .val (.long i1), .second, .val (.long i2), .second, .val (.ref w_RELATIONSHIP), .val (.ref w_NODE), .val (.long i1), .second, .val (.int (((i0.toUInt32 >>> ((3 : Int32) &&& 31).toUInt32).toInt32) &&& (3 : Int32))), .val (.ref o117), .unset, .unset] [(.ref qL)]))
              refine s_astore B X133 (pc' := 98) (Ls' := #[.val (.int i0), .val (.long i1), .second, .val (.long i2), .second, .val (.ref w_RELATIONSHIP), .val (.ref w_NODE), .val (.long i1), .second, .val (.int (((i0.toUInt32 >>> ((3 : Int32) &&& 31).toUInt32).toInt32) &&& (3 : Int32))), .val (.ref o117), .val (.ref qL), .unset]) at_96 rfl rfl rfl ?_
              refine s_aload B X133 (pc' := 100) at_98 rfl rfl rfl ?_
              refine s_aload B X133 (pc' := 102) at_100 rfl rfl rfl ?_
              have f135 := ((A117.keep Kq118).keep Kq)
              refine p_virtual B X133 (y := mn0) (pc' := 105) (argsL := [(.ref qL)]) (under := []) (W := 0) e133 (tw16 hw) (tw17 hw) (tw19 hw) (tw18 hw) (tw20 hw) (tw5 hw) (by decide) (rm_eqL l Z a0 hw o117 qL h133 EL) f135 (lenOf pd_3 rfl) rfl rfl (by decide) (by decide) rfl rfl (by decide) (by decide) rfl at_102 rfl (fun T134 X134 e134 => ?_)
              show Go p e below _ (T134.setTop (mkF m 105 #[.val (.int i0), .val (.long i1), .second, .val (.long i2), .second, .val (.ref w_RELATIONSHIP), .val (.ref w_NODE), .val (.long i1), .second, .val (.int (((i0.toUInt32 >>> ((3 : Int32) &&& 31).toUInt32).toInt32) &&& (3 : Int32))), .val (.ref o117), .val (.ref qL), .unset] [(.int (0 : Int32))]))
              refine s_ifN B X134 (pc' := 108) at_105 (by decide) rfl ?_
              refine s_iconst B X134 (pc' := 109) (v := (1 : Int32)) at_108 rfl rfl ?_
              refine s_goto B X134 (pc' := 113) at_109 (by decide) (by decide) ?_
              exact r_nar B X134 (t := .boolean) (by simp) rfl at_113 ⟨rfl, N133⟩ (by decide) (by decide)
          · refine s_aload B X118 (pc' := 73) at_71 rfl rfl rfl ?_
            refine s_aconst_null B X118 (pc' := 74) at_73 rfl ?_
            have f136 := (A117.keep Kq118)
            refine p_virtual B X118 (y := mn0) (pc' := 77) (argsL := [.null]) (under := []) (W := 0) e118 (tw16 hw) (tw17 hw) (tw19 hw) (tw18 hw) (tw20 hw) (tw5 hw) (by decide) (mm3_17 l Z a0 hw o117 i1 w_NODE w_RELATIONSHIP h118 F0 O118 ge_o117 f136 u118_0 u118_1 ) f136 (lenOf pd_3 rfl) rfl rfl (by decide) (by decide) rfl rfl (by decide) (by decide) rfl at_74 rfl (fun T137 X137 e137 => ?_)
            show Go p e below _ (T137.setTop (mkF m 77 #[.val (.int i0), .val (.long i1), .second, .val (.long i2), .second, .val (.ref w_RELATIONSHIP), .val (.ref w_NODE), .val (.long i1), .second, .val (.int (((i0.toUInt32 >>> ((3 : Int32) &&& 31).toUInt32).toInt32) &&& (3 : Int32))), .val (.ref o117), .unset, .unset] [(.int (0 : Int32))]))
            refine s_ifN B X137 (pc' := 80) at_77 (by decide) rfl ?_
            refine s_iconst B X137 (pc' := 81) (v := (1 : Int32)) at_80 rfl rfl ?_
            refine s_goto B X137 (pc' := 85) at_81 (by decide) (by decide) ?_
            exact r_nar B X137 (t := .boolean) (by simp) rfl at_85 ⟨rfl, N118⟩ (by decide) (by decide)
      · refine s_getS B X92 (pc' := 26) e92 (tw21 hw) Via.refl S_RELATIONSHIP at_23 rfl (fun T138 X138 e138 => ?_)
        refine s_goto B X138 (pc' := 32) at_26 (by decide) (by decide) ?_
        refine s_astore B X138 (pc' := 34) (Ls' := #[.val (.int i0), .val (.long i1), .second, .val (.long i2), .second, .val (.ref w_RELATIONSHIP), .val (.ref w_RELATIONSHIP), .unset, .unset, .unset, .unset, .unset, .unset]) at_32 rfl rfl rfl ?_
        refine s_iloadN B X138 (pc' := 35) at_34 rfl rfl ?_
        refine s_iconst B X138 (pc' := 36) (v := (4 : Int32)) at_35 rfl rfl ?_
        refine s_iand B X138 (pc' := 37) (v := (i0 &&& (4 : Int32))) at_36 rfl rfl ?_
        refine b_if_eq B X138 (py := 44) (pn := 40) at_37 (by decide) (by decide) rfl (fun hc37_139 => ?_) (fun hc37_139 => ?_)
        · refine s_lloadN B X138 (pc' := 45) at_44 rfl rfl ?_
          refine s_lstore B X138 (pc' := 47) (Ls' := #[.val (.int i0), .val (.long i1), .second, .val (.long i2), .second, .val (.ref w_RELATIONSHIP), .val (.ref w_RELATIONSHIP), .val (.long i2), .second, .unset, .unset, .unset, .unset]) at_45 rfl rfl ?_
          refine s_iloadN B X138 (pc' := 48) at_47 rfl rfl ?_
          refine s_iconst B X138 (pc' := 49) (v := (3 : Int32)) at_48 rfl rfl ?_
          refine s_iushr B X138 (pc' := 50) (v := ((i0.toUInt32 >>> ((3 : Int32) &&& 31).toUInt32).toInt32)) at_49 rfl rfl ?_
          refine s_iconst B X138 (pc' := 51) (v := (3 : Int32)) at_50 rfl rfl ?_
          refine s_iand B X138 (pc' := 52) (v := (((i0.toUInt32 >>> ((3 : Int32) &&& 31).toUInt32).toInt32) &&& (3 : Int32))) at_51 rfl rfl ?_
          refine s_istore B X138 (pc' := 54) (Ls' := #[.val (.int i0), .val (.long i1), .second, .val (.long i2), .second, .val (.ref w_RELATIONSHIP), .val (.ref w_RELATIONSHIP), .val (.long i2), .second, .val (.int (((i0.toUInt32 >>> ((3 : Int32) &&& 31).toUInt32).toInt32) &&& (3 : Int32))), .unset, .unset, .unset]) at_52 rfl rfl ?_
          refine s_new B X138 (pc' := 57) (n0 := 2) e138 (tw3 hw) (tw4 hw) (tw5 hw) (by decide) (by decide) at_54 rfl (fun T140 h140 o140 g140 X140 e140 E140 A140 D140 => ?_)
          have ge_o140 : Z.heap.size ≤ o140 := g140 ▸ old_le (Old.start Z)
          have O140 := ((Old.start Z)).ext E140
          have F140 := OwnF.ext O140.2 F0
          have D140_kind : Fld Z h140 o140 "com/example/isolation/isolation/EntityKey" "kind" "Lcom/example/isolation/isolation/EntityKind;" .null := D140 (Or.inr (tw13 hw)) (ty := (.object "com/example/isolation/isolation/EntityKind")) (by decide)
          have D140_id : Fld Z h140 o140 "com/example/isolation/isolation/EntityKey" "id" "J" (.long (0 : Int64)) := D140 (Or.inr (tw15 hw)) (ty := .long) (by decide)
          show Go p e below _ (T140.setTop (mkF m 57 #[.val (.int i0), .val (.long i1), .second, .val (.long i2), .second, .val (.ref w_RELATIONSHIP), .val (.ref w_RELATIONSHIP), .val (.long i2), .second, .val (.int (((i0.toUInt32 >>> ((3 : Int32) &&& 31).toUInt32).toInt32) &&& (3 : Int32))), .unset, .unset, .unset] [(.ref o140)]))
          refine s_dup B X140 (pc' := 58) at_57 rfl rfl ?_
          refine s_aload B X140 (pc' := 60) at_58 rfl rfl rfl ?_
          refine s_lloadN B X140 (pc' := 61) at_60 rfl rfl ?_
          refine c_init B X140 (y := mn4) (pc' := 64) (argsL := [(.ref w_RELATIONSHIP), (.long i1)]) (under := [(.ref o140)]) (W := 1) e140 rfl (tw6 hw) (tw7 hw) (tw8 hw) (tw5 hw) (by decide) (mm1_9 l Z a0 hw o140 i1 w_NODE w_RELATIONSHIP h140 F0 O140 ge_o140 A140 D140_id D140_kind ) (lenOf pd_2 rfl) rfl rfl (by decide) (by decide) (by decide) (by decide) rfl at_61 rfl (fun v141 T141 L141 X141 hQ141 => ?_)
          obtain ⟨rfl, Nq141, Kq141, u141_0, u141_1⟩ := hQ141
          obtain ⟨h141, e141⟩ : ∃ z, T141.heap = z := ⟨_, rfl⟩
          rw [e141] at Kq141 u141_0 u141_1
          have N141 := Fr.app (Fr.nil _) Nq141
          have O141 := (O140).keep Kq141 (allS ge_o140 all0)
          have F141 := OwnF.ext O141.2 F0
          show Go p e below _ (T141.setTop (mkF m 64 #[.val (.int i0), .val (.long i1), .second, .val (.long i2), .second, .val (.ref w_RELATIONSHIP), .val (.ref w_RELATIONSHIP), .val (.long i2), .second, .val (.int (((i0.toUInt32 >>> ((3 : Int32) &&& 31).toUInt32).toInt32) &&& (3 : Int32))), .unset, .unset, .unset] [(.ref o140)]))
          refine s_astore B X141 (pc' := 66) (Ls' := #[.val (.int i0), .val (.long i1), .second, .val (.long i2), .second, .val (.ref w_RELATIONSHIP), .val (.ref w_RELATIONSHIP), .val (.long i2), .second, .val (.int (((i0.toUInt32 >>> ((3 : Int32) &&& 31).toUInt32).toInt32) &&& (3 : Int32))), .val (.ref o140), .unset, .unset]) at_64 rfl rfl rfl ?_
          refine s_iload B X141 (pc' := 68) at_66 rfl rfl ?_
          refine b_if_ne B X141 (py := 86) (pn := 71) at_68 (by decide) (by decide) rfl (fun hc68_142 => ?_) (fun hc68_142 => ?_)
          · refine s_iload B X141 (pc' := 88) at_86 rfl rfl ?_
            refine s_iconst B X141 (pc' := 89) (v := (1 : Int32)) at_88 rfl rfl ?_
            refine b_icmp_ne B X141 (py := 114) (pn := 92) at_89 (by decide) (by decide) rfl (fun hc89_143 => ?_) (fun hc89_143 => ?_)
            · refine s_iload B X141 (pc' := 116) at_114 rfl rfl ?_
              refine s_iconst B X141 (pc' := 117) (v := (2 : Int32)) at_116 rfl rfl ?_
              refine b_icmp_ne B X141 (py := 128) (pn := 120) at_117 (by decide) (by decide) rfl (fun hc117_144 => ?_) (fun hc117_144 => ?_)
              · refine s_new B X141 (pc' := 131) (n0 := 2) e141 (tw3 hw) (tw4 hw) (tw5 hw) (by decide) (by decide) at_128 rfl (fun T145 h145 o145 g145 X145 e145 E145 A145 D145 => ?_)
                have f146 := (A140.keep Kq141)
                have ne_o140_o145 : o140 ≠ o145 := Nat.ne_of_lt (g145 ▸ f146.lt)
                have ge_o145 : Z.heap.size ≤ o145 := g145 ▸ old_le O141
                have O145 := (O141).ext E145
                have F145 := OwnF.ext O145.2 F0
                have D145_kind : Fld Z h145 o145 "com/example/isolation/isolation/EntityKey" "kind" "Lcom/example/isolation/isolation/EntityKind;" .null := D145 (Or.inr (tw13 hw)) (ty := (.object "com/example/isolation/isolation/EntityKind")) (by decide)
                have D145_id : Fld Z h145 o145 "com/example/isolation/isolation/EntityKey" "id" "J" (.long (0 : Int64)) := D145 (Or.inr (tw15 hw)) (ty := .long) (by decide)
                show Go p e below _ (T145.setTop (mkF m 131 #[.val (.int i0), .val (.long i1), .second, .val (.long i2), .second, .val (.ref w_RELATIONSHIP), .val (.ref w_RELATIONSHIP), .val (.long i2), .second, .val (.int (((i0.toUInt32 >>> ((3 : Int32) &&& 31).toUInt32).toInt32) &&& (3 : Int32))), .val (.ref o140), .unset, .unset] [(.ref o145)]))
                refine s_dup B X145 (pc' := 132) at_131 rfl rfl ?_
                refine s_aload B X145 (pc' := 134) at_132 rfl rfl rfl ?_
                refine s_lload B X145 (pc' := 136) at_134 rfl rfl ?_
                refine c_init B X145 (y := mn4) (pc' := 139) (argsL := [(.ref w_RELATIONSHIP), (.long i2)]) (under := [(.ref o145)]) (W := 1) e145 rfl (tw6 hw) (tw7 hw) (tw8 hw) (tw5 hw) (by decide) (mm1_9 l Z a0 hw o145 i2 w_NODE w_RELATIONSHIP h145 F0 O145 ge_o145 A145 D145_id D145_kind ) (lenOf pd_2 rfl) rfl rfl (by decide) (by decide) (by decide) (by decide) rfl at_136 rfl (fun v147 T147 L147 X147 hQ147 => ?_)
                obtain ⟨rfl, Nq147, Kq147, u147_0, u147_1⟩ := hQ147
                obtain ⟨h147, e147⟩ : ∃ z, T147.heap = z := ⟨_, rfl⟩
                rw [e147] at Kq147 u147_0 u147_1
                have N147 := Fr.app N141 Nq147
                have O147 := (O145).keep Kq147 (allS ge_o145 all0)
                have F147 := OwnF.ext O147.2 F0
                show Go p e below _ (T147.setTop (mkF m 139 #[.val (.int i0), .val (.long i1), .second, .val (.long i2), .second, .val (.ref w_RELATIONSHIP), .val (.ref w_RELATIONSHIP), .val (.long i2), .second, .val (.int (((i0.toUInt32 >>> ((3 : Int32) &&& 31).toUInt32).toInt32) &&& (3 : Int32))), .val (.ref o140), .unset, .unset] [(.ref o145)]))
                refine s_astore B X147 (pc' := 141) (Ls' := #[.val (.int i0), .val (.long i1), .second, .val (.long i2), .second, .val (.ref w_RELATIONSHIP), .val (.ref w_RELATIONSHIP), .val (.long i2), .second, .val (.int (((i0.toUInt32 >>> ((3 : Int32) &&& 31).toUInt32).toInt32) &&& (3 : Int32))), .val (.ref o140), .val (.ref o145), .unset]) at_139 rfl rfl rfl ?_
                refine s_aload B X147 (pc' := 143) at_141 rfl rfl rfl ?_
                refine s_aload B X147 (pc' := 145) at_143 rfl rfl rfl ?_
                refine b_acmp_ne B X147 (py := 159) (pn := 148) at_145 (by decide) (by decide) rfl (fun q => absurd rfl q) (fun _ => ?_)
                refine s_lloadN B X147 (pc' := 149) at_148 rfl rfl ?_
                refine s_lload B X147 (pc' := 151) at_149 rfl rfl ?_
                refine b_lcmp_ne B X147 (py := 159) (pn := 155) at_151 rfl at_152 (by decide) (by decide) rfl (fun q => absurd hE q) (fun _ => ?_)
                refine s_iconst B X147 (pc' := 156) (v := (1 : Int32)) at_155 rfl rfl ?_
                refine s_goto B X147 (pc' := 160) at_156 (by decide) (by decide) ?_
                refine s_istore B X147 (pc' := 162) (Ls' := #[.val (.int i0), .val (.long i1), .second, .val (.long i2), .second, .val (.ref w_RELATIONSHIP), .val (.ref w_RELATIONSHIP), .val (.long i2), .second, .val (.int (((i0.toUInt32 >>> ((3 : Int32) &&& 31).toUInt32).toInt32) &&& (3 : Int32))), .val (.ref o140), .val (.ref o145), .val (.int (1 : Int32))]) at_160 rfl rfl ?_
                refine s_aload B X147 (pc' := 164) at_162 rfl rfl rfl ?_
                refine s_aload B X147 (pc' := 166) at_164 rfl rfl rfl ?_
                have f148 := ((f146.ext E145).keep Kq147)
                have f149 := ((u141_0.ext E145).keep Kq147 (ninS ne_o140_o145 nin0))
                have f150 := ((u141_1.ext E145).keep Kq147 (ninS ne_o140_o145 nin0))
                have f151 := (A145.keep Kq147)
                refine p_virtual B X147 (y := mn0) (pc' := 169) (argsL := [(.ref o145)]) (under := []) (W := 0) e147 (tw16 hw) (tw17 hw) (tw19 hw) (tw18 hw) (tw20 hw) (tw5 hw) (by decide) (mm3_18 l Z a0 hw o140 o145 i1 i2 w_NODE w_RELATIONSHIP h147 F0 O147 ge_o140 f148 f149 f150 ge_o145 f151 u147_0 u147_1 ne_o140_o145 hE) f148 (lenOf pd_3 rfl) rfl rfl (by decide) (by decide) rfl rfl (by decide) (by decide) rfl at_166 rfl (fun T152 X152 e152 => ?_)
                show Go p e below _ (T152.setTop (mkF m 169 #[.val (.int i0), .val (.long i1), .second, .val (.long i2), .second, .val (.ref w_RELATIONSHIP), .val (.ref w_RELATIONSHIP), .val (.long i2), .second, .val (.int (((i0.toUInt32 >>> ((3 : Int32) &&& 31).toUInt32).toInt32) &&& (3 : Int32))), .val (.ref o140), .val (.ref o145), .val (.int (1 : Int32))] [(.int (1 : Int32))]))
                refine s_iload B X152 (pc' := 171) at_169 rfl rfl ?_
                refine s_icmpN B X152 (pc' := 174) at_171 (by decide) rfl ?_
                refine s_aload B X152 (pc' := 176) at_174 rfl rfl rfl ?_
                refine s_aload B X152 (pc' := 178) at_176 rfl rfl rfl ?_
                refine p_virtual B X152 (y := mn0) (pc' := 181) (argsL := [(.ref o140)]) (under := []) (W := 0) e152 (tw16 hw) (tw17 hw) (tw19 hw) (tw18 hw) (tw20 hw) (tw5 hw) (by decide) (mm3_19 l Z a0 hw o145 o140 i2 i1 w_NODE w_RELATIONSHIP h147 F0 O147 ge_o145 f151 u147_0 u147_1 ge_o140 f148 f149 f150 (Ne.symm ne_o140_o145) hE) f151 (lenOf pd_3 rfl) rfl rfl (by decide) (by decide) rfl rfl (by decide) (by decide) rfl at_178 rfl (fun T153 X153 e153 => ?_)
                show Go p e below _ (T153.setTop (mkF m 181 #[.val (.int i0), .val (.long i1), .second, .val (.long i2), .second, .val (.ref w_RELATIONSHIP), .val (.ref w_RELATIONSHIP), .val (.long i2), .second, .val (.int (((i0.toUInt32 >>> ((3 : Int32) &&& 31).toUInt32).toInt32) &&& (3 : Int32))), .val (.ref o140), .val (.ref o145), .val (.int (1 : Int32))] [(.int (1 : Int32))]))
                refine s_iload B X153 (pc' := 183) at_181 rfl rfl ?_
                refine s_icmpN B X153 (pc' := 186) at_183 (by decide) rfl ?_
                refine s_iconst B X153 (pc' := 187) (v := (1 : Int32)) at_186 rfl rfl ?_
                refine s_goto B X153 (pc' := 191) at_187 (by decide) (by decide) ?_
                exact r_nar B X153 (t := .boolean) (by simp) rfl at_191 ⟨rfl, N147⟩ (by decide) (by decide)
              · refine s_aload B X141 (pc' := 122) at_120 rfl rfl rfl ?_
                refine s_aload B X141 (pc' := 124) at_122 rfl rfl rfl ?_
                have f154 := (A140.keep Kq141)
                refine p_virtual B X141 (y := mn0) (pc' := 127) (argsL := [(.ref o140)]) (under := []) (W := 0) e141 (tw16 hw) (tw17 hw) (tw19 hw) (tw18 hw) (tw20 hw) (tw5 hw) (by decide) (mm3_16 l Z a0 hw o140 i1 w_NODE w_RELATIONSHIP h141 F0 O141 ge_o140 f154 u141_0 u141_1 ) f154 (lenOf pd_3 rfl) rfl rfl (by decide) (by decide) rfl rfl (by decide) (by decide) rfl at_124 rfl (fun T155 X155 e155 => ?_)
                show Go p e below _ (T155.setTop (mkF m 127 #[.val (.int i0), .val (.long i1), .second, .val (.long i2), .second, .val (.ref w_RELATIONSHIP), .val (.ref w_RELATIONSHIP), .val (.long i2), .second, .val (.int (((i0.toUInt32 >>> ((3 : Int32) &&& 31).toUInt32).toInt32) &&& (3 : Int32))), .val (.ref o140), .unset, .unset] [(.int (1 : Int32))]))
                exact r_nar B X155 (t := .boolean) (by simp) rfl at_127 ⟨rfl, N141⟩ (by decide) (by decide)
            · refine s_lloadN B X141 (pc' := 93) at_92 rfl rfl ?_
              refine c_static B X141 (y := mn3) (pc' := 96) (argsL := [(.long i1)]) (under := []) (W := 0) e141 (tw25 hw) (tw26 hw) (tw28 hw) (tw27 hw) (by decide) (rm_valueOf l Z a0 hw i1 w_NODE w_RELATIONSHIP h141 F0 O141) (lenOf pd_4 rfl) rfl rfl (by decide) (by decide) (by decide) (by decide) rfl at_93 rfl (fun v156 T156 L156 X156 hQ => ?_)
              obtain ⟨qL, rfl, Nq, Kq, EL⟩ := hQ
              obtain ⟨h156, e156⟩ : ∃ z, T156.heap = z := ⟨_, rfl⟩
              rw [e156] at Kq EL
              have N156 := Fr.app N141 Nq
              have O156 := (O141).keep Kq all0
              have F156 := OwnF.ext O156.2 F0
              show Go p e below _ (T156.setTop (mkF m 96 #[.val (.int i0), .val (.long i1), .second, .val (.long i2), .second, .val (.ref w_RELATIONSHIP), .val (.ref w_RELATIONSHIP), .val (.long i2), .second, .val (.int (((i0.toUInt32 >>> ((3 : Int32) &&& 31).toUInt32).toInt32) &&& (3 : Int32))), .val (.ref o140), .unset, .unset] [(.ref qL)]))
              refine s_astore B X156 (pc' := 98) (Ls' := #[.val (.int i0), .val (.long i1), .second, .val (.long i2), .second, .val (.ref w_RELATIONSHIP), .val (.ref w_RELATIONSHIP), .val (.long i2), .second, .val (.int (((i0.toUInt32 >>> ((3 : Int32) &&& 31).toUInt32).toInt32) &&& (3 : Int32))), .val (.ref o140), .val (.ref qL), .unset]) at_96 rfl rfl rfl ?_
              refine s_aload B X156 (pc' := 100) at_98 rfl rfl rfl ?_
              refine s_aload B X156 (pc' := 102) at_100 rfl rfl rfl ?_
              have f158 := ((A140.keep Kq141).keep Kq)
              refine p_virtual B X156 (y := mn0) (pc' := 105) (argsL := [(.ref qL)]) (under := []) (W := 0) e156 (tw16 hw) (tw17 hw) (tw19 hw) (tw18 hw) (tw20 hw) (tw5 hw) (by decide) (rm_eqL l Z a0 hw o140 qL h156 EL) f158 (lenOf pd_3 rfl) rfl rfl (by decide) (by decide) rfl rfl (by decide) (by decide) rfl at_102 rfl (fun T157 X157 e157 => ?_)
              show Go p e below _ (T157.setTop (mkF m 105 #[.val (.int i0), .val (.long i1), .second, .val (.long i2), .second, .val (.ref w_RELATIONSHIP), .val (.ref w_RELATIONSHIP), .val (.long i2), .second, .val (.int (((i0.toUInt32 >>> ((3 : Int32) &&& 31).toUInt32).toInt32) &&& (3 : Int32))), .val (.ref o140), .val (.ref qL), .unset] [(.int (0 : Int32))]))
              refine s_ifN B X157 (pc' := 108) at_105 (by decide) rfl ?_
              refine s_iconst B X157 (pc' := 109) (v := (1 : Int32)) at_108 rfl rfl ?_
              refine s_goto B X157 (pc' := 113) at_109 (by decide) (by decide) ?_
              exact r_nar B X157 (t := .boolean) (by simp) rfl at_113 ⟨rfl, N156⟩ (by decide) (by decide)
          · refine s_aload B X141 (pc' := 73) at_71 rfl rfl rfl ?_
            refine s_aconst_null B X141 (pc' := 74) at_73 rfl ?_
            have f159 := (A140.keep Kq141)
            refine p_virtual B X141 (y := mn0) (pc' := 77) (argsL := [.null]) (under := []) (W := 0) e141 (tw16 hw) (tw17 hw) (tw19 hw) (tw18 hw) (tw20 hw) (tw5 hw) (by decide) (mm3_17 l Z a0 hw o140 i1 w_NODE w_RELATIONSHIP h141 F0 O141 ge_o140 f159 u141_0 u141_1 ) f159 (lenOf pd_3 rfl) rfl rfl (by decide) (by decide) rfl rfl (by decide) (by decide) rfl at_74 rfl (fun T160 X160 e160 => ?_)
            show Go p e below _ (T160.setTop (mkF m 77 #[.val (.int i0), .val (.long i1), .second, .val (.long i2), .second, .val (.ref w_RELATIONSHIP), .val (.ref w_RELATIONSHIP), .val (.long i2), .second, .val (.int (((i0.toUInt32 >>> ((3 : Int32) &&& 31).toUInt32).toInt32) &&& (3 : Int32))), .val (.ref o140), .unset, .unset] [(.int (0 : Int32))]))
            refine s_ifN B X160 (pc' := 80) at_77 (by decide) rfl ?_
            refine s_iconst B X160 (pc' := 81) (v := (1 : Int32)) at_80 rfl rfl ?_
            refine s_goto B X160 (pc' := 85) at_81 (by decide) (by decide) ?_
            exact r_nar B X160 (t := .boolean) (by simp) rfl at_85 ⟨rfl, N141⟩ (by decide) (by decide)
        · refine s_lloadN B X138 (pc' := 41) at_40 rfl rfl ?_
          refine s_goto B X138 (pc' := 45) at_41 (by decide) (by decide) ?_
          refine s_lstore B X138 (pc' := 47) (Ls' := #[.val (.int i0), .val (.long i1), .second, .val (.long i2), .second, .val (.ref w_RELATIONSHIP), .val (.ref w_RELATIONSHIP), .val (.long i1), .second, .unset, .unset, .unset, .unset]) at_45 rfl rfl ?_
          refine s_iloadN B X138 (pc' := 48) at_47 rfl rfl ?_
          refine s_iconst B X138 (pc' := 49) (v := (3 : Int32)) at_48 rfl rfl ?_
          refine s_iushr B X138 (pc' := 50) (v := ((i0.toUInt32 >>> ((3 : Int32) &&& 31).toUInt32).toInt32)) at_49 rfl rfl ?_
          refine s_iconst B X138 (pc' := 51) (v := (3 : Int32)) at_50 rfl rfl ?_
          refine s_iand B X138 (pc' := 52) (v := (((i0.toUInt32 >>> ((3 : Int32) &&& 31).toUInt32).toInt32) &&& (3 : Int32))) at_51 rfl rfl ?_
          refine s_istore B X138 (pc' := 54) (Ls' := #[.val (.int i0), .val (.long i1), .second, .val (.long i2), .second, .val (.ref w_RELATIONSHIP), .val (.ref w_RELATIONSHIP), .val (.long i1), .second, .val (.int (((i0.toUInt32 >>> ((3 : Int32) &&& 31).toUInt32).toInt32) &&& (3 : Int32))), .unset, .unset, .unset]) at_52 rfl rfl ?_
          refine s_new B X138 (pc' := 57) (n0 := 2) e138 (tw3 hw) (tw4 hw) (tw5 hw) (by decide) (by decide) at_54 rfl (fun T161 h161 o161 g161 X161 e161 E161 A161 D161 => ?_)
          have ge_o161 : Z.heap.size ≤ o161 := g161 ▸ old_le (Old.start Z)
          have O161 := ((Old.start Z)).ext E161
          have F161 := OwnF.ext O161.2 F0
          have D161_kind : Fld Z h161 o161 "com/example/isolation/isolation/EntityKey" "kind" "Lcom/example/isolation/isolation/EntityKind;" .null := D161 (Or.inr (tw13 hw)) (ty := (.object "com/example/isolation/isolation/EntityKind")) (by decide)
          have D161_id : Fld Z h161 o161 "com/example/isolation/isolation/EntityKey" "id" "J" (.long (0 : Int64)) := D161 (Or.inr (tw15 hw)) (ty := .long) (by decide)
          show Go p e below _ (T161.setTop (mkF m 57 #[.val (.int i0), .val (.long i1), .second, .val (.long i2), .second, .val (.ref w_RELATIONSHIP), .val (.ref w_RELATIONSHIP), .val (.long i1), .second, .val (.int (((i0.toUInt32 >>> ((3 : Int32) &&& 31).toUInt32).toInt32) &&& (3 : Int32))), .unset, .unset, .unset] [(.ref o161)]))
          refine s_dup B X161 (pc' := 58) at_57 rfl rfl ?_
          refine s_aload B X161 (pc' := 60) at_58 rfl rfl rfl ?_
          refine s_lloadN B X161 (pc' := 61) at_60 rfl rfl ?_
          refine c_init B X161 (y := mn4) (pc' := 64) (argsL := [(.ref w_RELATIONSHIP), (.long i1)]) (under := [(.ref o161)]) (W := 1) e161 rfl (tw6 hw) (tw7 hw) (tw8 hw) (tw5 hw) (by decide) (mm1_9 l Z a0 hw o161 i1 w_NODE w_RELATIONSHIP h161 F0 O161 ge_o161 A161 D161_id D161_kind ) (lenOf pd_2 rfl) rfl rfl (by decide) (by decide) (by decide) (by decide) rfl at_61 rfl (fun v162 T162 L162 X162 hQ162 => ?_)
          obtain ⟨rfl, Nq162, Kq162, u162_0, u162_1⟩ := hQ162
          obtain ⟨h162, e162⟩ : ∃ z, T162.heap = z := ⟨_, rfl⟩
          rw [e162] at Kq162 u162_0 u162_1
          have N162 := Fr.app (Fr.nil _) Nq162
          have O162 := (O161).keep Kq162 (allS ge_o161 all0)
          have F162 := OwnF.ext O162.2 F0
          show Go p e below _ (T162.setTop (mkF m 64 #[.val (.int i0), .val (.long i1), .second, .val (.long i2), .second, .val (.ref w_RELATIONSHIP), .val (.ref w_RELATIONSHIP), .val (.long i1), .second, .val (.int (((i0.toUInt32 >>> ((3 : Int32) &&& 31).toUInt32).toInt32) &&& (3 : Int32))), .unset, .unset, .unset] [(.ref o161)]))
          refine s_astore B X162 (pc' := 66) (Ls' := #[.val (.int i0), .val (.long i1), .second, .val (.long i2), .second, .val (.ref w_RELATIONSHIP), .val (.ref w_RELATIONSHIP), .val (.long i1), .second, .val (.int (((i0.toUInt32 >>> ((3 : Int32) &&& 31).toUInt32).toInt32) &&& (3 : Int32))), .val (.ref o161), .unset, .unset]) at_64 rfl rfl rfl ?_
          refine s_iload B X162 (pc' := 68) at_66 rfl rfl ?_
          refine b_if_ne B X162 (py := 86) (pn := 71) at_68 (by decide) (by decide) rfl (fun hc68_163 => ?_) (fun hc68_163 => ?_)
          · refine s_iload B X162 (pc' := 88) at_86 rfl rfl ?_
            refine s_iconst B X162 (pc' := 89) (v := (1 : Int32)) at_88 rfl rfl ?_
            refine b_icmp_ne B X162 (py := 114) (pn := 92) at_89 (by decide) (by decide) rfl (fun hc89_164 => ?_) (fun hc89_164 => ?_)
            · refine s_iload B X162 (pc' := 116) at_114 rfl rfl ?_
              refine s_iconst B X162 (pc' := 117) (v := (2 : Int32)) at_116 rfl rfl ?_
              refine b_icmp_ne B X162 (py := 128) (pn := 120) at_117 (by decide) (by decide) rfl (fun hc117_165 => ?_) (fun hc117_165 => ?_)
              · refine s_new B X162 (pc' := 131) (n0 := 2) e162 (tw3 hw) (tw4 hw) (tw5 hw) (by decide) (by decide) at_128 rfl (fun T166 h166 o166 g166 X166 e166 E166 A166 D166 => ?_)
                have f167 := (A161.keep Kq162)
                have ne_o161_o166 : o161 ≠ o166 := Nat.ne_of_lt (g166 ▸ f167.lt)
                have ge_o166 : Z.heap.size ≤ o166 := g166 ▸ old_le O162
                have O166 := (O162).ext E166
                have F166 := OwnF.ext O166.2 F0
                have D166_kind : Fld Z h166 o166 "com/example/isolation/isolation/EntityKey" "kind" "Lcom/example/isolation/isolation/EntityKind;" .null := D166 (Or.inr (tw13 hw)) (ty := (.object "com/example/isolation/isolation/EntityKind")) (by decide)
                have D166_id : Fld Z h166 o166 "com/example/isolation/isolation/EntityKey" "id" "J" (.long (0 : Int64)) := D166 (Or.inr (tw15 hw)) (ty := .long) (by decide)
                show Go p e below _ (T166.setTop (mkF m 131 #[.val (.int i0), .val (.long i1), .second, .val (.long i2), .second, .val (.ref w_RELATIONSHIP), .val (.ref w_RELATIONSHIP), .val (.long i1), .second, .val (.int (((i0.toUInt32 >>> ((3 : Int32) &&& 31).toUInt32).toInt32) &&& (3 : Int32))), .val (.ref o161), .unset, .unset] [(.ref o166)]))
                refine s_dup B X166 (pc' := 132) at_131 rfl rfl ?_
                refine s_aload B X166 (pc' := 134) at_132 rfl rfl rfl ?_
                refine s_lload B X166 (pc' := 136) at_134 rfl rfl ?_
                refine c_init B X166 (y := mn4) (pc' := 139) (argsL := [(.ref w_RELATIONSHIP), (.long i1)]) (under := [(.ref o166)]) (W := 1) e166 rfl (tw6 hw) (tw7 hw) (tw8 hw) (tw5 hw) (by decide) (mm1_9 l Z a0 hw o166 i1 w_NODE w_RELATIONSHIP h166 F0 O166 ge_o166 A166 D166_id D166_kind ) (lenOf pd_2 rfl) rfl rfl (by decide) (by decide) (by decide) (by decide) rfl at_136 rfl (fun v168 T168 L168 X168 hQ168 => ?_)
                obtain ⟨rfl, Nq168, Kq168, u168_0, u168_1⟩ := hQ168
                obtain ⟨h168, e168⟩ : ∃ z, T168.heap = z := ⟨_, rfl⟩
                rw [e168] at Kq168 u168_0 u168_1
                have N168 := Fr.app N162 Nq168
                have O168 := (O166).keep Kq168 (allS ge_o166 all0)
                have F168 := OwnF.ext O168.2 F0
                show Go p e below _ (T168.setTop (mkF m 139 #[.val (.int i0), .val (.long i1), .second, .val (.long i2), .second, .val (.ref w_RELATIONSHIP), .val (.ref w_RELATIONSHIP), .val (.long i1), .second, .val (.int (((i0.toUInt32 >>> ((3 : Int32) &&& 31).toUInt32).toInt32) &&& (3 : Int32))), .val (.ref o161), .unset, .unset] [(.ref o166)]))
                refine s_astore B X168 (pc' := 141) (Ls' := #[.val (.int i0), .val (.long i1), .second, .val (.long i2), .second, .val (.ref w_RELATIONSHIP), .val (.ref w_RELATIONSHIP), .val (.long i1), .second, .val (.int (((i0.toUInt32 >>> ((3 : Int32) &&& 31).toUInt32).toInt32) &&& (3 : Int32))), .val (.ref o161), .val (.ref o166), .unset]) at_139 rfl rfl rfl ?_
                refine s_aload B X168 (pc' := 143) at_141 rfl rfl rfl ?_
                refine s_aload B X168 (pc' := 145) at_143 rfl rfl rfl ?_
                refine b_acmp_ne B X168 (py := 159) (pn := 148) at_145 (by decide) (by decide) rfl (fun q => absurd rfl q) (fun _ => ?_)
                refine s_lloadN B X168 (pc' := 149) at_148 rfl rfl ?_
                refine s_lload B X168 (pc' := 151) at_149 rfl rfl ?_
                refine b_lcmp_ne B X168 (py := 159) (pn := 155) at_151 rfl at_152 (by decide) (by decide) rfl (fun q => absurd rfl q) (fun _ => ?_)
                refine s_iconst B X168 (pc' := 156) (v := (1 : Int32)) at_155 rfl rfl ?_
                refine s_goto B X168 (pc' := 160) at_156 (by decide) (by decide) ?_
                refine s_istore B X168 (pc' := 162) (Ls' := #[.val (.int i0), .val (.long i1), .second, .val (.long i2), .second, .val (.ref w_RELATIONSHIP), .val (.ref w_RELATIONSHIP), .val (.long i1), .second, .val (.int (((i0.toUInt32 >>> ((3 : Int32) &&& 31).toUInt32).toInt32) &&& (3 : Int32))), .val (.ref o161), .val (.ref o166), .val (.int (1 : Int32))]) at_160 rfl rfl ?_
                refine s_aload B X168 (pc' := 164) at_162 rfl rfl rfl ?_
                refine s_aload B X168 (pc' := 166) at_164 rfl rfl rfl ?_
                have f169 := ((f167.ext E166).keep Kq168)
                have f170 := ((u162_0.ext E166).keep Kq168 (ninS ne_o161_o166 nin0))
                have f171 := ((u162_1.ext E166).keep Kq168 (ninS ne_o161_o166 nin0))
                have f172 := (A166.keep Kq168)
                refine p_virtual B X168 (y := mn0) (pc' := 169) (argsL := [(.ref o166)]) (under := []) (W := 0) e168 (tw16 hw) (tw17 hw) (tw19 hw) (tw18 hw) (tw20 hw) (tw5 hw) (by decide) (mm3_20 l Z a0 hw o161 o166 i1 w_NODE w_RELATIONSHIP h168 F0 O168 ge_o161 f169 f170 f171 ge_o166 f172 u168_0 u168_1 ne_o161_o166 ) f169 (lenOf pd_3 rfl) rfl rfl (by decide) (by decide) rfl rfl (by decide) (by decide) rfl at_166 rfl (fun T173 X173 e173 => ?_)
                show Go p e below _ (T173.setTop (mkF m 169 #[.val (.int i0), .val (.long i1), .second, .val (.long i2), .second, .val (.ref w_RELATIONSHIP), .val (.ref w_RELATIONSHIP), .val (.long i1), .second, .val (.int (((i0.toUInt32 >>> ((3 : Int32) &&& 31).toUInt32).toInt32) &&& (3 : Int32))), .val (.ref o161), .val (.ref o166), .val (.int (1 : Int32))] [(.int (1 : Int32))]))
                refine s_iload B X173 (pc' := 171) at_169 rfl rfl ?_
                refine s_icmpN B X173 (pc' := 174) at_171 (by decide) rfl ?_
                refine s_aload B X173 (pc' := 176) at_174 rfl rfl rfl ?_
                refine s_aload B X173 (pc' := 178) at_176 rfl rfl rfl ?_
                refine p_virtual B X173 (y := mn0) (pc' := 181) (argsL := [(.ref o161)]) (under := []) (W := 0) e173 (tw16 hw) (tw17 hw) (tw19 hw) (tw18 hw) (tw20 hw) (tw5 hw) (by decide) (mm3_20 l Z a0 hw o166 o161 i1 w_NODE w_RELATIONSHIP h168 F0 O168 ge_o166 f172 u168_0 u168_1 ge_o161 f169 f170 f171 (Ne.symm ne_o161_o166) ) f172 (lenOf pd_3 rfl) rfl rfl (by decide) (by decide) rfl rfl (by decide) (by decide) rfl at_178 rfl (fun T174 X174 e174 => ?_)
                show Go p e below _ (T174.setTop (mkF m 181 #[.val (.int i0), .val (.long i1), .second, .val (.long i2), .second, .val (.ref w_RELATIONSHIP), .val (.ref w_RELATIONSHIP), .val (.long i1), .second, .val (.int (((i0.toUInt32 >>> ((3 : Int32) &&& 31).toUInt32).toInt32) &&& (3 : Int32))), .val (.ref o161), .val (.ref o166), .val (.int (1 : Int32))] [(.int (1 : Int32))]))
                refine s_iload B X174 (pc' := 183) at_181 rfl rfl ?_
                refine s_icmpN B X174 (pc' := 186) at_183 (by decide) rfl ?_
                refine s_iconst B X174 (pc' := 187) (v := (1 : Int32)) at_186 rfl rfl ?_
                refine s_goto B X174 (pc' := 191) at_187 (by decide) (by decide) ?_
                exact r_nar B X174 (t := .boolean) (by simp) rfl at_191 ⟨rfl, N168⟩ (by decide) (by decide)
              · refine s_aload B X162 (pc' := 122) at_120 rfl rfl rfl ?_
                refine s_aload B X162 (pc' := 124) at_122 rfl rfl rfl ?_
                have f175 := (A161.keep Kq162)
                refine p_virtual B X162 (y := mn0) (pc' := 127) (argsL := [(.ref o161)]) (under := []) (W := 0) e162 (tw16 hw) (tw17 hw) (tw19 hw) (tw18 hw) (tw20 hw) (tw5 hw) (by decide) (mm3_16 l Z a0 hw o161 i1 w_NODE w_RELATIONSHIP h162 F0 O162 ge_o161 f175 u162_0 u162_1 ) f175 (lenOf pd_3 rfl) rfl rfl (by decide) (by decide) rfl rfl (by decide) (by decide) rfl at_124 rfl (fun T176 X176 e176 => ?_)
                show Go p e below _ (T176.setTop (mkF m 127 #[.val (.int i0), .val (.long i1), .second, .val (.long i2), .second, .val (.ref w_RELATIONSHIP), .val (.ref w_RELATIONSHIP), .val (.long i1), .second, .val (.int (((i0.toUInt32 >>> ((3 : Int32) &&& 31).toUInt32).toInt32) &&& (3 : Int32))), .val (.ref o161), .unset, .unset] [(.int (1 : Int32))]))
                exact r_nar B X176 (t := .boolean) (by simp) rfl at_127 ⟨rfl, N162⟩ (by decide) (by decide)
            · refine s_lloadN B X162 (pc' := 93) at_92 rfl rfl ?_
              refine c_static B X162 (y := mn3) (pc' := 96) (argsL := [(.long i1)]) (under := []) (W := 0) e162 (tw25 hw) (tw26 hw) (tw28 hw) (tw27 hw) (by decide) (rm_valueOf l Z a0 hw i1 w_NODE w_RELATIONSHIP h162 F0 O162) (lenOf pd_4 rfl) rfl rfl (by decide) (by decide) (by decide) (by decide) rfl at_93 rfl (fun v177 T177 L177 X177 hQ => ?_)
              obtain ⟨qL, rfl, Nq, Kq, EL⟩ := hQ
              obtain ⟨h177, e177⟩ : ∃ z, T177.heap = z := ⟨_, rfl⟩
              rw [e177] at Kq EL
              have N177 := Fr.app N162 Nq
              have O177 := (O162).keep Kq all0
              have F177 := OwnF.ext O177.2 F0
              show Go p e below _ (T177.setTop (mkF m 96 #[.val (.int i0), .val (.long i1), .second, .val (.long i2), .second, .val (.ref w_RELATIONSHIP), .val (.ref w_RELATIONSHIP), .val (.long i1), .second, .val (.int (((i0.toUInt32 >>> ((3 : Int32) &&& 31).toUInt32).toInt32) &&& (3 : Int32))), .val (.ref o161), .unset, .unset] [(.ref qL)]))
              refine s_astore B X177 (pc' := 98) (Ls' := #[.val (.int i0), .val (.long i1), .second, .val (.long i2), .second, .val (.ref w_RELATIONSHIP), .val (.ref w_RELATIONSHIP), .val (.long i1), .second, .val (.int (((i0.toUInt32 >>> ((3 : Int32) &&& 31).toUInt32).toInt32) &&& (3 : Int32))), .val (.ref o161), .val (.ref qL), .unset]) at_96 rfl rfl rfl ?_
              refine s_aload B X177 (pc' := 100) at_98 rfl rfl rfl ?_
              refine s_aload B X177 (pc' := 102) at_100 rfl rfl rfl ?_
              have f179 := ((A161.keep Kq162).keep Kq)
              refine p_virtual B X177 (y := mn0) (pc' := 105) (argsL := [(.ref qL)]) (under := []) (W := 0) e177 (tw16 hw) (tw17 hw) (tw19 hw) (tw18 hw) (tw20 hw) (tw5 hw) (by decide) (rm_eqL l Z a0 hw o161 qL h177 EL) f179 (lenOf pd_3 rfl) rfl rfl (by decide) (by decide) rfl rfl (by decide) (by decide) rfl at_102 rfl (fun T178 X178 e178 => ?_)
              show Go p e below _ (T178.setTop (mkF m 105 #[.val (.int i0), .val (.long i1), .second, .val (.long i2), .second, .val (.ref w_RELATIONSHIP), .val (.ref w_RELATIONSHIP), .val (.long i1), .second, .val (.int (((i0.toUInt32 >>> ((3 : Int32) &&& 31).toUInt32).toInt32) &&& (3 : Int32))), .val (.ref o161), .val (.ref qL), .unset] [(.int (0 : Int32))]))
              refine s_ifN B X178 (pc' := 108) at_105 (by decide) rfl ?_
              refine s_iconst B X178 (pc' := 109) (v := (1 : Int32)) at_108 rfl rfl ?_
              refine s_goto B X178 (pc' := 113) at_109 (by decide) (by decide) ?_
              exact r_nar B X178 (t := .boolean) (by simp) rfl at_113 ⟨rfl, N177⟩ (by decide) (by decide)
          · refine s_aload B X162 (pc' := 73) at_71 rfl rfl rfl ?_
            refine s_aconst_null B X162 (pc' := 74) at_73 rfl ?_
            have f180 := (A161.keep Kq162)
            refine p_virtual B X162 (y := mn0) (pc' := 77) (argsL := [.null]) (under := []) (W := 0) e162 (tw16 hw) (tw17 hw) (tw19 hw) (tw18 hw) (tw20 hw) (tw5 hw) (by decide) (mm3_17 l Z a0 hw o161 i1 w_NODE w_RELATIONSHIP h162 F0 O162 ge_o161 f180 u162_0 u162_1 ) f180 (lenOf pd_3 rfl) rfl rfl (by decide) (by decide) rfl rfl (by decide) (by decide) rfl at_74 rfl (fun T181 X181 e181 => ?_)
            show Go p e below _ (T181.setTop (mkF m 77 #[.val (.int i0), .val (.long i1), .second, .val (.long i2), .second, .val (.ref w_RELATIONSHIP), .val (.ref w_RELATIONSHIP), .val (.long i1), .second, .val (.int (((i0.toUInt32 >>> ((3 : Int32) &&& 31).toUInt32).toInt32) &&& (3 : Int32))), .val (.ref o161), .unset, .unset] [(.int (0 : Int32))]))
            refine s_ifN B X181 (pc' := 80) at_77 (by decide) rfl ?_
            refine s_iconst B X181 (pc' := 81) (v := (1 : Int32)) at_80 rfl rfl ?_
            refine s_goto B X181 (pc' := 85) at_81 (by decide) (by decide) ?_
            exact r_nar B X181 (t := .boolean) (by simp) rfl at_85 ⟨rfl, N162⟩ (by decide) (by decide)
  · refine s_iloadN B X0 (pc' := 1) at_0 rfl rfl ?_
    refine s_iconst B X0 (pc' := 2) (v := (1 : Int32)) at_1 rfl rfl ?_
    refine s_iand B X0 (pc' := 3) (v := (i0 &&& (1 : Int32))) at_2 rfl rfl ?_
    refine b_if_eq B X0 (py := 12) (pn := 6) at_3 (by decide) (by decide) rfl (fun hc3_182 => ?_) (fun hc3_182 => ?_)
    · refine s_getS B X0 (pc' := 15) e0 (tw0 hw) Via.refl S_NODE at_12 rfl (fun T183 X183 e183 => ?_)
      refine s_astore B X183 (pc' := 17) (Ls' := #[.val (.int i0), .val (.long i1), .second, .val (.long i2), .second, .val (.ref w_NODE), .unset, .unset, .unset, .unset, .unset, .unset, .unset]) at_15 rfl rfl rfl ?_
      refine s_iloadN B X183 (pc' := 18) at_17 rfl rfl ?_
      refine s_iconst B X183 (pc' := 19) (v := (2 : Int32)) at_18 rfl rfl ?_
      refine s_iand B X183 (pc' := 20) (v := (i0 &&& (2 : Int32))) at_19 rfl rfl ?_
      refine b_if_eq B X183 (py := 29) (pn := 23) at_20 (by decide) (by decide) rfl (fun hc20_184 => ?_) (fun hc20_184 => ?_)
      · refine s_getS B X183 (pc' := 32) e183 (tw0 hw) Via.refl S_NODE at_29 rfl (fun T185 X185 e185 => ?_)
        refine s_astore B X185 (pc' := 34) (Ls' := #[.val (.int i0), .val (.long i1), .second, .val (.long i2), .second, .val (.ref w_NODE), .val (.ref w_NODE), .unset, .unset, .unset, .unset, .unset, .unset]) at_32 rfl rfl rfl ?_
        refine s_iloadN B X185 (pc' := 35) at_34 rfl rfl ?_
        refine s_iconst B X185 (pc' := 36) (v := (4 : Int32)) at_35 rfl rfl ?_
        refine s_iand B X185 (pc' := 37) (v := (i0 &&& (4 : Int32))) at_36 rfl rfl ?_
        refine b_if_eq B X185 (py := 44) (pn := 40) at_37 (by decide) (by decide) rfl (fun hc37_186 => ?_) (fun hc37_186 => ?_)
        · refine s_lloadN B X185 (pc' := 45) at_44 rfl rfl ?_
          refine s_lstore B X185 (pc' := 47) (Ls' := #[.val (.int i0), .val (.long i1), .second, .val (.long i2), .second, .val (.ref w_NODE), .val (.ref w_NODE), .val (.long i2), .second, .unset, .unset, .unset, .unset]) at_45 rfl rfl ?_
          refine s_iloadN B X185 (pc' := 48) at_47 rfl rfl ?_
          refine s_iconst B X185 (pc' := 49) (v := (3 : Int32)) at_48 rfl rfl ?_
          refine s_iushr B X185 (pc' := 50) (v := ((i0.toUInt32 >>> ((3 : Int32) &&& 31).toUInt32).toInt32)) at_49 rfl rfl ?_
          refine s_iconst B X185 (pc' := 51) (v := (3 : Int32)) at_50 rfl rfl ?_
          refine s_iand B X185 (pc' := 52) (v := (((i0.toUInt32 >>> ((3 : Int32) &&& 31).toUInt32).toInt32) &&& (3 : Int32))) at_51 rfl rfl ?_
          refine s_istore B X185 (pc' := 54) (Ls' := #[.val (.int i0), .val (.long i1), .second, .val (.long i2), .second, .val (.ref w_NODE), .val (.ref w_NODE), .val (.long i2), .second, .val (.int (((i0.toUInt32 >>> ((3 : Int32) &&& 31).toUInt32).toInt32) &&& (3 : Int32))), .unset, .unset, .unset]) at_52 rfl rfl ?_
          refine s_new B X185 (pc' := 57) (n0 := 2) e185 (tw3 hw) (tw4 hw) (tw5 hw) (by decide) (by decide) at_54 rfl (fun T187 h187 o187 g187 X187 e187 E187 A187 D187 => ?_)
          have ge_o187 : Z.heap.size ≤ o187 := g187 ▸ old_le (Old.start Z)
          have O187 := ((Old.start Z)).ext E187
          have F187 := OwnF.ext O187.2 F0
          have D187_kind : Fld Z h187 o187 "com/example/isolation/isolation/EntityKey" "kind" "Lcom/example/isolation/isolation/EntityKind;" .null := D187 (Or.inr (tw13 hw)) (ty := (.object "com/example/isolation/isolation/EntityKind")) (by decide)
          have D187_id : Fld Z h187 o187 "com/example/isolation/isolation/EntityKey" "id" "J" (.long (0 : Int64)) := D187 (Or.inr (tw15 hw)) (ty := .long) (by decide)
          show Go p e below _ (T187.setTop (mkF m 57 #[.val (.int i0), .val (.long i1), .second, .val (.long i2), .second, .val (.ref w_NODE), .val (.ref w_NODE), .val (.long i2), .second, .val (.int (((i0.toUInt32 >>> ((3 : Int32) &&& 31).toUInt32).toInt32) &&& (3 : Int32))), .unset, .unset, .unset] [(.ref o187)]))
          refine s_dup B X187 (pc' := 58) at_57 rfl rfl ?_
          refine s_aload B X187 (pc' := 60) at_58 rfl rfl rfl ?_
          refine s_lloadN B X187 (pc' := 61) at_60 rfl rfl ?_
          refine c_init B X187 (y := mn4) (pc' := 64) (argsL := [(.ref w_NODE), (.long i1)]) (under := [(.ref o187)]) (W := 1) e187 rfl (tw6 hw) (tw7 hw) (tw8 hw) (tw5 hw) (by decide) (mm1_3 l Z a0 hw o187 i1 w_NODE w_RELATIONSHIP h187 F0 O187 ge_o187 A187 D187_id D187_kind ) (lenOf pd_2 rfl) rfl rfl (by decide) (by decide) (by decide) (by decide) rfl at_61 rfl (fun v188 T188 L188 X188 hQ188 => ?_)
          obtain ⟨rfl, Nq188, Kq188, u188_0, u188_1⟩ := hQ188
          obtain ⟨h188, e188⟩ : ∃ z, T188.heap = z := ⟨_, rfl⟩
          rw [e188] at Kq188 u188_0 u188_1
          have N188 := Fr.app (Fr.nil _) Nq188
          have O188 := (O187).keep Kq188 (allS ge_o187 all0)
          have F188 := OwnF.ext O188.2 F0
          show Go p e below _ (T188.setTop (mkF m 64 #[.val (.int i0), .val (.long i1), .second, .val (.long i2), .second, .val (.ref w_NODE), .val (.ref w_NODE), .val (.long i2), .second, .val (.int (((i0.toUInt32 >>> ((3 : Int32) &&& 31).toUInt32).toInt32) &&& (3 : Int32))), .unset, .unset, .unset] [(.ref o187)]))
          refine s_astore B X188 (pc' := 66) (Ls' := #[.val (.int i0), .val (.long i1), .second, .val (.long i2), .second, .val (.ref w_NODE), .val (.ref w_NODE), .val (.long i2), .second, .val (.int (((i0.toUInt32 >>> ((3 : Int32) &&& 31).toUInt32).toInt32) &&& (3 : Int32))), .val (.ref o187), .unset, .unset]) at_64 rfl rfl rfl ?_
          refine s_iload B X188 (pc' := 68) at_66 rfl rfl ?_
          refine b_if_ne B X188 (py := 86) (pn := 71) at_68 (by decide) (by decide) rfl (fun hc68_189 => ?_) (fun hc68_189 => ?_)
          · refine s_iload B X188 (pc' := 88) at_86 rfl rfl ?_
            refine s_iconst B X188 (pc' := 89) (v := (1 : Int32)) at_88 rfl rfl ?_
            refine b_icmp_ne B X188 (py := 114) (pn := 92) at_89 (by decide) (by decide) rfl (fun hc89_190 => ?_) (fun hc89_190 => ?_)
            · refine s_iload B X188 (pc' := 116) at_114 rfl rfl ?_
              refine s_iconst B X188 (pc' := 117) (v := (2 : Int32)) at_116 rfl rfl ?_
              refine b_icmp_ne B X188 (py := 128) (pn := 120) at_117 (by decide) (by decide) rfl (fun hc117_191 => ?_) (fun hc117_191 => ?_)
              · refine s_new B X188 (pc' := 131) (n0 := 2) e188 (tw3 hw) (tw4 hw) (tw5 hw) (by decide) (by decide) at_128 rfl (fun T192 h192 o192 g192 X192 e192 E192 A192 D192 => ?_)
                have f193 := (A187.keep Kq188)
                have ne_o187_o192 : o187 ≠ o192 := Nat.ne_of_lt (g192 ▸ f193.lt)
                have ge_o192 : Z.heap.size ≤ o192 := g192 ▸ old_le O188
                have O192 := (O188).ext E192
                have F192 := OwnF.ext O192.2 F0
                have D192_kind : Fld Z h192 o192 "com/example/isolation/isolation/EntityKey" "kind" "Lcom/example/isolation/isolation/EntityKind;" .null := D192 (Or.inr (tw13 hw)) (ty := (.object "com/example/isolation/isolation/EntityKind")) (by decide)
                have D192_id : Fld Z h192 o192 "com/example/isolation/isolation/EntityKey" "id" "J" (.long (0 : Int64)) := D192 (Or.inr (tw15 hw)) (ty := .long) (by decide)
                show Go p e below _ (T192.setTop (mkF m 131 #[.val (.int i0), .val (.long i1), .second, .val (.long i2), .second, .val (.ref w_NODE), .val (.ref w_NODE), .val (.long i2), .second, .val (.int (((i0.toUInt32 >>> ((3 : Int32) &&& 31).toUInt32).toInt32) &&& (3 : Int32))), .val (.ref o187), .unset, .unset] [(.ref o192)]))
                refine s_dup B X192 (pc' := 132) at_131 rfl rfl ?_
                refine s_aload B X192 (pc' := 134) at_132 rfl rfl rfl ?_
                refine s_lload B X192 (pc' := 136) at_134 rfl rfl ?_
                refine c_init B X192 (y := mn4) (pc' := 139) (argsL := [(.ref w_NODE), (.long i2)]) (under := [(.ref o192)]) (W := 1) e192 rfl (tw6 hw) (tw7 hw) (tw8 hw) (tw5 hw) (by decide) (mm1_3 l Z a0 hw o192 i2 w_NODE w_RELATIONSHIP h192 F0 O192 ge_o192 A192 D192_id D192_kind ) (lenOf pd_2 rfl) rfl rfl (by decide) (by decide) (by decide) (by decide) rfl at_136 rfl (fun v194 T194 L194 X194 hQ194 => ?_)
                obtain ⟨rfl, Nq194, Kq194, u194_0, u194_1⟩ := hQ194
                obtain ⟨h194, e194⟩ : ∃ z, T194.heap = z := ⟨_, rfl⟩
                rw [e194] at Kq194 u194_0 u194_1
                have N194 := Fr.app N188 Nq194
                have O194 := (O192).keep Kq194 (allS ge_o192 all0)
                have F194 := OwnF.ext O194.2 F0
                show Go p e below _ (T194.setTop (mkF m 139 #[.val (.int i0), .val (.long i1), .second, .val (.long i2), .second, .val (.ref w_NODE), .val (.ref w_NODE), .val (.long i2), .second, .val (.int (((i0.toUInt32 >>> ((3 : Int32) &&& 31).toUInt32).toInt32) &&& (3 : Int32))), .val (.ref o187), .unset, .unset] [(.ref o192)]))
                refine s_astore B X194 (pc' := 141) (Ls' := #[.val (.int i0), .val (.long i1), .second, .val (.long i2), .second, .val (.ref w_NODE), .val (.ref w_NODE), .val (.long i2), .second, .val (.int (((i0.toUInt32 >>> ((3 : Int32) &&& 31).toUInt32).toInt32) &&& (3 : Int32))), .val (.ref o187), .val (.ref o192), .unset]) at_139 rfl rfl rfl ?_
                refine s_aload B X194 (pc' := 143) at_141 rfl rfl rfl ?_
                refine s_aload B X194 (pc' := 145) at_143 rfl rfl rfl ?_
                refine b_acmp_ne B X194 (py := 159) (pn := 148) at_145 (by decide) (by decide) rfl (fun q => absurd rfl q) (fun _ => ?_)
                refine s_lloadN B X194 (pc' := 149) at_148 rfl rfl ?_
                refine s_lload B X194 (pc' := 151) at_149 rfl rfl ?_
                refine b_lcmp_ne B X194 (py := 159) (pn := 155) at_151 rfl at_152 (by decide) (by decide) rfl (fun _ => ?_) (fun q => absurd q hE)
                refine s_iconst B X194 (pc' := 160) (v := (0 : Int32)) at_159 rfl rfl ?_
                refine s_istore B X194 (pc' := 162) (Ls' := #[.val (.int i0), .val (.long i1), .second, .val (.long i2), .second, .val (.ref w_NODE), .val (.ref w_NODE), .val (.long i2), .second, .val (.int (((i0.toUInt32 >>> ((3 : Int32) &&& 31).toUInt32).toInt32) &&& (3 : Int32))), .val (.ref o187), .val (.ref o192), .val (.int (0 : Int32))]) at_160 rfl rfl ?_
                refine s_aload B X194 (pc' := 164) at_162 rfl rfl rfl ?_
                refine s_aload B X194 (pc' := 166) at_164 rfl rfl rfl ?_
                have f195 := ((f193.ext E192).keep Kq194)
                have f196 := ((u188_0.ext E192).keep Kq194 (ninS ne_o187_o192 nin0))
                have f197 := ((u188_1.ext E192).keep Kq194 (ninS ne_o187_o192 nin0))
                have f198 := (A192.keep Kq194)
                refine p_virtual B X194 (y := mn0) (pc' := 169) (argsL := [(.ref o192)]) (under := []) (W := 0) e194 (tw16 hw) (tw17 hw) (tw19 hw) (tw18 hw) (tw20 hw) (tw5 hw) (by decide) (mm3_21 l Z a0 hw o187 o192 i1 i2 w_NODE w_RELATIONSHIP h194 F0 O194 ge_o187 f195 f196 f197 ge_o192 f198 u194_0 u194_1 ne_o187_o192 hE) f195 (lenOf pd_3 rfl) rfl rfl (by decide) (by decide) rfl rfl (by decide) (by decide) rfl at_166 rfl (fun T199 X199 e199 => ?_)
                show Go p e below _ (T199.setTop (mkF m 169 #[.val (.int i0), .val (.long i1), .second, .val (.long i2), .second, .val (.ref w_NODE), .val (.ref w_NODE), .val (.long i2), .second, .val (.int (((i0.toUInt32 >>> ((3 : Int32) &&& 31).toUInt32).toInt32) &&& (3 : Int32))), .val (.ref o187), .val (.ref o192), .val (.int (0 : Int32))] [(.int (0 : Int32))]))
                refine s_iload B X199 (pc' := 171) at_169 rfl rfl ?_
                refine s_icmpN B X199 (pc' := 174) at_171 (by decide) rfl ?_
                refine s_aload B X199 (pc' := 176) at_174 rfl rfl rfl ?_
                refine s_aload B X199 (pc' := 178) at_176 rfl rfl rfl ?_
                refine p_virtual B X199 (y := mn0) (pc' := 181) (argsL := [(.ref o187)]) (under := []) (W := 0) e199 (tw16 hw) (tw17 hw) (tw19 hw) (tw18 hw) (tw20 hw) (tw5 hw) (by decide) (mm3_22 l Z a0 hw o192 o187 i2 i1 w_NODE w_RELATIONSHIP h194 F0 O194 ge_o192 f198 u194_0 u194_1 ge_o187 f195 f196 f197 (Ne.symm ne_o187_o192) hE) f198 (lenOf pd_3 rfl) rfl rfl (by decide) (by decide) rfl rfl (by decide) (by decide) rfl at_178 rfl (fun T200 X200 e200 => ?_)
                show Go p e below _ (T200.setTop (mkF m 181 #[.val (.int i0), .val (.long i1), .second, .val (.long i2), .second, .val (.ref w_NODE), .val (.ref w_NODE), .val (.long i2), .second, .val (.int (((i0.toUInt32 >>> ((3 : Int32) &&& 31).toUInt32).toInt32) &&& (3 : Int32))), .val (.ref o187), .val (.ref o192), .val (.int (0 : Int32))] [(.int (0 : Int32))]))
                refine s_iload B X200 (pc' := 183) at_181 rfl rfl ?_
                refine s_icmpN B X200 (pc' := 186) at_183 (by decide) rfl ?_
                refine s_iconst B X200 (pc' := 187) (v := (1 : Int32)) at_186 rfl rfl ?_
                refine s_goto B X200 (pc' := 191) at_187 (by decide) (by decide) ?_
                exact r_nar B X200 (t := .boolean) (by simp) rfl at_191 ⟨rfl, N194⟩ (by decide) (by decide)
              · refine s_aload B X188 (pc' := 122) at_120 rfl rfl rfl ?_
                refine s_aload B X188 (pc' := 124) at_122 rfl rfl rfl ?_
                have f201 := (A187.keep Kq188)
                refine p_virtual B X188 (y := mn0) (pc' := 127) (argsL := [(.ref o187)]) (under := []) (W := 0) e188 (tw16 hw) (tw17 hw) (tw19 hw) (tw18 hw) (tw20 hw) (tw5 hw) (by decide) (mm3_6 l Z a0 hw o187 i1 w_NODE w_RELATIONSHIP h188 F0 O188 ge_o187 f201 u188_0 u188_1 ) f201 (lenOf pd_3 rfl) rfl rfl (by decide) (by decide) rfl rfl (by decide) (by decide) rfl at_124 rfl (fun T202 X202 e202 => ?_)
                show Go p e below _ (T202.setTop (mkF m 127 #[.val (.int i0), .val (.long i1), .second, .val (.long i2), .second, .val (.ref w_NODE), .val (.ref w_NODE), .val (.long i2), .second, .val (.int (((i0.toUInt32 >>> ((3 : Int32) &&& 31).toUInt32).toInt32) &&& (3 : Int32))), .val (.ref o187), .unset, .unset] [(.int (1 : Int32))]))
                exact r_nar B X202 (t := .boolean) (by simp) rfl at_127 ⟨rfl, N188⟩ (by decide) (by decide)
            · refine s_lloadN B X188 (pc' := 93) at_92 rfl rfl ?_
              refine c_static B X188 (y := mn3) (pc' := 96) (argsL := [(.long i1)]) (under := []) (W := 0) e188 (tw25 hw) (tw26 hw) (tw28 hw) (tw27 hw) (by decide) (rm_valueOf l Z a0 hw i1 w_NODE w_RELATIONSHIP h188 F0 O188) (lenOf pd_4 rfl) rfl rfl (by decide) (by decide) (by decide) (by decide) rfl at_93 rfl (fun v203 T203 L203 X203 hQ => ?_)
              obtain ⟨qL, rfl, Nq, Kq, EL⟩ := hQ
              obtain ⟨h203, e203⟩ : ∃ z, T203.heap = z := ⟨_, rfl⟩
              rw [e203] at Kq EL
              have N203 := Fr.app N188 Nq
              have O203 := (O188).keep Kq all0
              have F203 := OwnF.ext O203.2 F0
              show Go p e below _ (T203.setTop (mkF m 96 #[.val (.int i0), .val (.long i1), .second, .val (.long i2), .second, .val (.ref w_NODE), .val (.ref w_NODE), .val (.long i2), .second, .val (.int (((i0.toUInt32 >>> ((3 : Int32) &&& 31).toUInt32).toInt32) &&& (3 : Int32))), .val (.ref o187), .unset, .unset] [(.ref qL)]))
              refine s_astore B X203 (pc' := 98) (Ls' := #[.val (.int i0), .val (.long i1), .second, .val (.long i2), .second, .val (.ref w_NODE), .val (.ref w_NODE), .val (.long i2), .second, .val (.int (((i0.toUInt32 >>> ((3 : Int32) &&& 31).toUInt32).toInt32) &&& (3 : Int32))), .val (.ref o187), .val (.ref qL), .unset]) at_96 rfl rfl rfl ?_
              refine s_aload B X203 (pc' := 100) at_98 rfl rfl rfl ?_
              refine s_aload B X203 (pc' := 102) at_100 rfl rfl rfl ?_
              have f205 := ((A187.keep Kq188).keep Kq)
              refine p_virtual B X203 (y := mn0) (pc' := 105) (argsL := [(.ref qL)]) (under := []) (W := 0) e203 (tw16 hw) (tw17 hw) (tw19 hw) (tw18 hw) (tw20 hw) (tw5 hw) (by decide) (rm_eqL l Z a0 hw o187 qL h203 EL) f205 (lenOf pd_3 rfl) rfl rfl (by decide) (by decide) rfl rfl (by decide) (by decide) rfl at_102 rfl (fun T204 X204 e204 => ?_)
              show Go p e below _ (T204.setTop (mkF m 105 #[.val (.int i0), .val (.long i1), .second, .val (.long i2), .second, .val (.ref w_NODE), .val (.ref w_NODE), .val (.long i2), .second, .val (.int (((i0.toUInt32 >>> ((3 : Int32) &&& 31).toUInt32).toInt32) &&& (3 : Int32))), .val (.ref o187), .val (.ref qL), .unset] [(.int (0 : Int32))]))
              refine s_ifN B X204 (pc' := 108) at_105 (by decide) rfl ?_
              refine s_iconst B X204 (pc' := 109) (v := (1 : Int32)) at_108 rfl rfl ?_
              refine s_goto B X204 (pc' := 113) at_109 (by decide) (by decide) ?_
              exact r_nar B X204 (t := .boolean) (by simp) rfl at_113 ⟨rfl, N203⟩ (by decide) (by decide)
          · refine s_aload B X188 (pc' := 73) at_71 rfl rfl rfl ?_
            refine s_aconst_null B X188 (pc' := 74) at_73 rfl ?_
            have f206 := (A187.keep Kq188)
            refine p_virtual B X188 (y := mn0) (pc' := 77) (argsL := [.null]) (under := []) (W := 0) e188 (tw16 hw) (tw17 hw) (tw19 hw) (tw18 hw) (tw20 hw) (tw5 hw) (by decide) (mm3_7 l Z a0 hw o187 i1 w_NODE w_RELATIONSHIP h188 F0 O188 ge_o187 f206 u188_0 u188_1 ) f206 (lenOf pd_3 rfl) rfl rfl (by decide) (by decide) rfl rfl (by decide) (by decide) rfl at_74 rfl (fun T207 X207 e207 => ?_)
            show Go p e below _ (T207.setTop (mkF m 77 #[.val (.int i0), .val (.long i1), .second, .val (.long i2), .second, .val (.ref w_NODE), .val (.ref w_NODE), .val (.long i2), .second, .val (.int (((i0.toUInt32 >>> ((3 : Int32) &&& 31).toUInt32).toInt32) &&& (3 : Int32))), .val (.ref o187), .unset, .unset] [(.int (0 : Int32))]))
            refine s_ifN B X207 (pc' := 80) at_77 (by decide) rfl ?_
            refine s_iconst B X207 (pc' := 81) (v := (1 : Int32)) at_80 rfl rfl ?_
            refine s_goto B X207 (pc' := 85) at_81 (by decide) (by decide) ?_
            exact r_nar B X207 (t := .boolean) (by simp) rfl at_85 ⟨rfl, N188⟩ (by decide) (by decide)
        · refine s_lloadN B X185 (pc' := 41) at_40 rfl rfl ?_
          refine s_goto B X185 (pc' := 45) at_41 (by decide) (by decide) ?_
          refine s_lstore B X185 (pc' := 47) (Ls' := #[.val (.int i0), .val (.long i1), .second, .val (.long i2), .second, .val (.ref w_NODE), .val (.ref w_NODE), .val (.long i1), .second, .unset, .unset, .unset, .unset]) at_45 rfl rfl ?_
          refine s_iloadN B X185 (pc' := 48) at_47 rfl rfl ?_
          refine s_iconst B X185 (pc' := 49) (v := (3 : Int32)) at_48 rfl rfl ?_
          refine s_iushr B X185 (pc' := 50) (v := ((i0.toUInt32 >>> ((3 : Int32) &&& 31).toUInt32).toInt32)) at_49 rfl rfl ?_
          refine s_iconst B X185 (pc' := 51) (v := (3 : Int32)) at_50 rfl rfl ?_
          refine s_iand B X185 (pc' := 52) (v := (((i0.toUInt32 >>> ((3 : Int32) &&& 31).toUInt32).toInt32) &&& (3 : Int32))) at_51 rfl rfl ?_
          refine s_istore B X185 (pc' := 54) (Ls' := #[.val (.int i0), .val (.long i1), .second, .val (.long i2), .second, .val (.ref w_NODE), .val (.ref w_NODE), .val (.long i1), .second, .val (.int (((i0.toUInt32 >>> ((3 : Int32) &&& 31).toUInt32).toInt32) &&& (3 : Int32))), .unset, .unset, .unset]) at_52 rfl rfl ?_
          refine s_new B X185 (pc' := 57) (n0 := 2) e185 (tw3 hw) (tw4 hw) (tw5 hw) (by decide) (by decide) at_54 rfl (fun T208 h208 o208 g208 X208 e208 E208 A208 D208 => ?_)
          have ge_o208 : Z.heap.size ≤ o208 := g208 ▸ old_le (Old.start Z)
          have O208 := ((Old.start Z)).ext E208
          have F208 := OwnF.ext O208.2 F0
          have D208_kind : Fld Z h208 o208 "com/example/isolation/isolation/EntityKey" "kind" "Lcom/example/isolation/isolation/EntityKind;" .null := D208 (Or.inr (tw13 hw)) (ty := (.object "com/example/isolation/isolation/EntityKind")) (by decide)
          have D208_id : Fld Z h208 o208 "com/example/isolation/isolation/EntityKey" "id" "J" (.long (0 : Int64)) := D208 (Or.inr (tw15 hw)) (ty := .long) (by decide)
          show Go p e below _ (T208.setTop (mkF m 57 #[.val (.int i0), .val (.long i1), .second, .val (.long i2), .second, .val (.ref w_NODE), .val (.ref w_NODE), .val (.long i1), .second, .val (.int (((i0.toUInt32 >>> ((3 : Int32) &&& 31).toUInt32).toInt32) &&& (3 : Int32))), .unset, .unset, .unset] [(.ref o208)]))
          refine s_dup B X208 (pc' := 58) at_57 rfl rfl ?_
          refine s_aload B X208 (pc' := 60) at_58 rfl rfl rfl ?_
          refine s_lloadN B X208 (pc' := 61) at_60 rfl rfl ?_
          refine c_init B X208 (y := mn4) (pc' := 64) (argsL := [(.ref w_NODE), (.long i1)]) (under := [(.ref o208)]) (W := 1) e208 rfl (tw6 hw) (tw7 hw) (tw8 hw) (tw5 hw) (by decide) (mm1_3 l Z a0 hw o208 i1 w_NODE w_RELATIONSHIP h208 F0 O208 ge_o208 A208 D208_id D208_kind ) (lenOf pd_2 rfl) rfl rfl (by decide) (by decide) (by decide) (by decide) rfl at_61 rfl (fun v209 T209 L209 X209 hQ209 => ?_)
          obtain ⟨rfl, Nq209, Kq209, u209_0, u209_1⟩ := hQ209
          obtain ⟨h209, e209⟩ : ∃ z, T209.heap = z := ⟨_, rfl⟩
          rw [e209] at Kq209 u209_0 u209_1
          have N209 := Fr.app (Fr.nil _) Nq209
          have O209 := (O208).keep Kq209 (allS ge_o208 all0)
          have F209 := OwnF.ext O209.2 F0
          show Go p e below _ (T209.setTop (mkF m 64 #[.val (.int i0), .val (.long i1), .second, .val (.long i2), .second, .val (.ref w_NODE), .val (.ref w_NODE), .val (.long i1), .second, .val (.int (((i0.toUInt32 >>> ((3 : Int32) &&& 31).toUInt32).toInt32) &&& (3 : Int32))), .unset, .unset, .unset] [(.ref o208)]))
          refine s_astore B X209 (pc' := 66) (Ls' := #[.val (.int i0), .val (.long i1), .second, .val (.long i2), .second, .val (.ref w_NODE), .val (.ref w_NODE), .val (.long i1), .second, .val (.int (((i0.toUInt32 >>> ((3 : Int32) &&& 31).toUInt32).toInt32) &&& (3 : Int32))), .val (.ref o208), .unset, .unset]) at_64 rfl rfl rfl ?_
          refine s_iload B X209 (pc' := 68) at_66 rfl rfl ?_
          refine b_if_ne B X209 (py := 86) (pn := 71) at_68 (by decide) (by decide) rfl (fun hc68_210 => ?_) (fun hc68_210 => ?_)
          · refine s_iload B X209 (pc' := 88) at_86 rfl rfl ?_
            refine s_iconst B X209 (pc' := 89) (v := (1 : Int32)) at_88 rfl rfl ?_
            refine b_icmp_ne B X209 (py := 114) (pn := 92) at_89 (by decide) (by decide) rfl (fun hc89_211 => ?_) (fun hc89_211 => ?_)
            · refine s_iload B X209 (pc' := 116) at_114 rfl rfl ?_
              refine s_iconst B X209 (pc' := 117) (v := (2 : Int32)) at_116 rfl rfl ?_
              refine b_icmp_ne B X209 (py := 128) (pn := 120) at_117 (by decide) (by decide) rfl (fun hc117_212 => ?_) (fun hc117_212 => ?_)
              · refine s_new B X209 (pc' := 131) (n0 := 2) e209 (tw3 hw) (tw4 hw) (tw5 hw) (by decide) (by decide) at_128 rfl (fun T213 h213 o213 g213 X213 e213 E213 A213 D213 => ?_)
                have f214 := (A208.keep Kq209)
                have ne_o208_o213 : o208 ≠ o213 := Nat.ne_of_lt (g213 ▸ f214.lt)
                have ge_o213 : Z.heap.size ≤ o213 := g213 ▸ old_le O209
                have O213 := (O209).ext E213
                have F213 := OwnF.ext O213.2 F0
                have D213_kind : Fld Z h213 o213 "com/example/isolation/isolation/EntityKey" "kind" "Lcom/example/isolation/isolation/EntityKind;" .null := D213 (Or.inr (tw13 hw)) (ty := (.object "com/example/isolation/isolation/EntityKind")) (by decide)
                have D213_id : Fld Z h213 o213 "com/example/isolation/isolation/EntityKey" "id" "J" (.long (0 : Int64)) := D213 (Or.inr (tw15 hw)) (ty := .long) (by decide)
                show Go p e below _ (T213.setTop (mkF m 131 #[.val (.int i0), .val (.long i1), .second, .val (.long i2), .second, .val (.ref w_NODE), .val (.ref w_NODE), .val (.long i1), .second, .val (.int (((i0.toUInt32 >>> ((3 : Int32) &&& 31).toUInt32).toInt32) &&& (3 : Int32))), .val (.ref o208), .unset, .unset] [(.ref o213)]))
                refine s_dup B X213 (pc' := 132) at_131 rfl rfl ?_
                refine s_aload B X213 (pc' := 134) at_132 rfl rfl rfl ?_
                refine s_lload B X213 (pc' := 136) at_134 rfl rfl ?_
                refine c_init B X213 (y := mn4) (pc' := 139) (argsL := [(.ref w_NODE), (.long i1)]) (under := [(.ref o213)]) (W := 1) e213 rfl (tw6 hw) (tw7 hw) (tw8 hw) (tw5 hw) (by decide) (mm1_3 l Z a0 hw o213 i1 w_NODE w_RELATIONSHIP h213 F0 O213 ge_o213 A213 D213_id D213_kind ) (lenOf pd_2 rfl) rfl rfl (by decide) (by decide) (by decide) (by decide) rfl at_136 rfl (fun v215 T215 L215 X215 hQ215 => ?_)
                obtain ⟨rfl, Nq215, Kq215, u215_0, u215_1⟩ := hQ215
                obtain ⟨h215, e215⟩ : ∃ z, T215.heap = z := ⟨_, rfl⟩
                rw [e215] at Kq215 u215_0 u215_1
                have N215 := Fr.app N209 Nq215
                have O215 := (O213).keep Kq215 (allS ge_o213 all0)
                have F215 := OwnF.ext O215.2 F0
                show Go p e below _ (T215.setTop (mkF m 139 #[.val (.int i0), .val (.long i1), .second, .val (.long i2), .second, .val (.ref w_NODE), .val (.ref w_NODE), .val (.long i1), .second, .val (.int (((i0.toUInt32 >>> ((3 : Int32) &&& 31).toUInt32).toInt32) &&& (3 : Int32))), .val (.ref o208), .unset, .unset] [(.ref o213)]))
                refine s_astore B X215 (pc' := 141) (Ls' := #[.val (.int i0), .val (.long i1), .second, .val (.long i2), .second, .val (.ref w_NODE), .val (.ref w_NODE), .val (.long i1), .second, .val (.int (((i0.toUInt32 >>> ((3 : Int32) &&& 31).toUInt32).toInt32) &&& (3 : Int32))), .val (.ref o208), .val (.ref o213), .unset]) at_139 rfl rfl rfl ?_
                refine s_aload B X215 (pc' := 143) at_141 rfl rfl rfl ?_
                refine s_aload B X215 (pc' := 145) at_143 rfl rfl rfl ?_
                refine b_acmp_ne B X215 (py := 159) (pn := 148) at_145 (by decide) (by decide) rfl (fun q => absurd rfl q) (fun _ => ?_)
                refine s_lloadN B X215 (pc' := 149) at_148 rfl rfl ?_
                refine s_lload B X215 (pc' := 151) at_149 rfl rfl ?_
                refine b_lcmp_ne B X215 (py := 159) (pn := 155) at_151 rfl at_152 (by decide) (by decide) rfl (fun q => absurd rfl q) (fun _ => ?_)
                refine s_iconst B X215 (pc' := 156) (v := (1 : Int32)) at_155 rfl rfl ?_
                refine s_goto B X215 (pc' := 160) at_156 (by decide) (by decide) ?_
                refine s_istore B X215 (pc' := 162) (Ls' := #[.val (.int i0), .val (.long i1), .second, .val (.long i2), .second, .val (.ref w_NODE), .val (.ref w_NODE), .val (.long i1), .second, .val (.int (((i0.toUInt32 >>> ((3 : Int32) &&& 31).toUInt32).toInt32) &&& (3 : Int32))), .val (.ref o208), .val (.ref o213), .val (.int (1 : Int32))]) at_160 rfl rfl ?_
                refine s_aload B X215 (pc' := 164) at_162 rfl rfl rfl ?_
                refine s_aload B X215 (pc' := 166) at_164 rfl rfl rfl ?_
                have f216 := ((f214.ext E213).keep Kq215)
                have f217 := ((u209_0.ext E213).keep Kq215 (ninS ne_o208_o213 nin0))
                have f218 := ((u209_1.ext E213).keep Kq215 (ninS ne_o208_o213 nin0))
                have f219 := (A213.keep Kq215)
                refine p_virtual B X215 (y := mn0) (pc' := 169) (argsL := [(.ref o213)]) (under := []) (W := 0) e215 (tw16 hw) (tw17 hw) (tw19 hw) (tw18 hw) (tw20 hw) (tw5 hw) (by decide) (mm3_8 l Z a0 hw o208 o213 i1 w_NODE w_RELATIONSHIP h215 F0 O215 ge_o208 f216 f217 f218 ge_o213 f219 u215_0 u215_1 ne_o208_o213 ) f216 (lenOf pd_3 rfl) rfl rfl (by decide) (by decide) rfl rfl (by decide) (by decide) rfl at_166 rfl (fun T220 X220 e220 => ?_)
                show Go p e below _ (T220.setTop (mkF m 169 #[.val (.int i0), .val (.long i1), .second, .val (.long i2), .second, .val (.ref w_NODE), .val (.ref w_NODE), .val (.long i1), .second, .val (.int (((i0.toUInt32 >>> ((3 : Int32) &&& 31).toUInt32).toInt32) &&& (3 : Int32))), .val (.ref o208), .val (.ref o213), .val (.int (1 : Int32))] [(.int (1 : Int32))]))
                refine s_iload B X220 (pc' := 171) at_169 rfl rfl ?_
                refine s_icmpN B X220 (pc' := 174) at_171 (by decide) rfl ?_
                refine s_aload B X220 (pc' := 176) at_174 rfl rfl rfl ?_
                refine s_aload B X220 (pc' := 178) at_176 rfl rfl rfl ?_
                refine p_virtual B X220 (y := mn0) (pc' := 181) (argsL := [(.ref o208)]) (under := []) (W := 0) e220 (tw16 hw) (tw17 hw) (tw19 hw) (tw18 hw) (tw20 hw) (tw5 hw) (by decide) (mm3_8 l Z a0 hw o213 o208 i1 w_NODE w_RELATIONSHIP h215 F0 O215 ge_o213 f219 u215_0 u215_1 ge_o208 f216 f217 f218 (Ne.symm ne_o208_o213) ) f219 (lenOf pd_3 rfl) rfl rfl (by decide) (by decide) rfl rfl (by decide) (by decide) rfl at_178 rfl (fun T221 X221 e221 => ?_)
                show Go p e below _ (T221.setTop (mkF m 181 #[.val (.int i0), .val (.long i1), .second, .val (.long i2), .second, .val (.ref w_NODE), .val (.ref w_NODE), .val (.long i1), .second, .val (.int (((i0.toUInt32 >>> ((3 : Int32) &&& 31).toUInt32).toInt32) &&& (3 : Int32))), .val (.ref o208), .val (.ref o213), .val (.int (1 : Int32))] [(.int (1 : Int32))]))
                refine s_iload B X221 (pc' := 183) at_181 rfl rfl ?_
                refine s_icmpN B X221 (pc' := 186) at_183 (by decide) rfl ?_
                refine s_iconst B X221 (pc' := 187) (v := (1 : Int32)) at_186 rfl rfl ?_
                refine s_goto B X221 (pc' := 191) at_187 (by decide) (by decide) ?_
                exact r_nar B X221 (t := .boolean) (by simp) rfl at_191 ⟨rfl, N215⟩ (by decide) (by decide)
              · refine s_aload B X209 (pc' := 122) at_120 rfl rfl rfl ?_
                refine s_aload B X209 (pc' := 124) at_122 rfl rfl rfl ?_
                have f222 := (A208.keep Kq209)
                refine p_virtual B X209 (y := mn0) (pc' := 127) (argsL := [(.ref o208)]) (under := []) (W := 0) e209 (tw16 hw) (tw17 hw) (tw19 hw) (tw18 hw) (tw20 hw) (tw5 hw) (by decide) (mm3_6 l Z a0 hw o208 i1 w_NODE w_RELATIONSHIP h209 F0 O209 ge_o208 f222 u209_0 u209_1 ) f222 (lenOf pd_3 rfl) rfl rfl (by decide) (by decide) rfl rfl (by decide) (by decide) rfl at_124 rfl (fun T223 X223 e223 => ?_)
                show Go p e below _ (T223.setTop (mkF m 127 #[.val (.int i0), .val (.long i1), .second, .val (.long i2), .second, .val (.ref w_NODE), .val (.ref w_NODE), .val (.long i1), .second, .val (.int (((i0.toUInt32 >>> ((3 : Int32) &&& 31).toUInt32).toInt32) &&& (3 : Int32))), .val (.ref o208), .unset, .unset] [(.int (1 : Int32))]))
                exact r_nar B X223 (t := .boolean) (by simp) rfl at_127 ⟨rfl, N209⟩ (by decide) (by decide)
            · refine s_lloadN B X209 (pc' := 93) at_92 rfl rfl ?_
              refine c_static B X209 (y := mn3) (pc' := 96) (argsL := [(.long i1)]) (under := []) (W := 0) e209 (tw25 hw) (tw26 hw) (tw28 hw) (tw27 hw) (by decide) (rm_valueOf l Z a0 hw i1 w_NODE w_RELATIONSHIP h209 F0 O209) (lenOf pd_4 rfl) rfl rfl (by decide) (by decide) (by decide) (by decide) rfl at_93 rfl (fun v224 T224 L224 X224 hQ => ?_)
              obtain ⟨qL, rfl, Nq, Kq, EL⟩ := hQ
              obtain ⟨h224, e224⟩ : ∃ z, T224.heap = z := ⟨_, rfl⟩
              rw [e224] at Kq EL
              have N224 := Fr.app N209 Nq
              have O224 := (O209).keep Kq all0
              have F224 := OwnF.ext O224.2 F0
              show Go p e below _ (T224.setTop (mkF m 96 #[.val (.int i0), .val (.long i1), .second, .val (.long i2), .second, .val (.ref w_NODE), .val (.ref w_NODE), .val (.long i1), .second, .val (.int (((i0.toUInt32 >>> ((3 : Int32) &&& 31).toUInt32).toInt32) &&& (3 : Int32))), .val (.ref o208), .unset, .unset] [(.ref qL)]))
              refine s_astore B X224 (pc' := 98) (Ls' := #[.val (.int i0), .val (.long i1), .second, .val (.long i2), .second, .val (.ref w_NODE), .val (.ref w_NODE), .val (.long i1), .second, .val (.int (((i0.toUInt32 >>> ((3 : Int32) &&& 31).toUInt32).toInt32) &&& (3 : Int32))), .val (.ref o208), .val (.ref qL), .unset]) at_96 rfl rfl rfl ?_
              refine s_aload B X224 (pc' := 100) at_98 rfl rfl rfl ?_
              refine s_aload B X224 (pc' := 102) at_100 rfl rfl rfl ?_
              have f226 := ((A208.keep Kq209).keep Kq)
              refine p_virtual B X224 (y := mn0) (pc' := 105) (argsL := [(.ref qL)]) (under := []) (W := 0) e224 (tw16 hw) (tw17 hw) (tw19 hw) (tw18 hw) (tw20 hw) (tw5 hw) (by decide) (rm_eqL l Z a0 hw o208 qL h224 EL) f226 (lenOf pd_3 rfl) rfl rfl (by decide) (by decide) rfl rfl (by decide) (by decide) rfl at_102 rfl (fun T225 X225 e225 => ?_)
              show Go p e below _ (T225.setTop (mkF m 105 #[.val (.int i0), .val (.long i1), .second, .val (.long i2), .second, .val (.ref w_NODE), .val (.ref w_NODE), .val (.long i1), .second, .val (.int (((i0.toUInt32 >>> ((3 : Int32) &&& 31).toUInt32).toInt32) &&& (3 : Int32))), .val (.ref o208), .val (.ref qL), .unset] [(.int (0 : Int32))]))
              refine s_ifN B X225 (pc' := 108) at_105 (by decide) rfl ?_
              refine s_iconst B X225 (pc' := 109) (v := (1 : Int32)) at_108 rfl rfl ?_
              refine s_goto B X225 (pc' := 113) at_109 (by decide) (by decide) ?_
              exact r_nar B X225 (t := .boolean) (by simp) rfl at_113 ⟨rfl, N224⟩ (by decide) (by decide)
          · refine s_aload B X209 (pc' := 73) at_71 rfl rfl rfl ?_
            refine s_aconst_null B X209 (pc' := 74) at_73 rfl ?_
            have f227 := (A208.keep Kq209)
            refine p_virtual B X209 (y := mn0) (pc' := 77) (argsL := [.null]) (under := []) (W := 0) e209 (tw16 hw) (tw17 hw) (tw19 hw) (tw18 hw) (tw20 hw) (tw5 hw) (by decide) (mm3_7 l Z a0 hw o208 i1 w_NODE w_RELATIONSHIP h209 F0 O209 ge_o208 f227 u209_0 u209_1 ) f227 (lenOf pd_3 rfl) rfl rfl (by decide) (by decide) rfl rfl (by decide) (by decide) rfl at_74 rfl (fun T228 X228 e228 => ?_)
            show Go p e below _ (T228.setTop (mkF m 77 #[.val (.int i0), .val (.long i1), .second, .val (.long i2), .second, .val (.ref w_NODE), .val (.ref w_NODE), .val (.long i1), .second, .val (.int (((i0.toUInt32 >>> ((3 : Int32) &&& 31).toUInt32).toInt32) &&& (3 : Int32))), .val (.ref o208), .unset, .unset] [(.int (0 : Int32))]))
            refine s_ifN B X228 (pc' := 80) at_77 (by decide) rfl ?_
            refine s_iconst B X228 (pc' := 81) (v := (1 : Int32)) at_80 rfl rfl ?_
            refine s_goto B X228 (pc' := 85) at_81 (by decide) (by decide) ?_
            exact r_nar B X228 (t := .boolean) (by simp) rfl at_85 ⟨rfl, N209⟩ (by decide) (by decide)
      · refine s_getS B X183 (pc' := 26) e183 (tw21 hw) Via.refl S_RELATIONSHIP at_23 rfl (fun T229 X229 e229 => ?_)
        refine s_goto B X229 (pc' := 32) at_26 (by decide) (by decide) ?_
        refine s_astore B X229 (pc' := 34) (Ls' := #[.val (.int i0), .val (.long i1), .second, .val (.long i2), .second, .val (.ref w_NODE), .val (.ref w_RELATIONSHIP), .unset, .unset, .unset, .unset, .unset, .unset]) at_32 rfl rfl rfl ?_
        refine s_iloadN B X229 (pc' := 35) at_34 rfl rfl ?_
        refine s_iconst B X229 (pc' := 36) (v := (4 : Int32)) at_35 rfl rfl ?_
        refine s_iand B X229 (pc' := 37) (v := (i0 &&& (4 : Int32))) at_36 rfl rfl ?_
        refine b_if_eq B X229 (py := 44) (pn := 40) at_37 (by decide) (by decide) rfl (fun hc37_230 => ?_) (fun hc37_230 => ?_)
        · refine s_lloadN B X229 (pc' := 45) at_44 rfl rfl ?_
          refine s_lstore B X229 (pc' := 47) (Ls' := #[.val (.int i0), .val (.long i1), .second, .val (.long i2), .second, .val (.ref w_NODE), .val (.ref w_RELATIONSHIP), .val (.long i2), .second, .unset, .unset, .unset, .unset]) at_45 rfl rfl ?_
          refine s_iloadN B X229 (pc' := 48) at_47 rfl rfl ?_
          refine s_iconst B X229 (pc' := 49) (v := (3 : Int32)) at_48 rfl rfl ?_
          refine s_iushr B X229 (pc' := 50) (v := ((i0.toUInt32 >>> ((3 : Int32) &&& 31).toUInt32).toInt32)) at_49 rfl rfl ?_
          refine s_iconst B X229 (pc' := 51) (v := (3 : Int32)) at_50 rfl rfl ?_
          refine s_iand B X229 (pc' := 52) (v := (((i0.toUInt32 >>> ((3 : Int32) &&& 31).toUInt32).toInt32) &&& (3 : Int32))) at_51 rfl rfl ?_
          refine s_istore B X229 (pc' := 54) (Ls' := #[.val (.int i0), .val (.long i1), .second, .val (.long i2), .second, .val (.ref w_NODE), .val (.ref w_RELATIONSHIP), .val (.long i2), .second, .val (.int (((i0.toUInt32 >>> ((3 : Int32) &&& 31).toUInt32).toInt32) &&& (3 : Int32))), .unset, .unset, .unset]) at_52 rfl rfl ?_
          refine s_new B X229 (pc' := 57) (n0 := 2) e229 (tw3 hw) (tw4 hw) (tw5 hw) (by decide) (by decide) at_54 rfl (fun T231 h231 o231 g231 X231 e231 E231 A231 D231 => ?_)
          have ge_o231 : Z.heap.size ≤ o231 := g231 ▸ old_le (Old.start Z)
          have O231 := ((Old.start Z)).ext E231
          have F231 := OwnF.ext O231.2 F0
          have D231_kind : Fld Z h231 o231 "com/example/isolation/isolation/EntityKey" "kind" "Lcom/example/isolation/isolation/EntityKind;" .null := D231 (Or.inr (tw13 hw)) (ty := (.object "com/example/isolation/isolation/EntityKind")) (by decide)
          have D231_id : Fld Z h231 o231 "com/example/isolation/isolation/EntityKey" "id" "J" (.long (0 : Int64)) := D231 (Or.inr (tw15 hw)) (ty := .long) (by decide)
          show Go p e below _ (T231.setTop (mkF m 57 #[.val (.int i0), .val (.long i1), .second, .val (.long i2), .second, .val (.ref w_NODE), .val (.ref w_RELATIONSHIP), .val (.long i2), .second, .val (.int (((i0.toUInt32 >>> ((3 : Int32) &&& 31).toUInt32).toInt32) &&& (3 : Int32))), .unset, .unset, .unset] [(.ref o231)]))
          refine s_dup B X231 (pc' := 58) at_57 rfl rfl ?_
          refine s_aload B X231 (pc' := 60) at_58 rfl rfl rfl ?_
          refine s_lloadN B X231 (pc' := 61) at_60 rfl rfl ?_
          refine c_init B X231 (y := mn4) (pc' := 64) (argsL := [(.ref w_NODE), (.long i1)]) (under := [(.ref o231)]) (W := 1) e231 rfl (tw6 hw) (tw7 hw) (tw8 hw) (tw5 hw) (by decide) (mm1_3 l Z a0 hw o231 i1 w_NODE w_RELATIONSHIP h231 F0 O231 ge_o231 A231 D231_id D231_kind ) (lenOf pd_2 rfl) rfl rfl (by decide) (by decide) (by decide) (by decide) rfl at_61 rfl (fun v232 T232 L232 X232 hQ232 => ?_)
          obtain ⟨rfl, Nq232, Kq232, u232_0, u232_1⟩ := hQ232
          obtain ⟨h232, e232⟩ : ∃ z, T232.heap = z := ⟨_, rfl⟩
          rw [e232] at Kq232 u232_0 u232_1
          have N232 := Fr.app (Fr.nil _) Nq232
          have O232 := (O231).keep Kq232 (allS ge_o231 all0)
          have F232 := OwnF.ext O232.2 F0
          show Go p e below _ (T232.setTop (mkF m 64 #[.val (.int i0), .val (.long i1), .second, .val (.long i2), .second, .val (.ref w_NODE), .val (.ref w_RELATIONSHIP), .val (.long i2), .second, .val (.int (((i0.toUInt32 >>> ((3 : Int32) &&& 31).toUInt32).toInt32) &&& (3 : Int32))), .unset, .unset, .unset] [(.ref o231)]))
          refine s_astore B X232 (pc' := 66) (Ls' := #[.val (.int i0), .val (.long i1), .second, .val (.long i2), .second, .val (.ref w_NODE), .val (.ref w_RELATIONSHIP), .val (.long i2), .second, .val (.int (((i0.toUInt32 >>> ((3 : Int32) &&& 31).toUInt32).toInt32) &&& (3 : Int32))), .val (.ref o231), .unset, .unset]) at_64 rfl rfl rfl ?_
          refine s_iload B X232 (pc' := 68) at_66 rfl rfl ?_
          refine b_if_ne B X232 (py := 86) (pn := 71) at_68 (by decide) (by decide) rfl (fun hc68_233 => ?_) (fun hc68_233 => ?_)
          · refine s_iload B X232 (pc' := 88) at_86 rfl rfl ?_
            refine s_iconst B X232 (pc' := 89) (v := (1 : Int32)) at_88 rfl rfl ?_
            refine b_icmp_ne B X232 (py := 114) (pn := 92) at_89 (by decide) (by decide) rfl (fun hc89_234 => ?_) (fun hc89_234 => ?_)
            · refine s_iload B X232 (pc' := 116) at_114 rfl rfl ?_
              refine s_iconst B X232 (pc' := 117) (v := (2 : Int32)) at_116 rfl rfl ?_
              refine b_icmp_ne B X232 (py := 128) (pn := 120) at_117 (by decide) (by decide) rfl (fun hc117_235 => ?_) (fun hc117_235 => ?_)
              · refine s_new B X232 (pc' := 131) (n0 := 2) e232 (tw3 hw) (tw4 hw) (tw5 hw) (by decide) (by decide) at_128 rfl (fun T236 h236 o236 g236 X236 e236 E236 A236 D236 => ?_)
                have f237 := (A231.keep Kq232)
                have ne_o231_o236 : o231 ≠ o236 := Nat.ne_of_lt (g236 ▸ f237.lt)
                have ge_o236 : Z.heap.size ≤ o236 := g236 ▸ old_le O232
                have O236 := (O232).ext E236
                have F236 := OwnF.ext O236.2 F0
                have D236_kind : Fld Z h236 o236 "com/example/isolation/isolation/EntityKey" "kind" "Lcom/example/isolation/isolation/EntityKind;" .null := D236 (Or.inr (tw13 hw)) (ty := (.object "com/example/isolation/isolation/EntityKind")) (by decide)
                have D236_id : Fld Z h236 o236 "com/example/isolation/isolation/EntityKey" "id" "J" (.long (0 : Int64)) := D236 (Or.inr (tw15 hw)) (ty := .long) (by decide)
                show Go p e below _ (T236.setTop (mkF m 131 #[.val (.int i0), .val (.long i1), .second, .val (.long i2), .second, .val (.ref w_NODE), .val (.ref w_RELATIONSHIP), .val (.long i2), .second, .val (.int (((i0.toUInt32 >>> ((3 : Int32) &&& 31).toUInt32).toInt32) &&& (3 : Int32))), .val (.ref o231), .unset, .unset] [(.ref o236)]))
                refine s_dup B X236 (pc' := 132) at_131 rfl rfl ?_
                refine s_aload B X236 (pc' := 134) at_132 rfl rfl rfl ?_
                refine s_lload B X236 (pc' := 136) at_134 rfl rfl ?_
                refine c_init B X236 (y := mn4) (pc' := 139) (argsL := [(.ref w_RELATIONSHIP), (.long i2)]) (under := [(.ref o236)]) (W := 1) e236 rfl (tw6 hw) (tw7 hw) (tw8 hw) (tw5 hw) (by decide) (mm1_9 l Z a0 hw o236 i2 w_NODE w_RELATIONSHIP h236 F0 O236 ge_o236 A236 D236_id D236_kind ) (lenOf pd_2 rfl) rfl rfl (by decide) (by decide) (by decide) (by decide) rfl at_136 rfl (fun v238 T238 L238 X238 hQ238 => ?_)
                obtain ⟨rfl, Nq238, Kq238, u238_0, u238_1⟩ := hQ238
                obtain ⟨h238, e238⟩ : ∃ z, T238.heap = z := ⟨_, rfl⟩
                rw [e238] at Kq238 u238_0 u238_1
                have N238 := Fr.app N232 Nq238
                have O238 := (O236).keep Kq238 (allS ge_o236 all0)
                have F238 := OwnF.ext O238.2 F0
                show Go p e below _ (T238.setTop (mkF m 139 #[.val (.int i0), .val (.long i1), .second, .val (.long i2), .second, .val (.ref w_NODE), .val (.ref w_RELATIONSHIP), .val (.long i2), .second, .val (.int (((i0.toUInt32 >>> ((3 : Int32) &&& 31).toUInt32).toInt32) &&& (3 : Int32))), .val (.ref o231), .unset, .unset] [(.ref o236)]))
                refine s_astore B X238 (pc' := 141) (Ls' := #[.val (.int i0), .val (.long i1), .second, .val (.long i2), .second, .val (.ref w_NODE), .val (.ref w_RELATIONSHIP), .val (.long i2), .second, .val (.int (((i0.toUInt32 >>> ((3 : Int32) &&& 31).toUInt32).toInt32) &&& (3 : Int32))), .val (.ref o231), .val (.ref o236), .unset]) at_139 rfl rfl rfl ?_
                refine s_aload B X238 (pc' := 143) at_141 rfl rfl rfl ?_
                refine s_aload B X238 (pc' := 145) at_143 rfl rfl rfl ?_
                refine b_acmp_ne B X238 (py := 159) (pn := 148) at_145 (by decide) (by decide) rfl (fun _ => ?_) (fun q => absurd q (own_ne_w_NODE_w_RELATIONSHIP F238))
                refine s_iconst B X238 (pc' := 160) (v := (0 : Int32)) at_159 rfl rfl ?_
                refine s_istore B X238 (pc' := 162) (Ls' := #[.val (.int i0), .val (.long i1), .second, .val (.long i2), .second, .val (.ref w_NODE), .val (.ref w_RELATIONSHIP), .val (.long i2), .second, .val (.int (((i0.toUInt32 >>> ((3 : Int32) &&& 31).toUInt32).toInt32) &&& (3 : Int32))), .val (.ref o231), .val (.ref o236), .val (.int (0 : Int32))]) at_160 rfl rfl ?_
                refine s_aload B X238 (pc' := 164) at_162 rfl rfl rfl ?_
                refine s_aload B X238 (pc' := 166) at_164 rfl rfl rfl ?_
                have f239 := ((f237.ext E236).keep Kq238)
                have f240 := ((u232_0.ext E236).keep Kq238 (ninS ne_o231_o236 nin0))
                have f241 := ((u232_1.ext E236).keep Kq238 (ninS ne_o231_o236 nin0))
                have f242 := (A236.keep Kq238)
                refine p_virtual B X238 (y := mn0) (pc' := 169) (argsL := [(.ref o236)]) (under := []) (W := 0) e238 (tw16 hw) (tw17 hw) (tw19 hw) (tw18 hw) (tw20 hw) (tw5 hw) (by decide) (mm3_23 l Z a0 hw o231 o236 i1 i2 w_NODE w_RELATIONSHIP h238 F0 O238 ge_o231 f239 f240 f241 ge_o236 f242 u238_0 u238_1 ne_o231_o236 hE) f239 (lenOf pd_3 rfl) rfl rfl (by decide) (by decide) rfl rfl (by decide) (by decide) rfl at_166 rfl (fun T243 X243 e243 => ?_)
                show Go p e below _ (T243.setTop (mkF m 169 #[.val (.int i0), .val (.long i1), .second, .val (.long i2), .second, .val (.ref w_NODE), .val (.ref w_RELATIONSHIP), .val (.long i2), .second, .val (.int (((i0.toUInt32 >>> ((3 : Int32) &&& 31).toUInt32).toInt32) &&& (3 : Int32))), .val (.ref o231), .val (.ref o236), .val (.int (0 : Int32))] [(.int (0 : Int32))]))
                refine s_iload B X243 (pc' := 171) at_169 rfl rfl ?_
                refine s_icmpN B X243 (pc' := 174) at_171 (by decide) rfl ?_
                refine s_aload B X243 (pc' := 176) at_174 rfl rfl rfl ?_
                refine s_aload B X243 (pc' := 178) at_176 rfl rfl rfl ?_
                refine p_virtual B X243 (y := mn0) (pc' := 181) (argsL := [(.ref o231)]) (under := []) (W := 0) e243 (tw16 hw) (tw17 hw) (tw19 hw) (tw18 hw) (tw20 hw) (tw5 hw) (by decide) (mm3_24 l Z a0 hw o236 o231 i2 i1 w_NODE w_RELATIONSHIP h238 F0 O238 ge_o236 f242 u238_0 u238_1 ge_o231 f239 f240 f241 (Ne.symm ne_o231_o236) hE) f242 (lenOf pd_3 rfl) rfl rfl (by decide) (by decide) rfl rfl (by decide) (by decide) rfl at_178 rfl (fun T244 X244 e244 => ?_)
                show Go p e below _ (T244.setTop (mkF m 181 #[.val (.int i0), .val (.long i1), .second, .val (.long i2), .second, .val (.ref w_NODE), .val (.ref w_RELATIONSHIP), .val (.long i2), .second, .val (.int (((i0.toUInt32 >>> ((3 : Int32) &&& 31).toUInt32).toInt32) &&& (3 : Int32))), .val (.ref o231), .val (.ref o236), .val (.int (0 : Int32))] [(.int (0 : Int32))]))
                refine s_iload B X244 (pc' := 183) at_181 rfl rfl ?_
                refine s_icmpN B X244 (pc' := 186) at_183 (by decide) rfl ?_
                refine s_iconst B X244 (pc' := 187) (v := (1 : Int32)) at_186 rfl rfl ?_
                refine s_goto B X244 (pc' := 191) at_187 (by decide) (by decide) ?_
                exact r_nar B X244 (t := .boolean) (by simp) rfl at_191 ⟨rfl, N238⟩ (by decide) (by decide)
              · refine s_aload B X232 (pc' := 122) at_120 rfl rfl rfl ?_
                refine s_aload B X232 (pc' := 124) at_122 rfl rfl rfl ?_
                have f245 := (A231.keep Kq232)
                refine p_virtual B X232 (y := mn0) (pc' := 127) (argsL := [(.ref o231)]) (under := []) (W := 0) e232 (tw16 hw) (tw17 hw) (tw19 hw) (tw18 hw) (tw20 hw) (tw5 hw) (by decide) (mm3_6 l Z a0 hw o231 i1 w_NODE w_RELATIONSHIP h232 F0 O232 ge_o231 f245 u232_0 u232_1 ) f245 (lenOf pd_3 rfl) rfl rfl (by decide) (by decide) rfl rfl (by decide) (by decide) rfl at_124 rfl (fun T246 X246 e246 => ?_)
                show Go p e below _ (T246.setTop (mkF m 127 #[.val (.int i0), .val (.long i1), .second, .val (.long i2), .second, .val (.ref w_NODE), .val (.ref w_RELATIONSHIP), .val (.long i2), .second, .val (.int (((i0.toUInt32 >>> ((3 : Int32) &&& 31).toUInt32).toInt32) &&& (3 : Int32))), .val (.ref o231), .unset, .unset] [(.int (1 : Int32))]))
                exact r_nar B X246 (t := .boolean) (by simp) rfl at_127 ⟨rfl, N232⟩ (by decide) (by decide)
            · refine s_lloadN B X232 (pc' := 93) at_92 rfl rfl ?_
              refine c_static B X232 (y := mn3) (pc' := 96) (argsL := [(.long i1)]) (under := []) (W := 0) e232 (tw25 hw) (tw26 hw) (tw28 hw) (tw27 hw) (by decide) (rm_valueOf l Z a0 hw i1 w_NODE w_RELATIONSHIP h232 F0 O232) (lenOf pd_4 rfl) rfl rfl (by decide) (by decide) (by decide) (by decide) rfl at_93 rfl (fun v247 T247 L247 X247 hQ => ?_)
              obtain ⟨qL, rfl, Nq, Kq, EL⟩ := hQ
              obtain ⟨h247, e247⟩ : ∃ z, T247.heap = z := ⟨_, rfl⟩
              rw [e247] at Kq EL
              have N247 := Fr.app N232 Nq
              have O247 := (O232).keep Kq all0
              have F247 := OwnF.ext O247.2 F0
              show Go p e below _ (T247.setTop (mkF m 96 #[.val (.int i0), .val (.long i1), .second, .val (.long i2), .second, .val (.ref w_NODE), .val (.ref w_RELATIONSHIP), .val (.long i2), .second, .val (.int (((i0.toUInt32 >>> ((3 : Int32) &&& 31).toUInt32).toInt32) &&& (3 : Int32))), .val (.ref o231), .unset, .unset] [(.ref qL)]))
              refine s_astore B X247 (pc' := 98) (Ls' := #[.val (.int i0), .val (.long i1), .second, .val (.long i2), .second, .val (.ref w_NODE), .val (.ref w_RELATIONSHIP), .val (.long i2), .second, .val (.int (((i0.toUInt32 >>> ((3 : Int32) &&& 31).toUInt32).toInt32) &&& (3 : Int32))), .val (.ref o231), .val (.ref qL), .unset]) at_96 rfl rfl rfl ?_
              refine s_aload B X247 (pc' := 100) at_98 rfl rfl rfl ?_
              refine s_aload B X247 (pc' := 102) at_100 rfl rfl rfl ?_
              have f249 := ((A231.keep Kq232).keep Kq)
              refine p_virtual B X247 (y := mn0) (pc' := 105) (argsL := [(.ref qL)]) (under := []) (W := 0) e247 (tw16 hw) (tw17 hw) (tw19 hw) (tw18 hw) (tw20 hw) (tw5 hw) (by decide) (rm_eqL l Z a0 hw o231 qL h247 EL) f249 (lenOf pd_3 rfl) rfl rfl (by decide) (by decide) rfl rfl (by decide) (by decide) rfl at_102 rfl (fun T248 X248 e248 => ?_)
              show Go p e below _ (T248.setTop (mkF m 105 #[.val (.int i0), .val (.long i1), .second, .val (.long i2), .second, .val (.ref w_NODE), .val (.ref w_RELATIONSHIP), .val (.long i2), .second, .val (.int (((i0.toUInt32 >>> ((3 : Int32) &&& 31).toUInt32).toInt32) &&& (3 : Int32))), .val (.ref o231), .val (.ref qL), .unset] [(.int (0 : Int32))]))
              refine s_ifN B X248 (pc' := 108) at_105 (by decide) rfl ?_
              refine s_iconst B X248 (pc' := 109) (v := (1 : Int32)) at_108 rfl rfl ?_
              refine s_goto B X248 (pc' := 113) at_109 (by decide) (by decide) ?_
              exact r_nar B X248 (t := .boolean) (by simp) rfl at_113 ⟨rfl, N247⟩ (by decide) (by decide)
          · refine s_aload B X232 (pc' := 73) at_71 rfl rfl rfl ?_
            refine s_aconst_null B X232 (pc' := 74) at_73 rfl ?_
            have f250 := (A231.keep Kq232)
            refine p_virtual B X232 (y := mn0) (pc' := 77) (argsL := [.null]) (under := []) (W := 0) e232 (tw16 hw) (tw17 hw) (tw19 hw) (tw18 hw) (tw20 hw) (tw5 hw) (by decide) (mm3_7 l Z a0 hw o231 i1 w_NODE w_RELATIONSHIP h232 F0 O232 ge_o231 f250 u232_0 u232_1 ) f250 (lenOf pd_3 rfl) rfl rfl (by decide) (by decide) rfl rfl (by decide) (by decide) rfl at_74 rfl (fun T251 X251 e251 => ?_)
            show Go p e below _ (T251.setTop (mkF m 77 #[.val (.int i0), .val (.long i1), .second, .val (.long i2), .second, .val (.ref w_NODE), .val (.ref w_RELATIONSHIP), .val (.long i2), .second, .val (.int (((i0.toUInt32 >>> ((3 : Int32) &&& 31).toUInt32).toInt32) &&& (3 : Int32))), .val (.ref o231), .unset, .unset] [(.int (0 : Int32))]))
            refine s_ifN B X251 (pc' := 80) at_77 (by decide) rfl ?_
            refine s_iconst B X251 (pc' := 81) (v := (1 : Int32)) at_80 rfl rfl ?_
            refine s_goto B X251 (pc' := 85) at_81 (by decide) (by decide) ?_
            exact r_nar B X251 (t := .boolean) (by simp) rfl at_85 ⟨rfl, N232⟩ (by decide) (by decide)
        · refine s_lloadN B X229 (pc' := 41) at_40 rfl rfl ?_
          refine s_goto B X229 (pc' := 45) at_41 (by decide) (by decide) ?_
          refine s_lstore B X229 (pc' := 47) (Ls' := #[.val (.int i0), .val (.long i1), .second, .val (.long i2), .second, .val (.ref w_NODE), .val (.ref w_RELATIONSHIP), .val (.long i1), .second, .unset, .unset, .unset, .unset]) at_45 rfl rfl ?_
          refine s_iloadN B X229 (pc' := 48) at_47 rfl rfl ?_
          refine s_iconst B X229 (pc' := 49) (v := (3 : Int32)) at_48 rfl rfl ?_
          refine s_iushr B X229 (pc' := 50) (v := ((i0.toUInt32 >>> ((3 : Int32) &&& 31).toUInt32).toInt32)) at_49 rfl rfl ?_
          refine s_iconst B X229 (pc' := 51) (v := (3 : Int32)) at_50 rfl rfl ?_
          refine s_iand B X229 (pc' := 52) (v := (((i0.toUInt32 >>> ((3 : Int32) &&& 31).toUInt32).toInt32) &&& (3 : Int32))) at_51 rfl rfl ?_
          refine s_istore B X229 (pc' := 54) (Ls' := #[.val (.int i0), .val (.long i1), .second, .val (.long i2), .second, .val (.ref w_NODE), .val (.ref w_RELATIONSHIP), .val (.long i1), .second, .val (.int (((i0.toUInt32 >>> ((3 : Int32) &&& 31).toUInt32).toInt32) &&& (3 : Int32))), .unset, .unset, .unset]) at_52 rfl rfl ?_
          refine s_new B X229 (pc' := 57) (n0 := 2) e229 (tw3 hw) (tw4 hw) (tw5 hw) (by decide) (by decide) at_54 rfl (fun T252 h252 o252 g252 X252 e252 E252 A252 D252 => ?_)
          have ge_o252 : Z.heap.size ≤ o252 := g252 ▸ old_le (Old.start Z)
          have O252 := ((Old.start Z)).ext E252
          have F252 := OwnF.ext O252.2 F0
          have D252_kind : Fld Z h252 o252 "com/example/isolation/isolation/EntityKey" "kind" "Lcom/example/isolation/isolation/EntityKind;" .null := D252 (Or.inr (tw13 hw)) (ty := (.object "com/example/isolation/isolation/EntityKind")) (by decide)
          have D252_id : Fld Z h252 o252 "com/example/isolation/isolation/EntityKey" "id" "J" (.long (0 : Int64)) := D252 (Or.inr (tw15 hw)) (ty := .long) (by decide)
          show Go p e below _ (T252.setTop (mkF m 57 #[.val (.int i0), .val (.long i1), .second, .val (.long i2), .second, .val (.ref w_NODE), .val (.ref w_RELATIONSHIP), .val (.long i1), .second, .val (.int (((i0.toUInt32 >>> ((3 : Int32) &&& 31).toUInt32).toInt32) &&& (3 : Int32))), .unset, .unset, .unset] [(.ref o252)]))
          refine s_dup B X252 (pc' := 58) at_57 rfl rfl ?_
          refine s_aload B X252 (pc' := 60) at_58 rfl rfl rfl ?_
          refine s_lloadN B X252 (pc' := 61) at_60 rfl rfl ?_
          refine c_init B X252 (y := mn4) (pc' := 64) (argsL := [(.ref w_NODE), (.long i1)]) (under := [(.ref o252)]) (W := 1) e252 rfl (tw6 hw) (tw7 hw) (tw8 hw) (tw5 hw) (by decide) (mm1_3 l Z a0 hw o252 i1 w_NODE w_RELATIONSHIP h252 F0 O252 ge_o252 A252 D252_id D252_kind ) (lenOf pd_2 rfl) rfl rfl (by decide) (by decide) (by decide) (by decide) rfl at_61 rfl (fun v253 T253 L253 X253 hQ253 => ?_)
          obtain ⟨rfl, Nq253, Kq253, u253_0, u253_1⟩ := hQ253
          obtain ⟨h253, e253⟩ : ∃ z, T253.heap = z := ⟨_, rfl⟩
          rw [e253] at Kq253 u253_0 u253_1
          have N253 := Fr.app (Fr.nil _) Nq253
          have O253 := (O252).keep Kq253 (allS ge_o252 all0)
          have F253 := OwnF.ext O253.2 F0
          show Go p e below _ (T253.setTop (mkF m 64 #[.val (.int i0), .val (.long i1), .second, .val (.long i2), .second, .val (.ref w_NODE), .val (.ref w_RELATIONSHIP), .val (.long i1), .second, .val (.int (((i0.toUInt32 >>> ((3 : Int32) &&& 31).toUInt32).toInt32) &&& (3 : Int32))), .unset, .unset, .unset] [(.ref o252)]))
          refine s_astore B X253 (pc' := 66) (Ls' := #[.val (.int i0), .val (.long i1), .second, .val (.long i2), .second, .val (.ref w_NODE), .val (.ref w_RELATIONSHIP), .val (.long i1), .second, .val (.int (((i0.toUInt32 >>> ((3 : Int32) &&& 31).toUInt32).toInt32) &&& (3 : Int32))), .val (.ref o252), .unset, .unset]) at_64 rfl rfl rfl ?_
          refine s_iload B X253 (pc' := 68) at_66 rfl rfl ?_
          refine b_if_ne B X253 (py := 86) (pn := 71) at_68 (by decide) (by decide) rfl (fun hc68_254 => ?_) (fun hc68_254 => ?_)
          · refine s_iload B X253 (pc' := 88) at_86 rfl rfl ?_
            refine s_iconst B X253 (pc' := 89) (v := (1 : Int32)) at_88 rfl rfl ?_
            refine b_icmp_ne B X253 (py := 114) (pn := 92) at_89 (by decide) (by decide) rfl (fun hc89_255 => ?_) (fun hc89_255 => ?_)
            · refine s_iload B X253 (pc' := 116) at_114 rfl rfl ?_
              refine s_iconst B X253 (pc' := 117) (v := (2 : Int32)) at_116 rfl rfl ?_
              refine b_icmp_ne B X253 (py := 128) (pn := 120) at_117 (by decide) (by decide) rfl (fun hc117_256 => ?_) (fun hc117_256 => ?_)
              · refine s_new B X253 (pc' := 131) (n0 := 2) e253 (tw3 hw) (tw4 hw) (tw5 hw) (by decide) (by decide) at_128 rfl (fun T257 h257 o257 g257 X257 e257 E257 A257 D257 => ?_)
                have f258 := (A252.keep Kq253)
                have ne_o252_o257 : o252 ≠ o257 := Nat.ne_of_lt (g257 ▸ f258.lt)
                have ge_o257 : Z.heap.size ≤ o257 := g257 ▸ old_le O253
                have O257 := (O253).ext E257
                have F257 := OwnF.ext O257.2 F0
                have D257_kind : Fld Z h257 o257 "com/example/isolation/isolation/EntityKey" "kind" "Lcom/example/isolation/isolation/EntityKind;" .null := D257 (Or.inr (tw13 hw)) (ty := (.object "com/example/isolation/isolation/EntityKind")) (by decide)
                have D257_id : Fld Z h257 o257 "com/example/isolation/isolation/EntityKey" "id" "J" (.long (0 : Int64)) := D257 (Or.inr (tw15 hw)) (ty := .long) (by decide)
                show Go p e below _ (T257.setTop (mkF m 131 #[.val (.int i0), .val (.long i1), .second, .val (.long i2), .second, .val (.ref w_NODE), .val (.ref w_RELATIONSHIP), .val (.long i1), .second, .val (.int (((i0.toUInt32 >>> ((3 : Int32) &&& 31).toUInt32).toInt32) &&& (3 : Int32))), .val (.ref o252), .unset, .unset] [(.ref o257)]))
                refine s_dup B X257 (pc' := 132) at_131 rfl rfl ?_
                refine s_aload B X257 (pc' := 134) at_132 rfl rfl rfl ?_
                refine s_lload B X257 (pc' := 136) at_134 rfl rfl ?_
                refine c_init B X257 (y := mn4) (pc' := 139) (argsL := [(.ref w_RELATIONSHIP), (.long i1)]) (under := [(.ref o257)]) (W := 1) e257 rfl (tw6 hw) (tw7 hw) (tw8 hw) (tw5 hw) (by decide) (mm1_9 l Z a0 hw o257 i1 w_NODE w_RELATIONSHIP h257 F0 O257 ge_o257 A257 D257_id D257_kind ) (lenOf pd_2 rfl) rfl rfl (by decide) (by decide) (by decide) (by decide) rfl at_136 rfl (fun v259 T259 L259 X259 hQ259 => ?_)
                obtain ⟨rfl, Nq259, Kq259, u259_0, u259_1⟩ := hQ259
                obtain ⟨h259, e259⟩ : ∃ z, T259.heap = z := ⟨_, rfl⟩
                rw [e259] at Kq259 u259_0 u259_1
                have N259 := Fr.app N253 Nq259
                have O259 := (O257).keep Kq259 (allS ge_o257 all0)
                have F259 := OwnF.ext O259.2 F0
                show Go p e below _ (T259.setTop (mkF m 139 #[.val (.int i0), .val (.long i1), .second, .val (.long i2), .second, .val (.ref w_NODE), .val (.ref w_RELATIONSHIP), .val (.long i1), .second, .val (.int (((i0.toUInt32 >>> ((3 : Int32) &&& 31).toUInt32).toInt32) &&& (3 : Int32))), .val (.ref o252), .unset, .unset] [(.ref o257)]))
                refine s_astore B X259 (pc' := 141) (Ls' := #[.val (.int i0), .val (.long i1), .second, .val (.long i2), .second, .val (.ref w_NODE), .val (.ref w_RELATIONSHIP), .val (.long i1), .second, .val (.int (((i0.toUInt32 >>> ((3 : Int32) &&& 31).toUInt32).toInt32) &&& (3 : Int32))), .val (.ref o252), .val (.ref o257), .unset]) at_139 rfl rfl rfl ?_
                refine s_aload B X259 (pc' := 143) at_141 rfl rfl rfl ?_
                refine s_aload B X259 (pc' := 145) at_143 rfl rfl rfl ?_
                refine b_acmp_ne B X259 (py := 159) (pn := 148) at_145 (by decide) (by decide) rfl (fun _ => ?_) (fun q => absurd q (own_ne_w_NODE_w_RELATIONSHIP F259))
                refine s_iconst B X259 (pc' := 160) (v := (0 : Int32)) at_159 rfl rfl ?_
                refine s_istore B X259 (pc' := 162) (Ls' := #[.val (.int i0), .val (.long i1), .second, .val (.long i2), .second, .val (.ref w_NODE), .val (.ref w_RELATIONSHIP), .val (.long i1), .second, .val (.int (((i0.toUInt32 >>> ((3 : Int32) &&& 31).toUInt32).toInt32) &&& (3 : Int32))), .val (.ref o252), .val (.ref o257), .val (.int (0 : Int32))]) at_160 rfl rfl ?_
                refine s_aload B X259 (pc' := 164) at_162 rfl rfl rfl ?_
                refine s_aload B X259 (pc' := 166) at_164 rfl rfl rfl ?_
                have f260 := ((f258.ext E257).keep Kq259)
                have f261 := ((u253_0.ext E257).keep Kq259 (ninS ne_o252_o257 nin0))
                have f262 := ((u253_1.ext E257).keep Kq259 (ninS ne_o252_o257 nin0))
                have f263 := (A257.keep Kq259)
                refine p_virtual B X259 (y := mn0) (pc' := 169) (argsL := [(.ref o257)]) (under := []) (W := 0) e259 (tw16 hw) (tw17 hw) (tw19 hw) (tw18 hw) (tw20 hw) (tw5 hw) (by decide) (mm3_12 l Z a0 hw o252 o257 i1 w_NODE w_RELATIONSHIP h259 F0 O259 ge_o252 f260 f261 f262 ge_o257 f263 u259_0 u259_1 ne_o252_o257 ) f260 (lenOf pd_3 rfl) rfl rfl (by decide) (by decide) rfl rfl (by decide) (by decide) rfl at_166 rfl (fun T264 X264 e264 => ?_)
                show Go p e below _ (T264.setTop (mkF m 169 #[.val (.int i0), .val (.long i1), .second, .val (.long i2), .second, .val (.ref w_NODE), .val (.ref w_RELATIONSHIP), .val (.long i1), .second, .val (.int (((i0.toUInt32 >>> ((3 : Int32) &&& 31).toUInt32).toInt32) &&& (3 : Int32))), .val (.ref o252), .val (.ref o257), .val (.int (0 : Int32))] [(.int (0 : Int32))]))
                refine s_iload B X264 (pc' := 171) at_169 rfl rfl ?_
                refine s_icmpN B X264 (pc' := 174) at_171 (by decide) rfl ?_
                refine s_aload B X264 (pc' := 176) at_174 rfl rfl rfl ?_
                refine s_aload B X264 (pc' := 178) at_176 rfl rfl rfl ?_
                refine p_virtual B X264 (y := mn0) (pc' := 181) (argsL := [(.ref o252)]) (under := []) (W := 0) e264 (tw16 hw) (tw17 hw) (tw19 hw) (tw18 hw) (tw20 hw) (tw5 hw) (by decide) (mm3_13 l Z a0 hw o257 o252 i1 w_NODE w_RELATIONSHIP h259 F0 O259 ge_o257 f263 u259_0 u259_1 ge_o252 f260 f261 f262 (Ne.symm ne_o252_o257) ) f263 (lenOf pd_3 rfl) rfl rfl (by decide) (by decide) rfl rfl (by decide) (by decide) rfl at_178 rfl (fun T265 X265 e265 => ?_)
                show Go p e below _ (T265.setTop (mkF m 181 #[.val (.int i0), .val (.long i1), .second, .val (.long i2), .second, .val (.ref w_NODE), .val (.ref w_RELATIONSHIP), .val (.long i1), .second, .val (.int (((i0.toUInt32 >>> ((3 : Int32) &&& 31).toUInt32).toInt32) &&& (3 : Int32))), .val (.ref o252), .val (.ref o257), .val (.int (0 : Int32))] [(.int (0 : Int32))]))
                refine s_iload B X265 (pc' := 183) at_181 rfl rfl ?_
                refine s_icmpN B X265 (pc' := 186) at_183 (by decide) rfl ?_
                refine s_iconst B X265 (pc' := 187) (v := (1 : Int32)) at_186 rfl rfl ?_
                refine s_goto B X265 (pc' := 191) at_187 (by decide) (by decide) ?_
                exact r_nar B X265 (t := .boolean) (by simp) rfl at_191 ⟨rfl, N259⟩ (by decide) (by decide)
              · refine s_aload B X253 (pc' := 122) at_120 rfl rfl rfl ?_
                refine s_aload B X253 (pc' := 124) at_122 rfl rfl rfl ?_
                have f266 := (A252.keep Kq253)
                refine p_virtual B X253 (y := mn0) (pc' := 127) (argsL := [(.ref o252)]) (under := []) (W := 0) e253 (tw16 hw) (tw17 hw) (tw19 hw) (tw18 hw) (tw20 hw) (tw5 hw) (by decide) (mm3_6 l Z a0 hw o252 i1 w_NODE w_RELATIONSHIP h253 F0 O253 ge_o252 f266 u253_0 u253_1 ) f266 (lenOf pd_3 rfl) rfl rfl (by decide) (by decide) rfl rfl (by decide) (by decide) rfl at_124 rfl (fun T267 X267 e267 => ?_)
                show Go p e below _ (T267.setTop (mkF m 127 #[.val (.int i0), .val (.long i1), .second, .val (.long i2), .second, .val (.ref w_NODE), .val (.ref w_RELATIONSHIP), .val (.long i1), .second, .val (.int (((i0.toUInt32 >>> ((3 : Int32) &&& 31).toUInt32).toInt32) &&& (3 : Int32))), .val (.ref o252), .unset, .unset] [(.int (1 : Int32))]))
                exact r_nar B X267 (t := .boolean) (by simp) rfl at_127 ⟨rfl, N253⟩ (by decide) (by decide)
            · refine s_lloadN B X253 (pc' := 93) at_92 rfl rfl ?_
              refine c_static B X253 (y := mn3) (pc' := 96) (argsL := [(.long i1)]) (under := []) (W := 0) e253 (tw25 hw) (tw26 hw) (tw28 hw) (tw27 hw) (by decide) (rm_valueOf l Z a0 hw i1 w_NODE w_RELATIONSHIP h253 F0 O253) (lenOf pd_4 rfl) rfl rfl (by decide) (by decide) (by decide) (by decide) rfl at_93 rfl (fun v268 T268 L268 X268 hQ => ?_)
              obtain ⟨qL, rfl, Nq, Kq, EL⟩ := hQ
              obtain ⟨h268, e268⟩ : ∃ z, T268.heap = z := ⟨_, rfl⟩
              rw [e268] at Kq EL
              have N268 := Fr.app N253 Nq
              have O268 := (O253).keep Kq all0
              have F268 := OwnF.ext O268.2 F0
              show Go p e below _ (T268.setTop (mkF m 96 #[.val (.int i0), .val (.long i1), .second, .val (.long i2), .second, .val (.ref w_NODE), .val (.ref w_RELATIONSHIP), .val (.long i1), .second, .val (.int (((i0.toUInt32 >>> ((3 : Int32) &&& 31).toUInt32).toInt32) &&& (3 : Int32))), .val (.ref o252), .unset, .unset] [(.ref qL)]))
              refine s_astore B X268 (pc' := 98) (Ls' := #[.val (.int i0), .val (.long i1), .second, .val (.long i2), .second, .val (.ref w_NODE), .val (.ref w_RELATIONSHIP), .val (.long i1), .second, .val (.int (((i0.toUInt32 >>> ((3 : Int32) &&& 31).toUInt32).toInt32) &&& (3 : Int32))), .val (.ref o252), .val (.ref qL), .unset]) at_96 rfl rfl rfl ?_
              refine s_aload B X268 (pc' := 100) at_98 rfl rfl rfl ?_
              refine s_aload B X268 (pc' := 102) at_100 rfl rfl rfl ?_
              have f270 := ((A252.keep Kq253).keep Kq)
              refine p_virtual B X268 (y := mn0) (pc' := 105) (argsL := [(.ref qL)]) (under := []) (W := 0) e268 (tw16 hw) (tw17 hw) (tw19 hw) (tw18 hw) (tw20 hw) (tw5 hw) (by decide) (rm_eqL l Z a0 hw o252 qL h268 EL) f270 (lenOf pd_3 rfl) rfl rfl (by decide) (by decide) rfl rfl (by decide) (by decide) rfl at_102 rfl (fun T269 X269 e269 => ?_)
              show Go p e below _ (T269.setTop (mkF m 105 #[.val (.int i0), .val (.long i1), .second, .val (.long i2), .second, .val (.ref w_NODE), .val (.ref w_RELATIONSHIP), .val (.long i1), .second, .val (.int (((i0.toUInt32 >>> ((3 : Int32) &&& 31).toUInt32).toInt32) &&& (3 : Int32))), .val (.ref o252), .val (.ref qL), .unset] [(.int (0 : Int32))]))
              refine s_ifN B X269 (pc' := 108) at_105 (by decide) rfl ?_
              refine s_iconst B X269 (pc' := 109) (v := (1 : Int32)) at_108 rfl rfl ?_
              refine s_goto B X269 (pc' := 113) at_109 (by decide) (by decide) ?_
              exact r_nar B X269 (t := .boolean) (by simp) rfl at_113 ⟨rfl, N268⟩ (by decide) (by decide)
          · refine s_aload B X253 (pc' := 73) at_71 rfl rfl rfl ?_
            refine s_aconst_null B X253 (pc' := 74) at_73 rfl ?_
            have f271 := (A252.keep Kq253)
            refine p_virtual B X253 (y := mn0) (pc' := 77) (argsL := [.null]) (under := []) (W := 0) e253 (tw16 hw) (tw17 hw) (tw19 hw) (tw18 hw) (tw20 hw) (tw5 hw) (by decide) (mm3_7 l Z a0 hw o252 i1 w_NODE w_RELATIONSHIP h253 F0 O253 ge_o252 f271 u253_0 u253_1 ) f271 (lenOf pd_3 rfl) rfl rfl (by decide) (by decide) rfl rfl (by decide) (by decide) rfl at_74 rfl (fun T272 X272 e272 => ?_)
            show Go p e below _ (T272.setTop (mkF m 77 #[.val (.int i0), .val (.long i1), .second, .val (.long i2), .second, .val (.ref w_NODE), .val (.ref w_RELATIONSHIP), .val (.long i1), .second, .val (.int (((i0.toUInt32 >>> ((3 : Int32) &&& 31).toUInt32).toInt32) &&& (3 : Int32))), .val (.ref o252), .unset, .unset] [(.int (0 : Int32))]))
            refine s_ifN B X272 (pc' := 80) at_77 (by decide) rfl ?_
            refine s_iconst B X272 (pc' := 81) (v := (1 : Int32)) at_80 rfl rfl ?_
            refine s_goto B X272 (pc' := 85) at_81 (by decide) (by decide) ?_
            exact r_nar B X272 (t := .boolean) (by simp) rfl at_85 ⟨rfl, N253⟩ (by decide) (by decide)
    · refine s_getS B X0 (pc' := 9) e0 (tw21 hw) Via.refl S_RELATIONSHIP at_6 rfl (fun T273 X273 e273 => ?_)
      refine s_goto B X273 (pc' := 15) at_9 (by decide) (by decide) ?_
      refine s_astore B X273 (pc' := 17) (Ls' := #[.val (.int i0), .val (.long i1), .second, .val (.long i2), .second, .val (.ref w_RELATIONSHIP), .unset, .unset, .unset, .unset, .unset, .unset, .unset]) at_15 rfl rfl rfl ?_
      refine s_iloadN B X273 (pc' := 18) at_17 rfl rfl ?_
      refine s_iconst B X273 (pc' := 19) (v := (2 : Int32)) at_18 rfl rfl ?_
      refine s_iand B X273 (pc' := 20) (v := (i0 &&& (2 : Int32))) at_19 rfl rfl ?_
      refine b_if_eq B X273 (py := 29) (pn := 23) at_20 (by decide) (by decide) rfl (fun hc20_274 => ?_) (fun hc20_274 => ?_)
      · refine s_getS B X273 (pc' := 32) e273 (tw0 hw) Via.refl S_NODE at_29 rfl (fun T275 X275 e275 => ?_)
        refine s_astore B X275 (pc' := 34) (Ls' := #[.val (.int i0), .val (.long i1), .second, .val (.long i2), .second, .val (.ref w_RELATIONSHIP), .val (.ref w_NODE), .unset, .unset, .unset, .unset, .unset, .unset]) at_32 rfl rfl rfl ?_
        refine s_iloadN B X275 (pc' := 35) at_34 rfl rfl ?_
        refine s_iconst B X275 (pc' := 36) (v := (4 : Int32)) at_35 rfl rfl ?_
        refine s_iand B X275 (pc' := 37) (v := (i0 &&& (4 : Int32))) at_36 rfl rfl ?_
        refine b_if_eq B X275 (py := 44) (pn := 40) at_37 (by decide) (by decide) rfl (fun hc37_276 => ?_) (fun hc37_276 => ?_)
        · refine s_lloadN B X275 (pc' := 45) at_44 rfl rfl ?_
          refine s_lstore B X275 (pc' := 47) (Ls' := #[.val (.int i0), .val (.long i1), .second, .val (.long i2), .second, .val (.ref w_RELATIONSHIP), .val (.ref w_NODE), .val (.long i2), .second, .unset, .unset, .unset, .unset]) at_45 rfl rfl ?_
          refine s_iloadN B X275 (pc' := 48) at_47 rfl rfl ?_
          refine s_iconst B X275 (pc' := 49) (v := (3 : Int32)) at_48 rfl rfl ?_
          refine s_iushr B X275 (pc' := 50) (v := ((i0.toUInt32 >>> ((3 : Int32) &&& 31).toUInt32).toInt32)) at_49 rfl rfl ?_
          refine s_iconst B X275 (pc' := 51) (v := (3 : Int32)) at_50 rfl rfl ?_
          refine s_iand B X275 (pc' := 52) (v := (((i0.toUInt32 >>> ((3 : Int32) &&& 31).toUInt32).toInt32) &&& (3 : Int32))) at_51 rfl rfl ?_
          refine s_istore B X275 (pc' := 54) (Ls' := #[.val (.int i0), .val (.long i1), .second, .val (.long i2), .second, .val (.ref w_RELATIONSHIP), .val (.ref w_NODE), .val (.long i2), .second, .val (.int (((i0.toUInt32 >>> ((3 : Int32) &&& 31).toUInt32).toInt32) &&& (3 : Int32))), .unset, .unset, .unset]) at_52 rfl rfl ?_
          refine s_new B X275 (pc' := 57) (n0 := 2) e275 (tw3 hw) (tw4 hw) (tw5 hw) (by decide) (by decide) at_54 rfl (fun T277 h277 o277 g277 X277 e277 E277 A277 D277 => ?_)
          have ge_o277 : Z.heap.size ≤ o277 := g277 ▸ old_le (Old.start Z)
          have O277 := ((Old.start Z)).ext E277
          have F277 := OwnF.ext O277.2 F0
          have D277_kind : Fld Z h277 o277 "com/example/isolation/isolation/EntityKey" "kind" "Lcom/example/isolation/isolation/EntityKind;" .null := D277 (Or.inr (tw13 hw)) (ty := (.object "com/example/isolation/isolation/EntityKind")) (by decide)
          have D277_id : Fld Z h277 o277 "com/example/isolation/isolation/EntityKey" "id" "J" (.long (0 : Int64)) := D277 (Or.inr (tw15 hw)) (ty := .long) (by decide)
          show Go p e below _ (T277.setTop (mkF m 57 #[.val (.int i0), .val (.long i1), .second, .val (.long i2), .second, .val (.ref w_RELATIONSHIP), .val (.ref w_NODE), .val (.long i2), .second, .val (.int (((i0.toUInt32 >>> ((3 : Int32) &&& 31).toUInt32).toInt32) &&& (3 : Int32))), .unset, .unset, .unset] [(.ref o277)]))
          refine s_dup B X277 (pc' := 58) at_57 rfl rfl ?_
          refine s_aload B X277 (pc' := 60) at_58 rfl rfl rfl ?_
          refine s_lloadN B X277 (pc' := 61) at_60 rfl rfl ?_
          refine c_init B X277 (y := mn4) (pc' := 64) (argsL := [(.ref w_RELATIONSHIP), (.long i1)]) (under := [(.ref o277)]) (W := 1) e277 rfl (tw6 hw) (tw7 hw) (tw8 hw) (tw5 hw) (by decide) (mm1_9 l Z a0 hw o277 i1 w_NODE w_RELATIONSHIP h277 F0 O277 ge_o277 A277 D277_id D277_kind ) (lenOf pd_2 rfl) rfl rfl (by decide) (by decide) (by decide) (by decide) rfl at_61 rfl (fun v278 T278 L278 X278 hQ278 => ?_)
          obtain ⟨rfl, Nq278, Kq278, u278_0, u278_1⟩ := hQ278
          obtain ⟨h278, e278⟩ : ∃ z, T278.heap = z := ⟨_, rfl⟩
          rw [e278] at Kq278 u278_0 u278_1
          have N278 := Fr.app (Fr.nil _) Nq278
          have O278 := (O277).keep Kq278 (allS ge_o277 all0)
          have F278 := OwnF.ext O278.2 F0
          show Go p e below _ (T278.setTop (mkF m 64 #[.val (.int i0), .val (.long i1), .second, .val (.long i2), .second, .val (.ref w_RELATIONSHIP), .val (.ref w_NODE), .val (.long i2), .second, .val (.int (((i0.toUInt32 >>> ((3 : Int32) &&& 31).toUInt32).toInt32) &&& (3 : Int32))), .unset, .unset, .unset] [(.ref o277)]))
          refine s_astore B X278 (pc' := 66) (Ls' := #[.val (.int i0), .val (.long i1), .second, .val (.long i2), .second, .val (.ref w_RELATIONSHIP), .val (.ref w_NODE), .val (.long i2), .second, .val (.int (((i0.toUInt32 >>> ((3 : Int32) &&& 31).toUInt32).toInt32) &&& (3 : Int32))), .val (.ref o277), .unset, .unset]) at_64 rfl rfl rfl ?_
          refine s_iload B X278 (pc' := 68) at_66 rfl rfl ?_
          refine b_if_ne B X278 (py := 86) (pn := 71) at_68 (by decide) (by decide) rfl (fun hc68_279 => ?_) (fun hc68_279 => ?_)
          · refine s_iload B X278 (pc' := 88) at_86 rfl rfl ?_
            refine s_iconst B X278 (pc' := 89) (v := (1 : Int32)) at_88 rfl rfl ?_
            refine b_icmp_ne B X278 (py := 114) (pn := 92) at_89 (by decide) (by decide) rfl (fun hc89_280 => ?_) (fun hc89_280 => ?_)
            · refine s_iload B X278 (pc' := 116) at_114 rfl rfl ?_
              refine s_iconst B X278 (pc' := 117) (v := (2 : Int32)) at_116 rfl rfl ?_
              refine b_icmp_ne B X278 (py := 128) (pn := 120) at_117 (by decide) (by decide) rfl (fun hc117_281 => ?_) (fun hc117_281 => ?_)
              · refine s_new B X278 (pc' := 131) (n0 := 2) e278 (tw3 hw) (tw4 hw) (tw5 hw) (by decide) (by decide) at_128 rfl (fun T282 h282 o282 g282 X282 e282 E282 A282 D282 => ?_)
                have f283 := (A277.keep Kq278)
                have ne_o277_o282 : o277 ≠ o282 := Nat.ne_of_lt (g282 ▸ f283.lt)
                have ge_o282 : Z.heap.size ≤ o282 := g282 ▸ old_le O278
                have O282 := (O278).ext E282
                have F282 := OwnF.ext O282.2 F0
                have D282_kind : Fld Z h282 o282 "com/example/isolation/isolation/EntityKey" "kind" "Lcom/example/isolation/isolation/EntityKind;" .null := D282 (Or.inr (tw13 hw)) (ty := (.object "com/example/isolation/isolation/EntityKind")) (by decide)
                have D282_id : Fld Z h282 o282 "com/example/isolation/isolation/EntityKey" "id" "J" (.long (0 : Int64)) := D282 (Or.inr (tw15 hw)) (ty := .long) (by decide)
                show Go p e below _ (T282.setTop (mkF m 131 #[.val (.int i0), .val (.long i1), .second, .val (.long i2), .second, .val (.ref w_RELATIONSHIP), .val (.ref w_NODE), .val (.long i2), .second, .val (.int (((i0.toUInt32 >>> ((3 : Int32) &&& 31).toUInt32).toInt32) &&& (3 : Int32))), .val (.ref o277), .unset, .unset] [(.ref o282)]))
                refine s_dup B X282 (pc' := 132) at_131 rfl rfl ?_
                refine s_aload B X282 (pc' := 134) at_132 rfl rfl rfl ?_
                refine s_lload B X282 (pc' := 136) at_134 rfl rfl ?_
                refine c_init B X282 (y := mn4) (pc' := 139) (argsL := [(.ref w_NODE), (.long i2)]) (under := [(.ref o282)]) (W := 1) e282 rfl (tw6 hw) (tw7 hw) (tw8 hw) (tw5 hw) (by decide) (mm1_3 l Z a0 hw o282 i2 w_NODE w_RELATIONSHIP h282 F0 O282 ge_o282 A282 D282_id D282_kind ) (lenOf pd_2 rfl) rfl rfl (by decide) (by decide) (by decide) (by decide) rfl at_136 rfl (fun v284 T284 L284 X284 hQ284 => ?_)
                obtain ⟨rfl, Nq284, Kq284, u284_0, u284_1⟩ := hQ284
                obtain ⟨h284, e284⟩ : ∃ z, T284.heap = z := ⟨_, rfl⟩
                rw [e284] at Kq284 u284_0 u284_1
                have N284 := Fr.app N278 Nq284
                have O284 := (O282).keep Kq284 (allS ge_o282 all0)
                have F284 := OwnF.ext O284.2 F0
                show Go p e below _ (T284.setTop (mkF m 139 #[.val (.int i0), .val (.long i1), .second, .val (.long i2), .second, .val (.ref w_RELATIONSHIP), .val (.ref w_NODE), .val (.long i2), .second, .val (.int (((i0.toUInt32 >>> ((3 : Int32) &&& 31).toUInt32).toInt32) &&& (3 : Int32))), .val (.ref o277), .unset, .unset] [(.ref o282)]))
                refine s_astore B X284 (pc' := 141) (Ls' := #[.val (.int i0), .val (.long i1), .second, .val (.long i2), .second, .val (.ref w_RELATIONSHIP), .val (.ref w_NODE), .val (.long i2), .second, .val (.int (((i0.toUInt32 >>> ((3 : Int32) &&& 31).toUInt32).toInt32) &&& (3 : Int32))), .val (.ref o277), .val (.ref o282), .unset]) at_139 rfl rfl rfl ?_
                refine s_aload B X284 (pc' := 143) at_141 rfl rfl rfl ?_
                refine s_aload B X284 (pc' := 145) at_143 rfl rfl rfl ?_
                refine b_acmp_ne B X284 (py := 159) (pn := 148) at_145 (by decide) (by decide) rfl (fun _ => ?_) (fun q => absurd q (own_ne_w_RELATIONSHIP_w_NODE F284))
                refine s_iconst B X284 (pc' := 160) (v := (0 : Int32)) at_159 rfl rfl ?_
                refine s_istore B X284 (pc' := 162) (Ls' := #[.val (.int i0), .val (.long i1), .second, .val (.long i2), .second, .val (.ref w_RELATIONSHIP), .val (.ref w_NODE), .val (.long i2), .second, .val (.int (((i0.toUInt32 >>> ((3 : Int32) &&& 31).toUInt32).toInt32) &&& (3 : Int32))), .val (.ref o277), .val (.ref o282), .val (.int (0 : Int32))]) at_160 rfl rfl ?_
                refine s_aload B X284 (pc' := 164) at_162 rfl rfl rfl ?_
                refine s_aload B X284 (pc' := 166) at_164 rfl rfl rfl ?_
                have f285 := ((f283.ext E282).keep Kq284)
                have f286 := ((u278_0.ext E282).keep Kq284 (ninS ne_o277_o282 nin0))
                have f287 := ((u278_1.ext E282).keep Kq284 (ninS ne_o277_o282 nin0))
                have f288 := (A282.keep Kq284)
                refine p_virtual B X284 (y := mn0) (pc' := 169) (argsL := [(.ref o282)]) (under := []) (W := 0) e284 (tw16 hw) (tw17 hw) (tw19 hw) (tw18 hw) (tw20 hw) (tw5 hw) (by decide) (mm3_25 l Z a0 hw o277 o282 i1 i2 w_NODE w_RELATIONSHIP h284 F0 O284 ge_o277 f285 f286 f287 ge_o282 f288 u284_0 u284_1 ne_o277_o282 hE) f285 (lenOf pd_3 rfl) rfl rfl (by decide) (by decide) rfl rfl (by decide) (by decide) rfl at_166 rfl (fun T289 X289 e289 => ?_)
                show Go p e below _ (T289.setTop (mkF m 169 #[.val (.int i0), .val (.long i1), .second, .val (.long i2), .second, .val (.ref w_RELATIONSHIP), .val (.ref w_NODE), .val (.long i2), .second, .val (.int (((i0.toUInt32 >>> ((3 : Int32) &&& 31).toUInt32).toInt32) &&& (3 : Int32))), .val (.ref o277), .val (.ref o282), .val (.int (0 : Int32))] [(.int (0 : Int32))]))
                refine s_iload B X289 (pc' := 171) at_169 rfl rfl ?_
                refine s_icmpN B X289 (pc' := 174) at_171 (by decide) rfl ?_
                refine s_aload B X289 (pc' := 176) at_174 rfl rfl rfl ?_
                refine s_aload B X289 (pc' := 178) at_176 rfl rfl rfl ?_
                refine p_virtual B X289 (y := mn0) (pc' := 181) (argsL := [(.ref o277)]) (under := []) (W := 0) e289 (tw16 hw) (tw17 hw) (tw19 hw) (tw18 hw) (tw20 hw) (tw5 hw) (by decide) (mm3_26 l Z a0 hw o282 o277 i2 i1 w_NODE w_RELATIONSHIP h284 F0 O284 ge_o282 f288 u284_0 u284_1 ge_o277 f285 f286 f287 (Ne.symm ne_o277_o282) hE) f288 (lenOf pd_3 rfl) rfl rfl (by decide) (by decide) rfl rfl (by decide) (by decide) rfl at_178 rfl (fun T290 X290 e290 => ?_)
                show Go p e below _ (T290.setTop (mkF m 181 #[.val (.int i0), .val (.long i1), .second, .val (.long i2), .second, .val (.ref w_RELATIONSHIP), .val (.ref w_NODE), .val (.long i2), .second, .val (.int (((i0.toUInt32 >>> ((3 : Int32) &&& 31).toUInt32).toInt32) &&& (3 : Int32))), .val (.ref o277), .val (.ref o282), .val (.int (0 : Int32))] [(.int (0 : Int32))]))
                refine s_iload B X290 (pc' := 183) at_181 rfl rfl ?_
                refine s_icmpN B X290 (pc' := 186) at_183 (by decide) rfl ?_
                refine s_iconst B X290 (pc' := 187) (v := (1 : Int32)) at_186 rfl rfl ?_
                refine s_goto B X290 (pc' := 191) at_187 (by decide) (by decide) ?_
                exact r_nar B X290 (t := .boolean) (by simp) rfl at_191 ⟨rfl, N284⟩ (by decide) (by decide)
              · refine s_aload B X278 (pc' := 122) at_120 rfl rfl rfl ?_
                refine s_aload B X278 (pc' := 124) at_122 rfl rfl rfl ?_
                have f291 := (A277.keep Kq278)
                refine p_virtual B X278 (y := mn0) (pc' := 127) (argsL := [(.ref o277)]) (under := []) (W := 0) e278 (tw16 hw) (tw17 hw) (tw19 hw) (tw18 hw) (tw20 hw) (tw5 hw) (by decide) (mm3_16 l Z a0 hw o277 i1 w_NODE w_RELATIONSHIP h278 F0 O278 ge_o277 f291 u278_0 u278_1 ) f291 (lenOf pd_3 rfl) rfl rfl (by decide) (by decide) rfl rfl (by decide) (by decide) rfl at_124 rfl (fun T292 X292 e292 => ?_)
                show Go p e below _ (T292.setTop (mkF m 127 #[.val (.int i0), .val (.long i1), .second, .val (.long i2), .second, .val (.ref w_RELATIONSHIP), .val (.ref w_NODE), .val (.long i2), .second, .val (.int (((i0.toUInt32 >>> ((3 : Int32) &&& 31).toUInt32).toInt32) &&& (3 : Int32))), .val (.ref o277), .unset, .unset] [(.int (1 : Int32))]))
                exact r_nar B X292 (t := .boolean) (by simp) rfl at_127 ⟨rfl, N278⟩ (by decide) (by decide)
            · refine s_lloadN B X278 (pc' := 93) at_92 rfl rfl ?_
              refine c_static B X278 (y := mn3) (pc' := 96) (argsL := [(.long i1)]) (under := []) (W := 0) e278 (tw25 hw) (tw26 hw) (tw28 hw) (tw27 hw) (by decide) (rm_valueOf l Z a0 hw i1 w_NODE w_RELATIONSHIP h278 F0 O278) (lenOf pd_4 rfl) rfl rfl (by decide) (by decide) (by decide) (by decide) rfl at_93 rfl (fun v293 T293 L293 X293 hQ => ?_)
              obtain ⟨qL, rfl, Nq, Kq, EL⟩ := hQ
              obtain ⟨h293, e293⟩ : ∃ z, T293.heap = z := ⟨_, rfl⟩
              rw [e293] at Kq EL
              have N293 := Fr.app N278 Nq
              have O293 := (O278).keep Kq all0
              have F293 := OwnF.ext O293.2 F0
              show Go p e below _ (T293.setTop (mkF m 96 #[.val (.int i0), .val (.long i1), .second, .val (.long i2), .second, .val (.ref w_RELATIONSHIP), .val (.ref w_NODE), .val (.long i2), .second, .val (.int (((i0.toUInt32 >>> ((3 : Int32) &&& 31).toUInt32).toInt32) &&& (3 : Int32))), .val (.ref o277), .unset, .unset] [(.ref qL)]))
              refine s_astore B X293 (pc' := 98) (Ls' := #[.val (.int i0), .val (.long i1), .second, .val (.long i2), .second, .val (.ref w_RELATIONSHIP), .val (.ref w_NODE), .val (.long i2), .second, .val (.int (((i0.toUInt32 >>> ((3 : Int32) &&& 31).toUInt32).toInt32) &&& (3 : Int32))), .val (.ref o277), .val (.ref qL), .unset]) at_96 rfl rfl rfl ?_
              refine s_aload B X293 (pc' := 100) at_98 rfl rfl rfl ?_
              refine s_aload B X293 (pc' := 102) at_100 rfl rfl rfl ?_
              have f295 := ((A277.keep Kq278).keep Kq)
              refine p_virtual B X293 (y := mn0) (pc' := 105) (argsL := [(.ref qL)]) (under := []) (W := 0) e293 (tw16 hw) (tw17 hw) (tw19 hw) (tw18 hw) (tw20 hw) (tw5 hw) (by decide) (rm_eqL l Z a0 hw o277 qL h293 EL) f295 (lenOf pd_3 rfl) rfl rfl (by decide) (by decide) rfl rfl (by decide) (by decide) rfl at_102 rfl (fun T294 X294 e294 => ?_)
              show Go p e below _ (T294.setTop (mkF m 105 #[.val (.int i0), .val (.long i1), .second, .val (.long i2), .second, .val (.ref w_RELATIONSHIP), .val (.ref w_NODE), .val (.long i2), .second, .val (.int (((i0.toUInt32 >>> ((3 : Int32) &&& 31).toUInt32).toInt32) &&& (3 : Int32))), .val (.ref o277), .val (.ref qL), .unset] [(.int (0 : Int32))]))
              refine s_ifN B X294 (pc' := 108) at_105 (by decide) rfl ?_
              refine s_iconst B X294 (pc' := 109) (v := (1 : Int32)) at_108 rfl rfl ?_
              refine s_goto B X294 (pc' := 113) at_109 (by decide) (by decide) ?_
              exact r_nar B X294 (t := .boolean) (by simp) rfl at_113 ⟨rfl, N293⟩ (by decide) (by decide)
          · refine s_aload B X278 (pc' := 73) at_71 rfl rfl rfl ?_
            refine s_aconst_null B X278 (pc' := 74) at_73 rfl ?_
            have f296 := (A277.keep Kq278)
            refine p_virtual B X278 (y := mn0) (pc' := 77) (argsL := [.null]) (under := []) (W := 0) e278 (tw16 hw) (tw17 hw) (tw19 hw) (tw18 hw) (tw20 hw) (tw5 hw) (by decide) (mm3_17 l Z a0 hw o277 i1 w_NODE w_RELATIONSHIP h278 F0 O278 ge_o277 f296 u278_0 u278_1 ) f296 (lenOf pd_3 rfl) rfl rfl (by decide) (by decide) rfl rfl (by decide) (by decide) rfl at_74 rfl (fun T297 X297 e297 => ?_)
            show Go p e below _ (T297.setTop (mkF m 77 #[.val (.int i0), .val (.long i1), .second, .val (.long i2), .second, .val (.ref w_RELATIONSHIP), .val (.ref w_NODE), .val (.long i2), .second, .val (.int (((i0.toUInt32 >>> ((3 : Int32) &&& 31).toUInt32).toInt32) &&& (3 : Int32))), .val (.ref o277), .unset, .unset] [(.int (0 : Int32))]))
            refine s_ifN B X297 (pc' := 80) at_77 (by decide) rfl ?_
            refine s_iconst B X297 (pc' := 81) (v := (1 : Int32)) at_80 rfl rfl ?_
            refine s_goto B X297 (pc' := 85) at_81 (by decide) (by decide) ?_
            exact r_nar B X297 (t := .boolean) (by simp) rfl at_85 ⟨rfl, N278⟩ (by decide) (by decide)
        · refine s_lloadN B X275 (pc' := 41) at_40 rfl rfl ?_
          refine s_goto B X275 (pc' := 45) at_41 (by decide) (by decide) ?_
          refine s_lstore B X275 (pc' := 47) (Ls' := #[.val (.int i0), .val (.long i1), .second, .val (.long i2), .second, .val (.ref w_RELATIONSHIP), .val (.ref w_NODE), .val (.long i1), .second, .unset, .unset, .unset, .unset]) at_45 rfl rfl ?_
          refine s_iloadN B X275 (pc' := 48) at_47 rfl rfl ?_
          refine s_iconst B X275 (pc' := 49) (v := (3 : Int32)) at_48 rfl rfl ?_
          refine s_iushr B X275 (pc' := 50) (v := ((i0.toUInt32 >>> ((3 : Int32) &&& 31).toUInt32).toInt32)) at_49 rfl rfl ?_
          refine s_iconst B X275 (pc' := 51) (v := (3 : Int32)) at_50 rfl rfl ?_
          refine s_iand B X275 (pc' := 52) (v := (((i0.toUInt32 >>> ((3 : Int32) &&& 31).toUInt32).toInt32) &&& (3 : Int32))) at_51 rfl rfl ?_
          refine s_istore B X275 (pc' := 54) (Ls' := #[.val (.int i0), .val (.long i1), .second, .val (.long i2), .second, .val (.ref w_RELATIONSHIP), .val (.ref w_NODE), .val (.long i1), .second, .val (.int (((i0.toUInt32 >>> ((3 : Int32) &&& 31).toUInt32).toInt32) &&& (3 : Int32))), .unset, .unset, .unset]) at_52 rfl rfl ?_
          refine s_new B X275 (pc' := 57) (n0 := 2) e275 (tw3 hw) (tw4 hw) (tw5 hw) (by decide) (by decide) at_54 rfl (fun T298 h298 o298 g298 X298 e298 E298 A298 D298 => ?_)
          have ge_o298 : Z.heap.size ≤ o298 := g298 ▸ old_le (Old.start Z)
          have O298 := ((Old.start Z)).ext E298
          have F298 := OwnF.ext O298.2 F0
          have D298_kind : Fld Z h298 o298 "com/example/isolation/isolation/EntityKey" "kind" "Lcom/example/isolation/isolation/EntityKind;" .null := D298 (Or.inr (tw13 hw)) (ty := (.object "com/example/isolation/isolation/EntityKind")) (by decide)
          have D298_id : Fld Z h298 o298 "com/example/isolation/isolation/EntityKey" "id" "J" (.long (0 : Int64)) := D298 (Or.inr (tw15 hw)) (ty := .long) (by decide)
          show Go p e below _ (T298.setTop (mkF m 57 #[.val (.int i0), .val (.long i1), .second, .val (.long i2), .second, .val (.ref w_RELATIONSHIP), .val (.ref w_NODE), .val (.long i1), .second, .val (.int (((i0.toUInt32 >>> ((3 : Int32) &&& 31).toUInt32).toInt32) &&& (3 : Int32))), .unset, .unset, .unset] [(.ref o298)]))
          refine s_dup B X298 (pc' := 58) at_57 rfl rfl ?_
          refine s_aload B X298 (pc' := 60) at_58 rfl rfl rfl ?_
          refine s_lloadN B X298 (pc' := 61) at_60 rfl rfl ?_
          refine c_init B X298 (y := mn4) (pc' := 64) (argsL := [(.ref w_RELATIONSHIP), (.long i1)]) (under := [(.ref o298)]) (W := 1) e298 rfl (tw6 hw) (tw7 hw) (tw8 hw) (tw5 hw) (by decide) (mm1_9 l Z a0 hw o298 i1 w_NODE w_RELATIONSHIP h298 F0 O298 ge_o298 A298 D298_id D298_kind ) (lenOf pd_2 rfl) rfl rfl (by decide) (by decide) (by decide) (by decide) rfl at_61 rfl (fun v299 T299 L299 X299 hQ299 => ?_)
          obtain ⟨rfl, Nq299, Kq299, u299_0, u299_1⟩ := hQ299
          obtain ⟨h299, e299⟩ : ∃ z, T299.heap = z := ⟨_, rfl⟩
          rw [e299] at Kq299 u299_0 u299_1
          have N299 := Fr.app (Fr.nil _) Nq299
          have O299 := (O298).keep Kq299 (allS ge_o298 all0)
          have F299 := OwnF.ext O299.2 F0
          show Go p e below _ (T299.setTop (mkF m 64 #[.val (.int i0), .val (.long i1), .second, .val (.long i2), .second, .val (.ref w_RELATIONSHIP), .val (.ref w_NODE), .val (.long i1), .second, .val (.int (((i0.toUInt32 >>> ((3 : Int32) &&& 31).toUInt32).toInt32) &&& (3 : Int32))), .unset, .unset, .unset] [(.ref o298)]))
          refine s_astore B X299 (pc' := 66) (Ls' := #[.val (.int i0), .val (.long i1), .second, .val (.long i2), .second, .val (.ref w_RELATIONSHIP), .val (.ref w_NODE), .val (.long i1), .second, .val (.int (((i0.toUInt32 >>> ((3 : Int32) &&& 31).toUInt32).toInt32) &&& (3 : Int32))), .val (.ref o298), .unset, .unset]) at_64 rfl rfl rfl ?_
          refine s_iload B X299 (pc' := 68) at_66 rfl rfl ?_
          refine b_if_ne B X299 (py := 86) (pn := 71) at_68 (by decide) (by decide) rfl (fun hc68_300 => ?_) (fun hc68_300 => ?_)
          · refine s_iload B X299 (pc' := 88) at_86 rfl rfl ?_
            refine s_iconst B X299 (pc' := 89) (v := (1 : Int32)) at_88 rfl rfl ?_
            refine b_icmp_ne B X299 (py := 114) (pn := 92) at_89 (by decide) (by decide) rfl (fun hc89_301 => ?_) (fun hc89_301 => ?_)
            · refine s_iload B X299 (pc' := 116) at_114 rfl rfl ?_
              refine s_iconst B X299 (pc' := 117) (v := (2 : Int32)) at_116 rfl rfl ?_
              refine b_icmp_ne B X299 (py := 128) (pn := 120) at_117 (by decide) (by decide) rfl (fun hc117_302 => ?_) (fun hc117_302 => ?_)
              · refine s_new B X299 (pc' := 131) (n0 := 2) e299 (tw3 hw) (tw4 hw) (tw5 hw) (by decide) (by decide) at_128 rfl (fun T303 h303 o303 g303 X303 e303 E303 A303 D303 => ?_)
                have f304 := (A298.keep Kq299)
                have ne_o298_o303 : o298 ≠ o303 := Nat.ne_of_lt (g303 ▸ f304.lt)
                have ge_o303 : Z.heap.size ≤ o303 := g303 ▸ old_le O299
                have O303 := (O299).ext E303
                have F303 := OwnF.ext O303.2 F0
                have D303_kind : Fld Z h303 o303 "com/example/isolation/isolation/EntityKey" "kind" "Lcom/example/isolation/isolation/EntityKind;" .null := D303 (Or.inr (tw13 hw)) (ty := (.object "com/example/isolation/isolation/EntityKind")) (by decide)
                have D303_id : Fld Z h303 o303 "com/example/isolation/isolation/EntityKey" "id" "J" (.long (0 : Int64)) := D303 (Or.inr (tw15 hw)) (ty := .long) (by decide)
                show Go p e below _ (T303.setTop (mkF m 131 #[.val (.int i0), .val (.long i1), .second, .val (.long i2), .second, .val (.ref w_RELATIONSHIP), .val (.ref w_NODE), .val (.long i1), .second, .val (.int (((i0.toUInt32 >>> ((3 : Int32) &&& 31).toUInt32).toInt32) &&& (3 : Int32))), .val (.ref o298), .unset, .unset] [(.ref o303)]))
                refine s_dup B X303 (pc' := 132) at_131 rfl rfl ?_
                refine s_aload B X303 (pc' := 134) at_132 rfl rfl rfl ?_
                refine s_lload B X303 (pc' := 136) at_134 rfl rfl ?_
                refine c_init B X303 (y := mn4) (pc' := 139) (argsL := [(.ref w_NODE), (.long i1)]) (under := [(.ref o303)]) (W := 1) e303 rfl (tw6 hw) (tw7 hw) (tw8 hw) (tw5 hw) (by decide) (mm1_3 l Z a0 hw o303 i1 w_NODE w_RELATIONSHIP h303 F0 O303 ge_o303 A303 D303_id D303_kind ) (lenOf pd_2 rfl) rfl rfl (by decide) (by decide) (by decide) (by decide) rfl at_136 rfl (fun v305 T305 L305 X305 hQ305 => ?_)
                obtain ⟨rfl, Nq305, Kq305, u305_0, u305_1⟩ := hQ305
                obtain ⟨h305, e305⟩ : ∃ z, T305.heap = z := ⟨_, rfl⟩
                rw [e305] at Kq305 u305_0 u305_1
                have N305 := Fr.app N299 Nq305
                have O305 := (O303).keep Kq305 (allS ge_o303 all0)
                have F305 := OwnF.ext O305.2 F0
                show Go p e below _ (T305.setTop (mkF m 139 #[.val (.int i0), .val (.long i1), .second, .val (.long i2), .second, .val (.ref w_RELATIONSHIP), .val (.ref w_NODE), .val (.long i1), .second, .val (.int (((i0.toUInt32 >>> ((3 : Int32) &&& 31).toUInt32).toInt32) &&& (3 : Int32))), .val (.ref o298), .unset, .unset] [(.ref o303)]))
                refine s_astore B X305 (pc' := 141) (Ls' := #[.val (.int i0), .val (.long i1), .second, .val (.long i2), .second, .val (.ref w_RELATIONSHIP), .val (.ref w_NODE), .val (.long i1), .second, .val (.int (((i0.toUInt32 >>> ((3 : Int32) &&& 31).toUInt32).toInt32) &&& (3 : Int32))), .val (.ref o298), .val (.ref o303), .unset]) at_139 rfl rfl rfl ?_
                refine s_aload B X305 (pc' := 143) at_141 rfl rfl rfl ?_
                refine s_aload B X305 (pc' := 145) at_143 rfl rfl rfl ?_
                refine b_acmp_ne B X305 (py := 159) (pn := 148) at_145 (by decide) (by decide) rfl (fun _ => ?_) (fun q => absurd q (own_ne_w_RELATIONSHIP_w_NODE F305))
                refine s_iconst B X305 (pc' := 160) (v := (0 : Int32)) at_159 rfl rfl ?_
                refine s_istore B X305 (pc' := 162) (Ls' := #[.val (.int i0), .val (.long i1), .second, .val (.long i2), .second, .val (.ref w_RELATIONSHIP), .val (.ref w_NODE), .val (.long i1), .second, .val (.int (((i0.toUInt32 >>> ((3 : Int32) &&& 31).toUInt32).toInt32) &&& (3 : Int32))), .val (.ref o298), .val (.ref o303), .val (.int (0 : Int32))]) at_160 rfl rfl ?_
                refine s_aload B X305 (pc' := 164) at_162 rfl rfl rfl ?_
                refine s_aload B X305 (pc' := 166) at_164 rfl rfl rfl ?_
                have f306 := ((f304.ext E303).keep Kq305)
                have f307 := ((u299_0.ext E303).keep Kq305 (ninS ne_o298_o303 nin0))
                have f308 := ((u299_1.ext E303).keep Kq305 (ninS ne_o298_o303 nin0))
                have f309 := (A303.keep Kq305)
                refine p_virtual B X305 (y := mn0) (pc' := 169) (argsL := [(.ref o303)]) (under := []) (W := 0) e305 (tw16 hw) (tw17 hw) (tw19 hw) (tw18 hw) (tw20 hw) (tw5 hw) (by decide) (mm3_13 l Z a0 hw o298 o303 i1 w_NODE w_RELATIONSHIP h305 F0 O305 ge_o298 f306 f307 f308 ge_o303 f309 u305_0 u305_1 ne_o298_o303 ) f306 (lenOf pd_3 rfl) rfl rfl (by decide) (by decide) rfl rfl (by decide) (by decide) rfl at_166 rfl (fun T310 X310 e310 => ?_)
                show Go p e below _ (T310.setTop (mkF m 169 #[.val (.int i0), .val (.long i1), .second, .val (.long i2), .second, .val (.ref w_RELATIONSHIP), .val (.ref w_NODE), .val (.long i1), .second, .val (.int (((i0.toUInt32 >>> ((3 : Int32) &&& 31).toUInt32).toInt32) &&& (3 : Int32))), .val (.ref o298), .val (.ref o303), .val (.int (0 : Int32))] [(.int (0 : Int32))]))
                refine s_iload B X310 (pc' := 171) at_169 rfl rfl ?_
                refine s_icmpN B X310 (pc' := 174) at_171 (by decide) rfl ?_
                refine s_aload B X310 (pc' := 176) at_174 rfl rfl rfl ?_
                refine s_aload B X310 (pc' := 178) at_176 rfl rfl rfl ?_
                refine p_virtual B X310 (y := mn0) (pc' := 181) (argsL := [(.ref o298)]) (under := []) (W := 0) e310 (tw16 hw) (tw17 hw) (tw19 hw) (tw18 hw) (tw20 hw) (tw5 hw) (by decide) (mm3_12 l Z a0 hw o303 o298 i1 w_NODE w_RELATIONSHIP h305 F0 O305 ge_o303 f309 u305_0 u305_1 ge_o298 f306 f307 f308 (Ne.symm ne_o298_o303) ) f309 (lenOf pd_3 rfl) rfl rfl (by decide) (by decide) rfl rfl (by decide) (by decide) rfl at_178 rfl (fun T311 X311 e311 => ?_)
                show Go p e below _ (T311.setTop (mkF m 181 #[.val (.int i0), .val (.long i1), .second, .val (.long i2), .second, .val (.ref w_RELATIONSHIP), .val (.ref w_NODE), .val (.long i1), .second, .val (.int (((i0.toUInt32 >>> ((3 : Int32) &&& 31).toUInt32).toInt32) &&& (3 : Int32))), .val (.ref o298), .val (.ref o303), .val (.int (0 : Int32))] [(.int (0 : Int32))]))
                refine s_iload B X311 (pc' := 183) at_181 rfl rfl ?_
                refine s_icmpN B X311 (pc' := 186) at_183 (by decide) rfl ?_
                refine s_iconst B X311 (pc' := 187) (v := (1 : Int32)) at_186 rfl rfl ?_
                refine s_goto B X311 (pc' := 191) at_187 (by decide) (by decide) ?_
                exact r_nar B X311 (t := .boolean) (by simp) rfl at_191 ⟨rfl, N305⟩ (by decide) (by decide)
              · refine s_aload B X299 (pc' := 122) at_120 rfl rfl rfl ?_
                refine s_aload B X299 (pc' := 124) at_122 rfl rfl rfl ?_
                have f312 := (A298.keep Kq299)
                refine p_virtual B X299 (y := mn0) (pc' := 127) (argsL := [(.ref o298)]) (under := []) (W := 0) e299 (tw16 hw) (tw17 hw) (tw19 hw) (tw18 hw) (tw20 hw) (tw5 hw) (by decide) (mm3_16 l Z a0 hw o298 i1 w_NODE w_RELATIONSHIP h299 F0 O299 ge_o298 f312 u299_0 u299_1 ) f312 (lenOf pd_3 rfl) rfl rfl (by decide) (by decide) rfl rfl (by decide) (by decide) rfl at_124 rfl (fun T313 X313 e313 => ?_)
                show Go p e below _ (T313.setTop (mkF m 127 #[.val (.int i0), .val (.long i1), .second, .val (.long i2), .second, .val (.ref w_RELATIONSHIP), .val (.ref w_NODE), .val (.long i1), .second, .val (.int (((i0.toUInt32 >>> ((3 : Int32) &&& 31).toUInt32).toInt32) &&& (3 : Int32))), .val (.ref o298), .unset, .unset] [(.int (1 : Int32))]))
                exact r_nar B X313 (t := .boolean) (by simp) rfl at_127 ⟨rfl, N299⟩ (by decide) (by decide)
            · refine s_lloadN B X299 (pc' := 93) at_92 rfl rfl ?_
              refine c_static B X299 (y := mn3) (pc' := 96) (argsL := [(.long i1)]) (under := []) (W := 0) e299 (tw25 hw) (tw26 hw) (tw28 hw) (tw27 hw) (by decide) (rm_valueOf l Z a0 hw i1 w_NODE w_RELATIONSHIP h299 F0 O299) (lenOf pd_4 rfl) rfl rfl (by decide) (by decide) (by decide) (by decide) rfl at_93 rfl (fun v314 T314 L314 X314 hQ => ?_)
              obtain ⟨qL, rfl, Nq, Kq, EL⟩ := hQ
              obtain ⟨h314, e314⟩ : ∃ z, T314.heap = z := ⟨_, rfl⟩
              rw [e314] at Kq EL
              have N314 := Fr.app N299 Nq
              have O314 := (O299).keep Kq all0
              have F314 := OwnF.ext O314.2 F0
              show Go p e below _ (T314.setTop (mkF m 96 #[.val (.int i0), .val (.long i1), .second, .val (.long i2), .second, .val (.ref w_RELATIONSHIP), .val (.ref w_NODE), .val (.long i1), .second, .val (.int (((i0.toUInt32 >>> ((3 : Int32) &&& 31).toUInt32).toInt32) &&& (3 : Int32))), .val (.ref o298), .unset, .unset] [(.ref qL)]))
              refine s_astore B X314 (pc' := 98) (Ls' := #[.val (.int i0), .val (.long i1), .second, .val (.long i2), .second, .val (.ref w_RELATIONSHIP), .val (.ref w_NODE), .val (.long i1), .second, .val (.int (((i0.toUInt32 >>> ((3 : Int32) &&& 31).toUInt32).toInt32) &&& (3 : Int32))), .val (.ref o298), .val (.ref qL), .unset]) at_96 rfl rfl rfl ?_
              refine s_aload B X314 (pc' := 100) at_98 rfl rfl rfl ?_
              refine s_aload B X314 (pc' := 102) at_100 rfl rfl rfl ?_
              have f316 := ((A298.keep Kq299).keep Kq)
              refine p_virtual B X314 (y := mn0) (pc' := 105) (argsL := [(.ref qL)]) (under := []) (W := 0) e314 (tw16 hw) (tw17 hw) (tw19 hw) (tw18 hw) (tw20 hw) (tw5 hw) (by decide) (rm_eqL l Z a0 hw o298 qL h314 EL) f316 (lenOf pd_3 rfl) rfl rfl (by decide) (by decide) rfl rfl (by decide) (by decide) rfl at_102 rfl (fun T315 X315 e315 => ?_)
              show Go p e below _ (T315.setTop (mkF m 105 #[.val (.int i0), .val (.long i1), .second, .val (.long i2), .second, .val (.ref w_RELATIONSHIP), .val (.ref w_NODE), .val (.long i1), .second, .val (.int (((i0.toUInt32 >>> ((3 : Int32) &&& 31).toUInt32).toInt32) &&& (3 : Int32))), .val (.ref o298), .val (.ref qL), .unset] [(.int (0 : Int32))]))
              refine s_ifN B X315 (pc' := 108) at_105 (by decide) rfl ?_
              refine s_iconst B X315 (pc' := 109) (v := (1 : Int32)) at_108 rfl rfl ?_
              refine s_goto B X315 (pc' := 113) at_109 (by decide) (by decide) ?_
              exact r_nar B X315 (t := .boolean) (by simp) rfl at_113 ⟨rfl, N314⟩ (by decide) (by decide)
          · refine s_aload B X299 (pc' := 73) at_71 rfl rfl rfl ?_
            refine s_aconst_null B X299 (pc' := 74) at_73 rfl ?_
            have f317 := (A298.keep Kq299)
            refine p_virtual B X299 (y := mn0) (pc' := 77) (argsL := [.null]) (under := []) (W := 0) e299 (tw16 hw) (tw17 hw) (tw19 hw) (tw18 hw) (tw20 hw) (tw5 hw) (by decide) (mm3_17 l Z a0 hw o298 i1 w_NODE w_RELATIONSHIP h299 F0 O299 ge_o298 f317 u299_0 u299_1 ) f317 (lenOf pd_3 rfl) rfl rfl (by decide) (by decide) rfl rfl (by decide) (by decide) rfl at_74 rfl (fun T318 X318 e318 => ?_)
            show Go p e below _ (T318.setTop (mkF m 77 #[.val (.int i0), .val (.long i1), .second, .val (.long i2), .second, .val (.ref w_RELATIONSHIP), .val (.ref w_NODE), .val (.long i1), .second, .val (.int (((i0.toUInt32 >>> ((3 : Int32) &&& 31).toUInt32).toInt32) &&& (3 : Int32))), .val (.ref o298), .unset, .unset] [(.int (0 : Int32))]))
            refine s_ifN B X318 (pc' := 80) at_77 (by decide) rfl ?_
            refine s_iconst B X318 (pc' := 81) (v := (1 : Int32)) at_80 rfl rfl ?_
            refine s_goto B X318 (pc' := 85) at_81 (by decide) (by decide) ?_
            exact r_nar B X318 (t := .boolean) (by simp) rfl at_85 ⟨rfl, N299⟩ (by decide) (by decide)
      · refine s_getS B X273 (pc' := 26) e273 (tw21 hw) Via.refl S_RELATIONSHIP at_23 rfl (fun T319 X319 e319 => ?_)
        refine s_goto B X319 (pc' := 32) at_26 (by decide) (by decide) ?_
        refine s_astore B X319 (pc' := 34) (Ls' := #[.val (.int i0), .val (.long i1), .second, .val (.long i2), .second, .val (.ref w_RELATIONSHIP), .val (.ref w_RELATIONSHIP), .unset, .unset, .unset, .unset, .unset, .unset]) at_32 rfl rfl rfl ?_
        refine s_iloadN B X319 (pc' := 35) at_34 rfl rfl ?_
        refine s_iconst B X319 (pc' := 36) (v := (4 : Int32)) at_35 rfl rfl ?_
        refine s_iand B X319 (pc' := 37) (v := (i0 &&& (4 : Int32))) at_36 rfl rfl ?_
        refine b_if_eq B X319 (py := 44) (pn := 40) at_37 (by decide) (by decide) rfl (fun hc37_320 => ?_) (fun hc37_320 => ?_)
        · refine s_lloadN B X319 (pc' := 45) at_44 rfl rfl ?_
          refine s_lstore B X319 (pc' := 47) (Ls' := #[.val (.int i0), .val (.long i1), .second, .val (.long i2), .second, .val (.ref w_RELATIONSHIP), .val (.ref w_RELATIONSHIP), .val (.long i2), .second, .unset, .unset, .unset, .unset]) at_45 rfl rfl ?_
          refine s_iloadN B X319 (pc' := 48) at_47 rfl rfl ?_
          refine s_iconst B X319 (pc' := 49) (v := (3 : Int32)) at_48 rfl rfl ?_
          refine s_iushr B X319 (pc' := 50) (v := ((i0.toUInt32 >>> ((3 : Int32) &&& 31).toUInt32).toInt32)) at_49 rfl rfl ?_
          refine s_iconst B X319 (pc' := 51) (v := (3 : Int32)) at_50 rfl rfl ?_
          refine s_iand B X319 (pc' := 52) (v := (((i0.toUInt32 >>> ((3 : Int32) &&& 31).toUInt32).toInt32) &&& (3 : Int32))) at_51 rfl rfl ?_
          refine s_istore B X319 (pc' := 54) (Ls' := #[.val (.int i0), .val (.long i1), .second, .val (.long i2), .second, .val (.ref w_RELATIONSHIP), .val (.ref w_RELATIONSHIP), .val (.long i2), .second, .val (.int (((i0.toUInt32 >>> ((3 : Int32) &&& 31).toUInt32).toInt32) &&& (3 : Int32))), .unset, .unset, .unset]) at_52 rfl rfl ?_
          refine s_new B X319 (pc' := 57) (n0 := 2) e319 (tw3 hw) (tw4 hw) (tw5 hw) (by decide) (by decide) at_54 rfl (fun T321 h321 o321 g321 X321 e321 E321 A321 D321 => ?_)
          have ge_o321 : Z.heap.size ≤ o321 := g321 ▸ old_le (Old.start Z)
          have O321 := ((Old.start Z)).ext E321
          have F321 := OwnF.ext O321.2 F0
          have D321_kind : Fld Z h321 o321 "com/example/isolation/isolation/EntityKey" "kind" "Lcom/example/isolation/isolation/EntityKind;" .null := D321 (Or.inr (tw13 hw)) (ty := (.object "com/example/isolation/isolation/EntityKind")) (by decide)
          have D321_id : Fld Z h321 o321 "com/example/isolation/isolation/EntityKey" "id" "J" (.long (0 : Int64)) := D321 (Or.inr (tw15 hw)) (ty := .long) (by decide)
          show Go p e below _ (T321.setTop (mkF m 57 #[.val (.int i0), .val (.long i1), .second, .val (.long i2), .second, .val (.ref w_RELATIONSHIP), .val (.ref w_RELATIONSHIP), .val (.long i2), .second, .val (.int (((i0.toUInt32 >>> ((3 : Int32) &&& 31).toUInt32).toInt32) &&& (3 : Int32))), .unset, .unset, .unset] [(.ref o321)]))
          refine s_dup B X321 (pc' := 58) at_57 rfl rfl ?_
          refine s_aload B X321 (pc' := 60) at_58 rfl rfl rfl ?_
          refine s_lloadN B X321 (pc' := 61) at_60 rfl rfl ?_
          refine c_init B X321 (y := mn4) (pc' := 64) (argsL := [(.ref w_RELATIONSHIP), (.long i1)]) (under := [(.ref o321)]) (W := 1) e321 rfl (tw6 hw) (tw7 hw) (tw8 hw) (tw5 hw) (by decide) (mm1_9 l Z a0 hw o321 i1 w_NODE w_RELATIONSHIP h321 F0 O321 ge_o321 A321 D321_id D321_kind ) (lenOf pd_2 rfl) rfl rfl (by decide) (by decide) (by decide) (by decide) rfl at_61 rfl (fun v322 T322 L322 X322 hQ322 => ?_)
          obtain ⟨rfl, Nq322, Kq322, u322_0, u322_1⟩ := hQ322
          obtain ⟨h322, e322⟩ : ∃ z, T322.heap = z := ⟨_, rfl⟩
          rw [e322] at Kq322 u322_0 u322_1
          have N322 := Fr.app (Fr.nil _) Nq322
          have O322 := (O321).keep Kq322 (allS ge_o321 all0)
          have F322 := OwnF.ext O322.2 F0
          show Go p e below _ (T322.setTop (mkF m 64 #[.val (.int i0), .val (.long i1), .second, .val (.long i2), .second, .val (.ref w_RELATIONSHIP), .val (.ref w_RELATIONSHIP), .val (.long i2), .second, .val (.int (((i0.toUInt32 >>> ((3 : Int32) &&& 31).toUInt32).toInt32) &&& (3 : Int32))), .unset, .unset, .unset] [(.ref o321)]))
          refine s_astore B X322 (pc' := 66) (Ls' := #[.val (.int i0), .val (.long i1), .second, .val (.long i2), .second, .val (.ref w_RELATIONSHIP), .val (.ref w_RELATIONSHIP), .val (.long i2), .second, .val (.int (((i0.toUInt32 >>> ((3 : Int32) &&& 31).toUInt32).toInt32) &&& (3 : Int32))), .val (.ref o321), .unset, .unset]) at_64 rfl rfl rfl ?_
          refine s_iload B X322 (pc' := 68) at_66 rfl rfl ?_
          refine b_if_ne B X322 (py := 86) (pn := 71) at_68 (by decide) (by decide) rfl (fun hc68_323 => ?_) (fun hc68_323 => ?_)
          · refine s_iload B X322 (pc' := 88) at_86 rfl rfl ?_
            refine s_iconst B X322 (pc' := 89) (v := (1 : Int32)) at_88 rfl rfl ?_
            refine b_icmp_ne B X322 (py := 114) (pn := 92) at_89 (by decide) (by decide) rfl (fun hc89_324 => ?_) (fun hc89_324 => ?_)
            · refine s_iload B X322 (pc' := 116) at_114 rfl rfl ?_
              refine s_iconst B X322 (pc' := 117) (v := (2 : Int32)) at_116 rfl rfl ?_
              refine b_icmp_ne B X322 (py := 128) (pn := 120) at_117 (by decide) (by decide) rfl (fun hc117_325 => ?_) (fun hc117_325 => ?_)
              · refine s_new B X322 (pc' := 131) (n0 := 2) e322 (tw3 hw) (tw4 hw) (tw5 hw) (by decide) (by decide) at_128 rfl (fun T326 h326 o326 g326 X326 e326 E326 A326 D326 => ?_)
                have f327 := (A321.keep Kq322)
                have ne_o321_o326 : o321 ≠ o326 := Nat.ne_of_lt (g326 ▸ f327.lt)
                have ge_o326 : Z.heap.size ≤ o326 := g326 ▸ old_le O322
                have O326 := (O322).ext E326
                have F326 := OwnF.ext O326.2 F0
                have D326_kind : Fld Z h326 o326 "com/example/isolation/isolation/EntityKey" "kind" "Lcom/example/isolation/isolation/EntityKind;" .null := D326 (Or.inr (tw13 hw)) (ty := (.object "com/example/isolation/isolation/EntityKind")) (by decide)
                have D326_id : Fld Z h326 o326 "com/example/isolation/isolation/EntityKey" "id" "J" (.long (0 : Int64)) := D326 (Or.inr (tw15 hw)) (ty := .long) (by decide)
                show Go p e below _ (T326.setTop (mkF m 131 #[.val (.int i0), .val (.long i1), .second, .val (.long i2), .second, .val (.ref w_RELATIONSHIP), .val (.ref w_RELATIONSHIP), .val (.long i2), .second, .val (.int (((i0.toUInt32 >>> ((3 : Int32) &&& 31).toUInt32).toInt32) &&& (3 : Int32))), .val (.ref o321), .unset, .unset] [(.ref o326)]))
                refine s_dup B X326 (pc' := 132) at_131 rfl rfl ?_
                refine s_aload B X326 (pc' := 134) at_132 rfl rfl rfl ?_
                refine s_lload B X326 (pc' := 136) at_134 rfl rfl ?_
                refine c_init B X326 (y := mn4) (pc' := 139) (argsL := [(.ref w_RELATIONSHIP), (.long i2)]) (under := [(.ref o326)]) (W := 1) e326 rfl (tw6 hw) (tw7 hw) (tw8 hw) (tw5 hw) (by decide) (mm1_9 l Z a0 hw o326 i2 w_NODE w_RELATIONSHIP h326 F0 O326 ge_o326 A326 D326_id D326_kind ) (lenOf pd_2 rfl) rfl rfl (by decide) (by decide) (by decide) (by decide) rfl at_136 rfl (fun v328 T328 L328 X328 hQ328 => ?_)
                obtain ⟨rfl, Nq328, Kq328, u328_0, u328_1⟩ := hQ328
                obtain ⟨h328, e328⟩ : ∃ z, T328.heap = z := ⟨_, rfl⟩
                rw [e328] at Kq328 u328_0 u328_1
                have N328 := Fr.app N322 Nq328
                have O328 := (O326).keep Kq328 (allS ge_o326 all0)
                have F328 := OwnF.ext O328.2 F0
                show Go p e below _ (T328.setTop (mkF m 139 #[.val (.int i0), .val (.long i1), .second, .val (.long i2), .second, .val (.ref w_RELATIONSHIP), .val (.ref w_RELATIONSHIP), .val (.long i2), .second, .val (.int (((i0.toUInt32 >>> ((3 : Int32) &&& 31).toUInt32).toInt32) &&& (3 : Int32))), .val (.ref o321), .unset, .unset] [(.ref o326)]))
                refine s_astore B X328 (pc' := 141) (Ls' := #[.val (.int i0), .val (.long i1), .second, .val (.long i2), .second, .val (.ref w_RELATIONSHIP), .val (.ref w_RELATIONSHIP), .val (.long i2), .second, .val (.int (((i0.toUInt32 >>> ((3 : Int32) &&& 31).toUInt32).toInt32) &&& (3 : Int32))), .val (.ref o321), .val (.ref o326), .unset]) at_139 rfl rfl rfl ?_
                refine s_aload B X328 (pc' := 143) at_141 rfl rfl rfl ?_
                refine s_aload B X328 (pc' := 145) at_143 rfl rfl rfl ?_
                refine b_acmp_ne B X328 (py := 159) (pn := 148) at_145 (by decide) (by decide) rfl (fun q => absurd rfl q) (fun _ => ?_)
                refine s_lloadN B X328 (pc' := 149) at_148 rfl rfl ?_
                refine s_lload B X328 (pc' := 151) at_149 rfl rfl ?_
                refine b_lcmp_ne B X328 (py := 159) (pn := 155) at_151 rfl at_152 (by decide) (by decide) rfl (fun _ => ?_) (fun q => absurd q hE)
                refine s_iconst B X328 (pc' := 160) (v := (0 : Int32)) at_159 rfl rfl ?_
                refine s_istore B X328 (pc' := 162) (Ls' := #[.val (.int i0), .val (.long i1), .second, .val (.long i2), .second, .val (.ref w_RELATIONSHIP), .val (.ref w_RELATIONSHIP), .val (.long i2), .second, .val (.int (((i0.toUInt32 >>> ((3 : Int32) &&& 31).toUInt32).toInt32) &&& (3 : Int32))), .val (.ref o321), .val (.ref o326), .val (.int (0 : Int32))]) at_160 rfl rfl ?_
                refine s_aload B X328 (pc' := 164) at_162 rfl rfl rfl ?_
                refine s_aload B X328 (pc' := 166) at_164 rfl rfl rfl ?_
                have f329 := ((f327.ext E326).keep Kq328)
                have f330 := ((u322_0.ext E326).keep Kq328 (ninS ne_o321_o326 nin0))
                have f331 := ((u322_1.ext E326).keep Kq328 (ninS ne_o321_o326 nin0))
                have f332 := (A326.keep Kq328)
                refine p_virtual B X328 (y := mn0) (pc' := 169) (argsL := [(.ref o326)]) (under := []) (W := 0) e328 (tw16 hw) (tw17 hw) (tw19 hw) (tw18 hw) (tw20 hw) (tw5 hw) (by decide) (mm3_27 l Z a0 hw o321 o326 i1 i2 w_NODE w_RELATIONSHIP h328 F0 O328 ge_o321 f329 f330 f331 ge_o326 f332 u328_0 u328_1 ne_o321_o326 hE) f329 (lenOf pd_3 rfl) rfl rfl (by decide) (by decide) rfl rfl (by decide) (by decide) rfl at_166 rfl (fun T333 X333 e333 => ?_)
                show Go p e below _ (T333.setTop (mkF m 169 #[.val (.int i0), .val (.long i1), .second, .val (.long i2), .second, .val (.ref w_RELATIONSHIP), .val (.ref w_RELATIONSHIP), .val (.long i2), .second, .val (.int (((i0.toUInt32 >>> ((3 : Int32) &&& 31).toUInt32).toInt32) &&& (3 : Int32))), .val (.ref o321), .val (.ref o326), .val (.int (0 : Int32))] [(.int (0 : Int32))]))
                refine s_iload B X333 (pc' := 171) at_169 rfl rfl ?_
                refine s_icmpN B X333 (pc' := 174) at_171 (by decide) rfl ?_
                refine s_aload B X333 (pc' := 176) at_174 rfl rfl rfl ?_
                refine s_aload B X333 (pc' := 178) at_176 rfl rfl rfl ?_
                refine p_virtual B X333 (y := mn0) (pc' := 181) (argsL := [(.ref o321)]) (under := []) (W := 0) e333 (tw16 hw) (tw17 hw) (tw19 hw) (tw18 hw) (tw20 hw) (tw5 hw) (by decide) (mm3_28 l Z a0 hw o326 o321 i2 i1 w_NODE w_RELATIONSHIP h328 F0 O328 ge_o326 f332 u328_0 u328_1 ge_o321 f329 f330 f331 (Ne.symm ne_o321_o326) hE) f332 (lenOf pd_3 rfl) rfl rfl (by decide) (by decide) rfl rfl (by decide) (by decide) rfl at_178 rfl (fun T334 X334 e334 => ?_)
                show Go p e below _ (T334.setTop (mkF m 181 #[.val (.int i0), .val (.long i1), .second, .val (.long i2), .second, .val (.ref w_RELATIONSHIP), .val (.ref w_RELATIONSHIP), .val (.long i2), .second, .val (.int (((i0.toUInt32 >>> ((3 : Int32) &&& 31).toUInt32).toInt32) &&& (3 : Int32))), .val (.ref o321), .val (.ref o326), .val (.int (0 : Int32))] [(.int (0 : Int32))]))
                refine s_iload B X334 (pc' := 183) at_181 rfl rfl ?_
                refine s_icmpN B X334 (pc' := 186) at_183 (by decide) rfl ?_
                refine s_iconst B X334 (pc' := 187) (v := (1 : Int32)) at_186 rfl rfl ?_
                refine s_goto B X334 (pc' := 191) at_187 (by decide) (by decide) ?_
                exact r_nar B X334 (t := .boolean) (by simp) rfl at_191 ⟨rfl, N328⟩ (by decide) (by decide)
              · refine s_aload B X322 (pc' := 122) at_120 rfl rfl rfl ?_
                refine s_aload B X322 (pc' := 124) at_122 rfl rfl rfl ?_
                have f335 := (A321.keep Kq322)
                refine p_virtual B X322 (y := mn0) (pc' := 127) (argsL := [(.ref o321)]) (under := []) (W := 0) e322 (tw16 hw) (tw17 hw) (tw19 hw) (tw18 hw) (tw20 hw) (tw5 hw) (by decide) (mm3_16 l Z a0 hw o321 i1 w_NODE w_RELATIONSHIP h322 F0 O322 ge_o321 f335 u322_0 u322_1 ) f335 (lenOf pd_3 rfl) rfl rfl (by decide) (by decide) rfl rfl (by decide) (by decide) rfl at_124 rfl (fun T336 X336 e336 => ?_)
                show Go p e below _ (T336.setTop (mkF m 127 #[.val (.int i0), .val (.long i1), .second, .val (.long i2), .second, .val (.ref w_RELATIONSHIP), .val (.ref w_RELATIONSHIP), .val (.long i2), .second, .val (.int (((i0.toUInt32 >>> ((3 : Int32) &&& 31).toUInt32).toInt32) &&& (3 : Int32))), .val (.ref o321), .unset, .unset] [(.int (1 : Int32))]))
                exact r_nar B X336 (t := .boolean) (by simp) rfl at_127 ⟨rfl, N322⟩ (by decide) (by decide)
            · refine s_lloadN B X322 (pc' := 93) at_92 rfl rfl ?_
              refine c_static B X322 (y := mn3) (pc' := 96) (argsL := [(.long i1)]) (under := []) (W := 0) e322 (tw25 hw) (tw26 hw) (tw28 hw) (tw27 hw) (by decide) (rm_valueOf l Z a0 hw i1 w_NODE w_RELATIONSHIP h322 F0 O322) (lenOf pd_4 rfl) rfl rfl (by decide) (by decide) (by decide) (by decide) rfl at_93 rfl (fun v337 T337 L337 X337 hQ => ?_)
              obtain ⟨qL, rfl, Nq, Kq, EL⟩ := hQ
              obtain ⟨h337, e337⟩ : ∃ z, T337.heap = z := ⟨_, rfl⟩
              rw [e337] at Kq EL
              have N337 := Fr.app N322 Nq
              have O337 := (O322).keep Kq all0
              have F337 := OwnF.ext O337.2 F0
              show Go p e below _ (T337.setTop (mkF m 96 #[.val (.int i0), .val (.long i1), .second, .val (.long i2), .second, .val (.ref w_RELATIONSHIP), .val (.ref w_RELATIONSHIP), .val (.long i2), .second, .val (.int (((i0.toUInt32 >>> ((3 : Int32) &&& 31).toUInt32).toInt32) &&& (3 : Int32))), .val (.ref o321), .unset, .unset] [(.ref qL)]))
              refine s_astore B X337 (pc' := 98) (Ls' := #[.val (.int i0), .val (.long i1), .second, .val (.long i2), .second, .val (.ref w_RELATIONSHIP), .val (.ref w_RELATIONSHIP), .val (.long i2), .second, .val (.int (((i0.toUInt32 >>> ((3 : Int32) &&& 31).toUInt32).toInt32) &&& (3 : Int32))), .val (.ref o321), .val (.ref qL), .unset]) at_96 rfl rfl rfl ?_
              refine s_aload B X337 (pc' := 100) at_98 rfl rfl rfl ?_
              refine s_aload B X337 (pc' := 102) at_100 rfl rfl rfl ?_
              have f339 := ((A321.keep Kq322).keep Kq)
              refine p_virtual B X337 (y := mn0) (pc' := 105) (argsL := [(.ref qL)]) (under := []) (W := 0) e337 (tw16 hw) (tw17 hw) (tw19 hw) (tw18 hw) (tw20 hw) (tw5 hw) (by decide) (rm_eqL l Z a0 hw o321 qL h337 EL) f339 (lenOf pd_3 rfl) rfl rfl (by decide) (by decide) rfl rfl (by decide) (by decide) rfl at_102 rfl (fun T338 X338 e338 => ?_)
              show Go p e below _ (T338.setTop (mkF m 105 #[.val (.int i0), .val (.long i1), .second, .val (.long i2), .second, .val (.ref w_RELATIONSHIP), .val (.ref w_RELATIONSHIP), .val (.long i2), .second, .val (.int (((i0.toUInt32 >>> ((3 : Int32) &&& 31).toUInt32).toInt32) &&& (3 : Int32))), .val (.ref o321), .val (.ref qL), .unset] [(.int (0 : Int32))]))
              refine s_ifN B X338 (pc' := 108) at_105 (by decide) rfl ?_
              refine s_iconst B X338 (pc' := 109) (v := (1 : Int32)) at_108 rfl rfl ?_
              refine s_goto B X338 (pc' := 113) at_109 (by decide) (by decide) ?_
              exact r_nar B X338 (t := .boolean) (by simp) rfl at_113 ⟨rfl, N337⟩ (by decide) (by decide)
          · refine s_aload B X322 (pc' := 73) at_71 rfl rfl rfl ?_
            refine s_aconst_null B X322 (pc' := 74) at_73 rfl ?_
            have f340 := (A321.keep Kq322)
            refine p_virtual B X322 (y := mn0) (pc' := 77) (argsL := [.null]) (under := []) (W := 0) e322 (tw16 hw) (tw17 hw) (tw19 hw) (tw18 hw) (tw20 hw) (tw5 hw) (by decide) (mm3_17 l Z a0 hw o321 i1 w_NODE w_RELATIONSHIP h322 F0 O322 ge_o321 f340 u322_0 u322_1 ) f340 (lenOf pd_3 rfl) rfl rfl (by decide) (by decide) rfl rfl (by decide) (by decide) rfl at_74 rfl (fun T341 X341 e341 => ?_)
            show Go p e below _ (T341.setTop (mkF m 77 #[.val (.int i0), .val (.long i1), .second, .val (.long i2), .second, .val (.ref w_RELATIONSHIP), .val (.ref w_RELATIONSHIP), .val (.long i2), .second, .val (.int (((i0.toUInt32 >>> ((3 : Int32) &&& 31).toUInt32).toInt32) &&& (3 : Int32))), .val (.ref o321), .unset, .unset] [(.int (0 : Int32))]))
            refine s_ifN B X341 (pc' := 80) at_77 (by decide) rfl ?_
            refine s_iconst B X341 (pc' := 81) (v := (1 : Int32)) at_80 rfl rfl ?_
            refine s_goto B X341 (pc' := 85) at_81 (by decide) (by decide) ?_
            exact r_nar B X341 (t := .boolean) (by simp) rfl at_85 ⟨rfl, N322⟩ (by decide) (by decide)
        · refine s_lloadN B X319 (pc' := 41) at_40 rfl rfl ?_
          refine s_goto B X319 (pc' := 45) at_41 (by decide) (by decide) ?_
          refine s_lstore B X319 (pc' := 47) (Ls' := #[.val (.int i0), .val (.long i1), .second, .val (.long i2), .second, .val (.ref w_RELATIONSHIP), .val (.ref w_RELATIONSHIP), .val (.long i1), .second, .unset, .unset, .unset, .unset]) at_45 rfl rfl ?_
          refine s_iloadN B X319 (pc' := 48) at_47 rfl rfl ?_
          refine s_iconst B X319 (pc' := 49) (v := (3 : Int32)) at_48 rfl rfl ?_
          refine s_iushr B X319 (pc' := 50) (v := ((i0.toUInt32 >>> ((3 : Int32) &&& 31).toUInt32).toInt32)) at_49 rfl rfl ?_
          refine s_iconst B X319 (pc' := 51) (v := (3 : Int32)) at_50 rfl rfl ?_
          refine s_iand B X319 (pc' := 52) (v := (((i0.toUInt32 >>> ((3 : Int32) &&& 31).toUInt32).toInt32) &&& (3 : Int32))) at_51 rfl rfl ?_
          refine s_istore B X319 (pc' := 54) (Ls' := #[.val (.int i0), .val (.long i1), .second, .val (.long i2), .second, .val (.ref w_RELATIONSHIP), .val (.ref w_RELATIONSHIP), .val (.long i1), .second, .val (.int (((i0.toUInt32 >>> ((3 : Int32) &&& 31).toUInt32).toInt32) &&& (3 : Int32))), .unset, .unset, .unset]) at_52 rfl rfl ?_
          refine s_new B X319 (pc' := 57) (n0 := 2) e319 (tw3 hw) (tw4 hw) (tw5 hw) (by decide) (by decide) at_54 rfl (fun T342 h342 o342 g342 X342 e342 E342 A342 D342 => ?_)
          have ge_o342 : Z.heap.size ≤ o342 := g342 ▸ old_le (Old.start Z)
          have O342 := ((Old.start Z)).ext E342
          have F342 := OwnF.ext O342.2 F0
          have D342_kind : Fld Z h342 o342 "com/example/isolation/isolation/EntityKey" "kind" "Lcom/example/isolation/isolation/EntityKind;" .null := D342 (Or.inr (tw13 hw)) (ty := (.object "com/example/isolation/isolation/EntityKind")) (by decide)
          have D342_id : Fld Z h342 o342 "com/example/isolation/isolation/EntityKey" "id" "J" (.long (0 : Int64)) := D342 (Or.inr (tw15 hw)) (ty := .long) (by decide)
          show Go p e below _ (T342.setTop (mkF m 57 #[.val (.int i0), .val (.long i1), .second, .val (.long i2), .second, .val (.ref w_RELATIONSHIP), .val (.ref w_RELATIONSHIP), .val (.long i1), .second, .val (.int (((i0.toUInt32 >>> ((3 : Int32) &&& 31).toUInt32).toInt32) &&& (3 : Int32))), .unset, .unset, .unset] [(.ref o342)]))
          refine s_dup B X342 (pc' := 58) at_57 rfl rfl ?_
          refine s_aload B X342 (pc' := 60) at_58 rfl rfl rfl ?_
          refine s_lloadN B X342 (pc' := 61) at_60 rfl rfl ?_
          refine c_init B X342 (y := mn4) (pc' := 64) (argsL := [(.ref w_RELATIONSHIP), (.long i1)]) (under := [(.ref o342)]) (W := 1) e342 rfl (tw6 hw) (tw7 hw) (tw8 hw) (tw5 hw) (by decide) (mm1_9 l Z a0 hw o342 i1 w_NODE w_RELATIONSHIP h342 F0 O342 ge_o342 A342 D342_id D342_kind ) (lenOf pd_2 rfl) rfl rfl (by decide) (by decide) (by decide) (by decide) rfl at_61 rfl (fun v343 T343 L343 X343 hQ343 => ?_)
          obtain ⟨rfl, Nq343, Kq343, u343_0, u343_1⟩ := hQ343
          obtain ⟨h343, e343⟩ : ∃ z, T343.heap = z := ⟨_, rfl⟩
          rw [e343] at Kq343 u343_0 u343_1
          have N343 := Fr.app (Fr.nil _) Nq343
          have O343 := (O342).keep Kq343 (allS ge_o342 all0)
          have F343 := OwnF.ext O343.2 F0
          show Go p e below _ (T343.setTop (mkF m 64 #[.val (.int i0), .val (.long i1), .second, .val (.long i2), .second, .val (.ref w_RELATIONSHIP), .val (.ref w_RELATIONSHIP), .val (.long i1), .second, .val (.int (((i0.toUInt32 >>> ((3 : Int32) &&& 31).toUInt32).toInt32) &&& (3 : Int32))), .unset, .unset, .unset] [(.ref o342)]))
          refine s_astore B X343 (pc' := 66) (Ls' := #[.val (.int i0), .val (.long i1), .second, .val (.long i2), .second, .val (.ref w_RELATIONSHIP), .val (.ref w_RELATIONSHIP), .val (.long i1), .second, .val (.int (((i0.toUInt32 >>> ((3 : Int32) &&& 31).toUInt32).toInt32) &&& (3 : Int32))), .val (.ref o342), .unset, .unset]) at_64 rfl rfl rfl ?_
          refine s_iload B X343 (pc' := 68) at_66 rfl rfl ?_
          refine b_if_ne B X343 (py := 86) (pn := 71) at_68 (by decide) (by decide) rfl (fun hc68_344 => ?_) (fun hc68_344 => ?_)
          · refine s_iload B X343 (pc' := 88) at_86 rfl rfl ?_
            refine s_iconst B X343 (pc' := 89) (v := (1 : Int32)) at_88 rfl rfl ?_
            refine b_icmp_ne B X343 (py := 114) (pn := 92) at_89 (by decide) (by decide) rfl (fun hc89_345 => ?_) (fun hc89_345 => ?_)
            · refine s_iload B X343 (pc' := 116) at_114 rfl rfl ?_
              refine s_iconst B X343 (pc' := 117) (v := (2 : Int32)) at_116 rfl rfl ?_
              refine b_icmp_ne B X343 (py := 128) (pn := 120) at_117 (by decide) (by decide) rfl (fun hc117_346 => ?_) (fun hc117_346 => ?_)
              · refine s_new B X343 (pc' := 131) (n0 := 2) e343 (tw3 hw) (tw4 hw) (tw5 hw) (by decide) (by decide) at_128 rfl (fun T347 h347 o347 g347 X347 e347 E347 A347 D347 => ?_)
                have f348 := (A342.keep Kq343)
                have ne_o342_o347 : o342 ≠ o347 := Nat.ne_of_lt (g347 ▸ f348.lt)
                have ge_o347 : Z.heap.size ≤ o347 := g347 ▸ old_le O343
                have O347 := (O343).ext E347
                have F347 := OwnF.ext O347.2 F0
                have D347_kind : Fld Z h347 o347 "com/example/isolation/isolation/EntityKey" "kind" "Lcom/example/isolation/isolation/EntityKind;" .null := D347 (Or.inr (tw13 hw)) (ty := (.object "com/example/isolation/isolation/EntityKind")) (by decide)
                have D347_id : Fld Z h347 o347 "com/example/isolation/isolation/EntityKey" "id" "J" (.long (0 : Int64)) := D347 (Or.inr (tw15 hw)) (ty := .long) (by decide)
                show Go p e below _ (T347.setTop (mkF m 131 #[.val (.int i0), .val (.long i1), .second, .val (.long i2), .second, .val (.ref w_RELATIONSHIP), .val (.ref w_RELATIONSHIP), .val (.long i1), .second, .val (.int (((i0.toUInt32 >>> ((3 : Int32) &&& 31).toUInt32).toInt32) &&& (3 : Int32))), .val (.ref o342), .unset, .unset] [(.ref o347)]))
                refine s_dup B X347 (pc' := 132) at_131 rfl rfl ?_
                refine s_aload B X347 (pc' := 134) at_132 rfl rfl rfl ?_
                refine s_lload B X347 (pc' := 136) at_134 rfl rfl ?_
                refine c_init B X347 (y := mn4) (pc' := 139) (argsL := [(.ref w_RELATIONSHIP), (.long i1)]) (under := [(.ref o347)]) (W := 1) e347 rfl (tw6 hw) (tw7 hw) (tw8 hw) (tw5 hw) (by decide) (mm1_9 l Z a0 hw o347 i1 w_NODE w_RELATIONSHIP h347 F0 O347 ge_o347 A347 D347_id D347_kind ) (lenOf pd_2 rfl) rfl rfl (by decide) (by decide) (by decide) (by decide) rfl at_136 rfl (fun v349 T349 L349 X349 hQ349 => ?_)
                obtain ⟨rfl, Nq349, Kq349, u349_0, u349_1⟩ := hQ349
                obtain ⟨h349, e349⟩ : ∃ z, T349.heap = z := ⟨_, rfl⟩
                rw [e349] at Kq349 u349_0 u349_1
                have N349 := Fr.app N343 Nq349
                have O349 := (O347).keep Kq349 (allS ge_o347 all0)
                have F349 := OwnF.ext O349.2 F0
                show Go p e below _ (T349.setTop (mkF m 139 #[.val (.int i0), .val (.long i1), .second, .val (.long i2), .second, .val (.ref w_RELATIONSHIP), .val (.ref w_RELATIONSHIP), .val (.long i1), .second, .val (.int (((i0.toUInt32 >>> ((3 : Int32) &&& 31).toUInt32).toInt32) &&& (3 : Int32))), .val (.ref o342), .unset, .unset] [(.ref o347)]))
                refine s_astore B X349 (pc' := 141) (Ls' := #[.val (.int i0), .val (.long i1), .second, .val (.long i2), .second, .val (.ref w_RELATIONSHIP), .val (.ref w_RELATIONSHIP), .val (.long i1), .second, .val (.int (((i0.toUInt32 >>> ((3 : Int32) &&& 31).toUInt32).toInt32) &&& (3 : Int32))), .val (.ref o342), .val (.ref o347), .unset]) at_139 rfl rfl rfl ?_
                refine s_aload B X349 (pc' := 143) at_141 rfl rfl rfl ?_
                refine s_aload B X349 (pc' := 145) at_143 rfl rfl rfl ?_
                refine b_acmp_ne B X349 (py := 159) (pn := 148) at_145 (by decide) (by decide) rfl (fun q => absurd rfl q) (fun _ => ?_)
                refine s_lloadN B X349 (pc' := 149) at_148 rfl rfl ?_
                refine s_lload B X349 (pc' := 151) at_149 rfl rfl ?_
                refine b_lcmp_ne B X349 (py := 159) (pn := 155) at_151 rfl at_152 (by decide) (by decide) rfl (fun q => absurd rfl q) (fun _ => ?_)
                refine s_iconst B X349 (pc' := 156) (v := (1 : Int32)) at_155 rfl rfl ?_
                refine s_goto B X349 (pc' := 160) at_156 (by decide) (by decide) ?_
                refine s_istore B X349 (pc' := 162) (Ls' := #[.val (.int i0), .val (.long i1), .second, .val (.long i2), .second, .val (.ref w_RELATIONSHIP), .val (.ref w_RELATIONSHIP), .val (.long i1), .second, .val (.int (((i0.toUInt32 >>> ((3 : Int32) &&& 31).toUInt32).toInt32) &&& (3 : Int32))), .val (.ref o342), .val (.ref o347), .val (.int (1 : Int32))]) at_160 rfl rfl ?_
                refine s_aload B X349 (pc' := 164) at_162 rfl rfl rfl ?_
                refine s_aload B X349 (pc' := 166) at_164 rfl rfl rfl ?_
                have f350 := ((f348.ext E347).keep Kq349)
                have f351 := ((u343_0.ext E347).keep Kq349 (ninS ne_o342_o347 nin0))
                have f352 := ((u343_1.ext E347).keep Kq349 (ninS ne_o342_o347 nin0))
                have f353 := (A347.keep Kq349)
                refine p_virtual B X349 (y := mn0) (pc' := 169) (argsL := [(.ref o347)]) (under := []) (W := 0) e349 (tw16 hw) (tw17 hw) (tw19 hw) (tw18 hw) (tw20 hw) (tw5 hw) (by decide) (mm3_20 l Z a0 hw o342 o347 i1 w_NODE w_RELATIONSHIP h349 F0 O349 ge_o342 f350 f351 f352 ge_o347 f353 u349_0 u349_1 ne_o342_o347 ) f350 (lenOf pd_3 rfl) rfl rfl (by decide) (by decide) rfl rfl (by decide) (by decide) rfl at_166 rfl (fun T354 X354 e354 => ?_)
                show Go p e below _ (T354.setTop (mkF m 169 #[.val (.int i0), .val (.long i1), .second, .val (.long i2), .second, .val (.ref w_RELATIONSHIP), .val (.ref w_RELATIONSHIP), .val (.long i1), .second, .val (.int (((i0.toUInt32 >>> ((3 : Int32) &&& 31).toUInt32).toInt32) &&& (3 : Int32))), .val (.ref o342), .val (.ref o347), .val (.int (1 : Int32))] [(.int (1 : Int32))]))
                refine s_iload B X354 (pc' := 171) at_169 rfl rfl ?_
                refine s_icmpN B X354 (pc' := 174) at_171 (by decide) rfl ?_
                refine s_aload B X354 (pc' := 176) at_174 rfl rfl rfl ?_
                refine s_aload B X354 (pc' := 178) at_176 rfl rfl rfl ?_
                refine p_virtual B X354 (y := mn0) (pc' := 181) (argsL := [(.ref o342)]) (under := []) (W := 0) e354 (tw16 hw) (tw17 hw) (tw19 hw) (tw18 hw) (tw20 hw) (tw5 hw) (by decide) (mm3_20 l Z a0 hw o347 o342 i1 w_NODE w_RELATIONSHIP h349 F0 O349 ge_o347 f353 u349_0 u349_1 ge_o342 f350 f351 f352 (Ne.symm ne_o342_o347) ) f353 (lenOf pd_3 rfl) rfl rfl (by decide) (by decide) rfl rfl (by decide) (by decide) rfl at_178 rfl (fun T355 X355 e355 => ?_)
                show Go p e below _ (T355.setTop (mkF m 181 #[.val (.int i0), .val (.long i1), .second, .val (.long i2), .second, .val (.ref w_RELATIONSHIP), .val (.ref w_RELATIONSHIP), .val (.long i1), .second, .val (.int (((i0.toUInt32 >>> ((3 : Int32) &&& 31).toUInt32).toInt32) &&& (3 : Int32))), .val (.ref o342), .val (.ref o347), .val (.int (1 : Int32))] [(.int (1 : Int32))]))
                refine s_iload B X355 (pc' := 183) at_181 rfl rfl ?_
                refine s_icmpN B X355 (pc' := 186) at_183 (by decide) rfl ?_
                refine s_iconst B X355 (pc' := 187) (v := (1 : Int32)) at_186 rfl rfl ?_
                refine s_goto B X355 (pc' := 191) at_187 (by decide) (by decide) ?_
                exact r_nar B X355 (t := .boolean) (by simp) rfl at_191 ⟨rfl, N349⟩ (by decide) (by decide)
              · refine s_aload B X343 (pc' := 122) at_120 rfl rfl rfl ?_
                refine s_aload B X343 (pc' := 124) at_122 rfl rfl rfl ?_
                have f356 := (A342.keep Kq343)
                refine p_virtual B X343 (y := mn0) (pc' := 127) (argsL := [(.ref o342)]) (under := []) (W := 0) e343 (tw16 hw) (tw17 hw) (tw19 hw) (tw18 hw) (tw20 hw) (tw5 hw) (by decide) (mm3_16 l Z a0 hw o342 i1 w_NODE w_RELATIONSHIP h343 F0 O343 ge_o342 f356 u343_0 u343_1 ) f356 (lenOf pd_3 rfl) rfl rfl (by decide) (by decide) rfl rfl (by decide) (by decide) rfl at_124 rfl (fun T357 X357 e357 => ?_)
                show Go p e below _ (T357.setTop (mkF m 127 #[.val (.int i0), .val (.long i1), .second, .val (.long i2), .second, .val (.ref w_RELATIONSHIP), .val (.ref w_RELATIONSHIP), .val (.long i1), .second, .val (.int (((i0.toUInt32 >>> ((3 : Int32) &&& 31).toUInt32).toInt32) &&& (3 : Int32))), .val (.ref o342), .unset, .unset] [(.int (1 : Int32))]))
                exact r_nar B X357 (t := .boolean) (by simp) rfl at_127 ⟨rfl, N343⟩ (by decide) (by decide)
            · refine s_lloadN B X343 (pc' := 93) at_92 rfl rfl ?_
              refine c_static B X343 (y := mn3) (pc' := 96) (argsL := [(.long i1)]) (under := []) (W := 0) e343 (tw25 hw) (tw26 hw) (tw28 hw) (tw27 hw) (by decide) (rm_valueOf l Z a0 hw i1 w_NODE w_RELATIONSHIP h343 F0 O343) (lenOf pd_4 rfl) rfl rfl (by decide) (by decide) (by decide) (by decide) rfl at_93 rfl (fun v358 T358 L358 X358 hQ => ?_)
              obtain ⟨qL, rfl, Nq, Kq, EL⟩ := hQ
              obtain ⟨h358, e358⟩ : ∃ z, T358.heap = z := ⟨_, rfl⟩
              rw [e358] at Kq EL
              have N358 := Fr.app N343 Nq
              have O358 := (O343).keep Kq all0
              have F358 := OwnF.ext O358.2 F0
              show Go p e below _ (T358.setTop (mkF m 96 #[.val (.int i0), .val (.long i1), .second, .val (.long i2), .second, .val (.ref w_RELATIONSHIP), .val (.ref w_RELATIONSHIP), .val (.long i1), .second, .val (.int (((i0.toUInt32 >>> ((3 : Int32) &&& 31).toUInt32).toInt32) &&& (3 : Int32))), .val (.ref o342), .unset, .unset] [(.ref qL)]))
              refine s_astore B X358 (pc' := 98) (Ls' := #[.val (.int i0), .val (.long i1), .second, .val (.long i2), .second, .val (.ref w_RELATIONSHIP), .val (.ref w_RELATIONSHIP), .val (.long i1), .second, .val (.int (((i0.toUInt32 >>> ((3 : Int32) &&& 31).toUInt32).toInt32) &&& (3 : Int32))), .val (.ref o342), .val (.ref qL), .unset]) at_96 rfl rfl rfl ?_
              refine s_aload B X358 (pc' := 100) at_98 rfl rfl rfl ?_
              refine s_aload B X358 (pc' := 102) at_100 rfl rfl rfl ?_
              have f360 := ((A342.keep Kq343).keep Kq)
              refine p_virtual B X358 (y := mn0) (pc' := 105) (argsL := [(.ref qL)]) (under := []) (W := 0) e358 (tw16 hw) (tw17 hw) (tw19 hw) (tw18 hw) (tw20 hw) (tw5 hw) (by decide) (rm_eqL l Z a0 hw o342 qL h358 EL) f360 (lenOf pd_3 rfl) rfl rfl (by decide) (by decide) rfl rfl (by decide) (by decide) rfl at_102 rfl (fun T359 X359 e359 => ?_)
              show Go p e below _ (T359.setTop (mkF m 105 #[.val (.int i0), .val (.long i1), .second, .val (.long i2), .second, .val (.ref w_RELATIONSHIP), .val (.ref w_RELATIONSHIP), .val (.long i1), .second, .val (.int (((i0.toUInt32 >>> ((3 : Int32) &&& 31).toUInt32).toInt32) &&& (3 : Int32))), .val (.ref o342), .val (.ref qL), .unset] [(.int (0 : Int32))]))
              refine s_ifN B X359 (pc' := 108) at_105 (by decide) rfl ?_
              refine s_iconst B X359 (pc' := 109) (v := (1 : Int32)) at_108 rfl rfl ?_
              refine s_goto B X359 (pc' := 113) at_109 (by decide) (by decide) ?_
              exact r_nar B X359 (t := .boolean) (by simp) rfl at_113 ⟨rfl, N358⟩ (by decide) (by decide)
          · refine s_aload B X343 (pc' := 73) at_71 rfl rfl rfl ?_
            refine s_aconst_null B X343 (pc' := 74) at_73 rfl ?_
            have f361 := (A342.keep Kq343)
            refine p_virtual B X343 (y := mn0) (pc' := 77) (argsL := [.null]) (under := []) (W := 0) e343 (tw16 hw) (tw17 hw) (tw19 hw) (tw18 hw) (tw20 hw) (tw5 hw) (by decide) (mm3_17 l Z a0 hw o342 i1 w_NODE w_RELATIONSHIP h343 F0 O343 ge_o342 f361 u343_0 u343_1 ) f361 (lenOf pd_3 rfl) rfl rfl (by decide) (by decide) rfl rfl (by decide) (by decide) rfl at_74 rfl (fun T362 X362 e362 => ?_)
            show Go p e below _ (T362.setTop (mkF m 77 #[.val (.int i0), .val (.long i1), .second, .val (.long i2), .second, .val (.ref w_RELATIONSHIP), .val (.ref w_RELATIONSHIP), .val (.long i1), .second, .val (.int (((i0.toUInt32 >>> ((3 : Int32) &&& 31).toUInt32).toInt32) &&& (3 : Int32))), .val (.ref o342), .unset, .unset] [(.int (0 : Int32))]))
            refine s_ifN B X362 (pc' := 80) at_77 (by decide) rfl ?_
            refine s_iconst B X362 (pc' := 81) (v := (1 : Int32)) at_80 rfl rfl ?_
            refine s_goto B X362 (pc' := 85) at_81 (by decide) (by decide) ?_
            exact r_nar B X362 (t := .boolean) (by simp) rfl at_85 ⟨rfl, N343⟩ (by decide) (by decide)
set_option maxRecDepth 65536 in
set_option maxHeartbeats 40000000 in
theorem comes_1 {Post : Tables → Env → Array Value → State → Outcome → State → Prop} (hpost : ∀ tb e args s v u, (limb_1_1.after args s (.returned v) u = true ∧ limb_1_2.after args s (.returned v) u = true ∧ True) → FrameEnd s (.returned v) u (Jvm.fieldLocs frame_1_writes args s ++ Jvm.arrayLocs frame_1_arrays args s ++ Jvm.staticLocs frame_1_statics s) 16 128 → Post tb e args s (.returned v) u) :
    ArmFor flags0 classFile x code maxLocals ret World_1 tables_1 room_1 Calls_1 rest_1 Pre_1 Post := by
  intro l hfl _ _ p e ha hc hk s m args below hf hA hF happ hP
  obtain ⟨hcalls, hrest, hpre⟩ := hP
  obtain ⟨-, -, -, hnamed, -, -, -, hat⟩ := (Spec.applies_iff hf).mp happ
  obtain ⟨hg, hn⟩ := and_e (Cond.before_iff.mp (show (Jvm.Cond.and given_1 narrow_1).before args s = true from hpre))
  obtain ⟨h1, hg⟩ := and_e hg
  obtain ⟨w0, w1, w2, rfl⟩ : ∃ w0 w1 w2 : Value, args = #[w0, w1, w2] := by
    have hs : args.size = 3 := by simpa [Cond.value, given_1] using h1
    obtain ⟨L⟩ := args
    match L, hs with
    | [w0, w1, w2], _ => exact ⟨w0, w1, w2, rfl⟩
  have hw := fun d (hd : d ∈ tables_1) => atoms_spec (ws := Jvm.Cond.code x code maxLocals ret :: tables_1) hat d (List.mem_cons_of_mem _ hd)
  have hfit : Fit s := fun {y c} hc i hi => by
    obtain ⟨ha, rfl⟩ := Array.getElem?_eq_some_iff.mp hc
    have q := List.all_eq_true.mp ((Array.all_eq_true_iff_forall_mem.mp hF) _ (Array.getElem_mem ha)) i (List.mem_range.mpr hi)
    simpa [Array.getElem?_eq_getElem hi] using q
  obtain ⟨hsets, hown0⟩ := atoms_of _ (rest_1_c_eq ▸ (show rest_1_c.before _ s = true from hrest))
  obtain ⟨hg0, hg⟩ := and_e hg
  obtain ⟨hg1, hg⟩ := and_e hg
  have hg2 := hg
  obtain ⟨i0, ei0⟩ := is_v hg0
  obtain rfl : w0 = (.int i0) := Option.some.inj ei0
  obtain ⟨i1, ei1⟩ := isL_v hg1
  obtain rfl : w1 = (.long i1) := Option.some.inj ei1
  obtain ⟨i2, ei2⟩ := isL_v hg2
  obtain rfl : w2 = (.long i2) := Option.some.inj ei2
  obtain ⟨hn0, hn⟩ := and_e hn
  obtain ⟨hn1, hn⟩ := and_e hn
  obtain ⟨hn2, hn⟩ := and_e hn
  have hn3 := hn
  obtain ⟨w_NODE, v_NODE⟩ := exa_v hn0
  have S_NODE := Sta.start v_NODE (Or.inr ⟨(tw1 hw), (tw2 hw)⟩)
  have E_NODE := Exa.start v_NODE hn0
  obtain ⟨w_RELATIONSHIP, v_RELATIONSHIP⟩ := exa_v hn1
  have S_RELATIONSHIP := Sta.start v_RELATIONSHIP (Or.inr ⟨(tw1 hw), (tw22 hw)⟩)
  have E_RELATIONSHIP := Exa.start v_RELATIONSHIP hn1
  have F_NODE_ordinal := Fld.start ((fld_at v_NODE).symm.trans (eqI_v hn2))
  have F_RELATIONSHIP_ordinal := Fld.start ((fld_at v_RELATIONSHIP).symm.trans (eqI_v hn3))
  obtain ⟨wC, vC⟩ := arr_v (Cond.before_iff.mp (hsets _ (List.mem_of_getElem? (i := 2) rfl)))
  obtain ⟨cC, AC⟩ := Arr.start vC (Cond.before_iff.mp (hsets _ (List.mem_of_getElem? (i := 2) rfl)))
  obtain ⟨zC, lC⟩ := tab_len (n := 256) vC AC (Cond.before_iff.mp (hsets _ (List.mem_of_getElem? (i := 4) rfl))) (by decide)
  have key : ∀ i, i < 256 → ∃ b, cC.slots[i]? = some (.ref b) ∧ Exa s s.heap b "java/lang/Long" := by
    intro i hi
    obtain ⟨u1, u2⟩ := and_e (tab_all vC AC (Cond.before_iff.mp (hsets _ (List.mem_of_getElem? (i := 5) rfl))) (i := i) (by omega))
    obtain ⟨b, eb⟩ := exa_v u1
    exact ⟨b, tab_el (j := .int 0) vC AC (by omega) eb, exa_at eb u1⟩
  have T_cache : ∃ w_cache, Sta s s.heap "java/lang/Long$LongCache" "cache" "[Ljava/lang/Long;" (.ref w_cache) ∧ ∃ (k : ClassId) (W : Nat → Addr), Ary s s.heap w_cache k (.object "java/lang/Long") 256 (fun i => .ref (W i)) ∧ ∀ i, i < 256 → Exa s s.heap (W i) "java/lang/Long" := by
    refine ⟨wC, Sta.start vC (Or.inl (hsets _ (List.mem_of_getElem? (i := 1) rfl))), cC.cls, fun i => match cC.slots[i]? with | some (.ref b) => b | _ => 0, ⟨cC, AC, rfl, zC, lC, fun i hi => ?_⟩, fun i hi => ?_⟩
    · obtain ⟨b, q1, q2⟩ := key i hi
      simp only [q1]
    · obtain ⟨b, q1, q2⟩ := key i hi
      simp only [q1]; exact q2
  obtain ⟨n, o, h1, h2, h3, _, L, rfl, ⟨rfl, N⟩, hq⟩ := rm_law l s _ hw i0 i1 i2 w_NODE w_RELATIONSHIP ⟨S_NODE, E_NODE, S_RELATIONSHIP, E_RELATIONSHIP, F_NODE_ordinal, F_RELATIONSHIP_ordinal, T_cache⟩ p e ha hc hk s m _ below hf ((Spec.applies_iff_loose hf).mp happ).1 ⟨rfl, State.Warmed39.refl s, rfl⟩ trivial
  refine ⟨n, _, h1, h2, h3, hpost _ _ _ _ _ _ ⟨Cond.after_iff.mpr rfl, Cond.after_iff.mpr (eq_i res_at (Term.int_eval (1)) rfl), trivial⟩ ⟨hq.1, hq.2.1, (hq.2.2.sift fun y hy => Or.inr (N y hy)).mono (by decide) (by decide)⟩⟩
theorem main_1_1 : Claimed_1_1 := comes_1 fun _ _ _ _ _ _ h hF => ⟨h.1, hF⟩
theorem main_1_2 : Claimed_1_2 := comes_1 fun _ _ _ _ _ _ h hF => ⟨h.2.1, hF⟩
end Jvm.Pilot.@@N@@
namespace Jvm.Pilot.@@N@@
open Jvm Jvm.ClassFile Sem Op Lib Jvm.Free Jvm.Stand Jvm.Pilot.@@N@@.Jvm.D
/-! MADE BY PROGRAM (witnessworld.py) out of the Statement's table words and the real class files: 19 classes; the members and pool entries that the words name. The judged class is class 1, her method 1. -/
namespace start1
open Jvm.ClassFile
def u (s : String) : CpInfo := .utf8 (stringToUtf16 s)
/-- a pool by its gaps: so many unusable entries, then the entry; so many at the end -/
def gap : Nat → List CpInfo → List CpInfo
  | 0, r => r
  | n + 1, r => .unusable :: gap n r
def poolList (es : List (Nat × CpInfo)) (last : Nat) : List CpInfo := es.foldr (fun e r => gap e.1 (e.2 :: r)) (gap last [])
def pool (es : List (Nat × CpInfo)) (last : Nat) : Array CpInfo := ⟨poolList es last⟩
def fileOf (pool : Array CpInfo) (this : Nat) (attrs : Array Attribute := #[]) (ms : Array MethodInfo := #[]) (fl : Nat := 33) (sup : Nat := 0) (ifs : Array Nat := #[]) (fds : Array FieldInfo := #[]) : ClassFile where
  minorVersion := 0
  majorVersion := 65
  constantPool := pool
  accessFlags := fl
  thisClass := this
  superClass := sup
  interfaces := ifs
  fields := fds
  methods := ms
  attributes := attrs
def plain (name : String) (sup : Option ClassId) : Class where
  name := name
  kind := .ordinary
  loader := none
  accessFlags := 33
  super := sup
  interfaces := #[]
  cf := none
  fields := #[]
  methods := #[]
  instanceTypes := #[]
  staticTypes := #[]
  resolved := #[]
  callSites := []
  init := .initialized
  statics := none
  mirror := none

def pool0 : Array CpInfo := pool [(5, u "<init>"), (0, u "()V"), (1, .class_ 10), (1, u "java/lang/Object")] 113

def k0c0 : Code := { maxStack := 0, maxLocals := 1, code := object_method_1_code, exceptionTable := #[], attributes := #[] }
def k0m0 : Method := { name := "<init>", desc := "()V", sig := { parameters := [], returnType := none }, accessFlags := 1, code := some k0c0 }
/-- java/lang/Object -/
def k0 : Class := { plain "java/lang/Object" none with
  accessFlags := 33
  interfaces := #[]
  cf := some (fileOf pool0 8 #[] #[{ accessFlags := 1, nameIndex := 5, descriptorIndex := 6, attributes := #[] }] 33 0 #[] #[])
  fields := #[]
  methods := #[k0m0]
  instanceTypes := #[]
  staticTypes := #[]
  resolved := Array.replicate 124 none
  statics := none }

def pool1 : Array CpInfo := pool [(2, .class_ 4), (1, u "java/lang/Object"), (0, u "<init>"), (0, u "()V"), (0, .fieldref 8 9), (0, .class_ 10), (0, .nameAndType 11 12), (0, u "com/example/isolation/isolation/EntityKind"), (0, u "RELATIONSHIP"), (0, u "Lcom/example/isolation/isolation/EntityKind;"), (0, .fieldref 8 14), (0, .nameAndType 15 12), (0, u "NODE"), (0, .class_ 17), (0, u "com/example/isolation/isolation/EntityKey"), (0, .methodref 16 19), (0, .nameAndType 5 20), (0, u "(Lcom/example/isolation/isolation/EntityKind;J)V"), (0, .methodref 16 22), (0, .nameAndType 23 24), (0, u "equals"), (0, u "(Ljava/lang/Object;)Z"), (0, .methodref 26 27), (0, .class_ 28), (0, .nameAndType 29 30), (0, u "java/lang/Long"), (0, u "valueOf"), (0, u "(J)Ljava/lang/Long;"), (0, .class_ 32), (0, u "com/example/isolation/isolation/EntityKeyEqualsPinLaw"), (2, u "law"), (0, u "(IJJ)Z")] 3

def k1m0 : Method := { name := "<init>", desc := "()V", sig := { parameters := [], returnType := none }, accessFlags := 1, code := none }
def k1c1 : Code := { maxStack := 5, maxLocals := 13, code := code, exceptionTable := #[], attributes := #[] }
def k1m1 : Method := { name := "law", desc := "(IJJ)Z", sig := { parameters := [.int, .long, .long], returnType := some .boolean }, accessFlags := 9, code := some k1c1 }
/-- com/example/isolation/isolation/EntityKeyEqualsPinLaw -/
def k1 : Class := { plain "com/example/isolation/isolation/EntityKeyEqualsPinLaw" (some 0) with
  accessFlags := 49
  interfaces := #[]
  cf := some (fileOf pool1 31 #[] #[{ accessFlags := 1, nameIndex := 5, descriptorIndex := 6, attributes := #[] }, { accessFlags := 9, nameIndex := 35, descriptorIndex := 36, attributes := #[] }] 49 2 #[] #[])
  fields := #[]
  methods := #[k1m0, k1m1]
  instanceTypes := #[]
  staticTypes := #[]
  resolved := Array.replicate 40 none
  statics := none }

def pool2 : Array CpInfo := pool [(1, .class_ 2), (0, u "java/lang/constant/Constable"), (0, .class_ 4), (0, u "java/lang/Object")] 6

/-- java/lang/constant/Constable -/
def k2 : Class := { plain "java/lang/constant/Constable" (some 0) with
  accessFlags := 1537
  interfaces := #[]
  cf := some (fileOf pool2 1 #[] #[] 1537 3 #[] #[])
  fields := #[]
  methods := #[]
  instanceTypes := #[]
  staticTypes := #[]
  resolved := Array.replicate 11 none
  statics := none }

def pool3 : Array CpInfo := pool [(1, .class_ 2), (0, u "java/lang/Comparable"), (0, .class_ 4), (0, u "java/lang/Object")] 7

/-- java/lang/Comparable -/
def k3 : Class := { plain "java/lang/Comparable" (some 0) with
  accessFlags := 1537
  interfaces := #[]
  cf := some (fileOf pool3 1 #[] #[] 1537 3 #[] #[])
  fields := #[]
  methods := #[]
  instanceTypes := #[]
  staticTypes := #[]
  resolved := Array.replicate 12 none
  statics := none }

def pool4 : Array CpInfo := pool [(1, .class_ 2), (0, u "java/io/Serializable"), (0, .class_ 4), (0, u "java/lang/Object")] 2

/-- java/io/Serializable -/
def k4 : Class := { plain "java/io/Serializable" (some 0) with
  accessFlags := 1537
  interfaces := #[]
  cf := some (fileOf pool4 1 #[] #[] 1537 3 #[] #[])
  fields := #[]
  methods := #[]
  instanceTypes := #[]
  staticTypes := #[]
  resolved := Array.replicate 7 none
  statics := none }

def pool5 : Array CpInfo := pool [(2, .class_ 4), (1, u "java/lang/Enum"), (0, u "name"), (0, u "Ljava/lang/String;"), (2, u "ordinal"), (0, u "I"), (1, .class_ 14), (1, u "java/lang/Object"), (4, u "hash"), (86, .class_ 108), (1, u "java/lang/Enum$EnumDesc"), (2, .class_ 112), (0, u "java/lang/constant/Constable"), (0, .class_ 114), (0, u "java/lang/Comparable"), (0, .class_ 116), (0, u "java/io/Serializable")] 87

/-- java/lang/Enum -/
def k5 : Class := { plain "java/lang/Enum" (some 0) with
  accessFlags := 1057
  interfaces := #[2, 3, 4]
  cf := some (fileOf pool5 2 #[.nestMembers #[106]] #[] 1057 12 #[111, 113, 115] #[{ accessFlags := 18, nameIndex := 5, descriptorIndex := 6, attributes := #[] }, { accessFlags := 18, nameIndex := 9, descriptorIndex := 10, attributes := #[] }, { accessFlags := 2, nameIndex := 19, descriptorIndex := 10, attributes := #[] }])
  fields := #[{ name := "name", type := (.object "java/lang/String"), accessFlags := 18, slot := 0, constantValue := 0 }, { name := "ordinal", type := .int, accessFlags := 18, slot := 1, constantValue := 0 }, { name := "hash", type := .int, accessFlags := 2, slot := 2, constantValue := 0 }]
  methods := #[]
  instanceTypes := #[(.object "java/lang/String"), .int, .int]
  staticTypes := #[]
  resolved := Array.replicate 204 none
  statics := none }

def pool6 : Array CpInfo := pool [(1, .class_ 2), (0, u "com/example/isolation/isolation/EntityKind"), (2, u "NODE"), (0, u "Lcom/example/isolation/isolation/EntityKind;"), (2, u "RELATIONSHIP"), (2, u "$VALUES"), (0, u "[Lcom/example/isolation/isolation/EntityKind;"), (6, .class_ 22), (1, u "java/lang/Enum"), (8, u "title"), (0, u "Ljava/lang/String;"), (2, u "entity"), (0, u "Lcom/example/isolation/isolation/ResourceKind;"), (2, u "every")] 75

/-- com/example/isolation/isolation/EntityKind -/
def k6 : Class := { plain "com/example/isolation/isolation/EntityKind" (some 5) with
  accessFlags := 16432
  interfaces := #[]
  cf := some (fileOf pool6 1 #[] #[] 16432 20 #[] #[{ accessFlags := 16409, nameIndex := 5, descriptorIndex := 6, attributes := #[] }, { accessFlags := 16409, nameIndex := 9, descriptorIndex := 6, attributes := #[] }, { accessFlags := 18, nameIndex := 31, descriptorIndex := 32, attributes := #[] }, { accessFlags := 18, nameIndex := 35, descriptorIndex := 36, attributes := #[] }, { accessFlags := 18, nameIndex := 39, descriptorIndex := 36, attributes := #[] }, { accessFlags := 4122, nameIndex := 12, descriptorIndex := 13, attributes := #[] }])
  fields := #[{ name := "NODE", type := (.object "com/example/isolation/isolation/EntityKind"), accessFlags := 16409, slot := 0, constantValue := 0 }, { name := "RELATIONSHIP", type := (.object "com/example/isolation/isolation/EntityKind"), accessFlags := 16409, slot := 1, constantValue := 0 }, { name := "title", type := (.object "java/lang/String"), accessFlags := 18, slot := 3, constantValue := 0 }, { name := "entity", type := (.object "com/example/isolation/isolation/ResourceKind"), accessFlags := 18, slot := 4, constantValue := 0 }, { name := "every", type := (.object "com/example/isolation/isolation/ResourceKind"), accessFlags := 18, slot := 5, constantValue := 0 }, { name := "$VALUES", type := (.array (.object "com/example/isolation/isolation/EntityKind")), accessFlags := 4122, slot := 2, constantValue := 0 }]
  methods := #[]
  instanceTypes := #[(.object "java/lang/String"), .int, .int, (.object "java/lang/String"), (.object "com/example/isolation/isolation/ResourceKind"), (.object "com/example/isolation/isolation/ResourceKind")]
  staticTypes := #[(.object "com/example/isolation/isolation/EntityKind"), (.object "com/example/isolation/isolation/EntityKind"), (.array (.object "com/example/isolation/isolation/EntityKind"))]
  resolved := Array.replicate 115 none
  statics := some 0 }

def pool7 : Array CpInfo := pool [(1, .class_ 2), (0, u "com/example/isolation/isolation/LockKey"), (4, .class_ 8), (0, u "java/lang/Object")] 6

/-- com/example/isolation/isolation/LockKey -/
def k7 : Class := { plain "com/example/isolation/isolation/LockKey" (some 0) with
  accessFlags := 1536
  interfaces := #[]
  cf := some (fileOf pool7 1 #[] #[] 1536 7 #[] #[])
  fields := #[]
  methods := #[]
  instanceTypes := #[]
  staticTypes := #[]
  resolved := Array.replicate 15 none
  statics := none }

def pool8 : Array CpInfo := pool [(1, .methodref 2 3), (0, .class_ 4), (0, .nameAndType 5 6), (0, u "java/lang/Object"), (0, u "<init>"), (0, u "()V"), (0, .fieldref 8 9), (0, .class_ 10), (0, .nameAndType 11 12), (0, u "com/example/isolation/isolation/EntityKey"), (0, u "kind"), (0, u "Lcom/example/isolation/isolation/EntityKind;"), (0, .fieldref 8 14), (0, .nameAndType 15 16), (0, u "id"), (0, u "J"), (24, .class_ 42), (0, u "com/example/isolation/isolation/LockKey"), (0, u "(Lcom/example/isolation/isolation/EntityKind;J)V"), (4, u "equals"), (0, u "(Ljava/lang/Object;)Z")] 5

def k8c0 : Code := { maxStack := 3, maxLocals := 4, code := prog_15_method_1_code, exceptionTable := #[], attributes := #[] }
def k8m0 : Method := { name := "<init>", desc := "(Lcom/example/isolation/isolation/EntityKind;J)V", sig := { parameters := [(.object "com/example/isolation/isolation/EntityKind"), .long], returnType := none }, accessFlags := 0, code := some k8c0 }
def k8c1 : Code := { maxStack := 4, maxLocals := 3, code := prog_15_method_3_code, exceptionTable := #[], attributes := #[] }
def k8m1 : Method := { name := "equals", desc := "(Ljava/lang/Object;)Z", sig := { parameters := [(.object "java/lang/Object")], returnType := some .boolean }, accessFlags := 1, code := some k8c1 }
/-- com/example/isolation/isolation/EntityKey -/
def k8 : Class := { plain "com/example/isolation/isolation/EntityKey" (some 0) with
  accessFlags := 32
  interfaces := #[7]
  cf := some (fileOf pool8 8 #[] #[{ accessFlags := 0, nameIndex := 5, descriptorIndex := 43, attributes := #[] }, { accessFlags := 1, nameIndex := 48, descriptorIndex := 49, attributes := #[] }] 32 2 #[41] #[{ accessFlags := 18, nameIndex := 11, descriptorIndex := 12, attributes := #[] }, { accessFlags := 18, nameIndex := 15, descriptorIndex := 16, attributes := #[] }])
  fields := #[{ name := "kind", type := (.object "com/example/isolation/isolation/EntityKind"), accessFlags := 18, slot := 0, constantValue := 0 }, { name := "id", type := .long, accessFlags := 18, slot := 1, constantValue := 0 }]
  methods := #[k8m0, k8m1]
  instanceTypes := #[(.object "com/example/isolation/isolation/EntityKind"), .long]
  staticTypes := #[]
  resolved := Array.replicate 55 none
  statics := none }

def pool9 : Array CpInfo := pool [(1, .methodref 2 3), (0, .class_ 4), (0, .nameAndType 5 6), (0, u "java/lang/Object"), (0, u "<init>"), (0, u "()V"), (1, .class_ 10), (1, u "java/lang/Number"), (2, .class_ 14), (0, u "java/io/Serializable"), (0, u "serialVersionUID"), (0, u "J")] 20

def k9c0 : Code := { maxStack := 1, maxLocals := 1, code := jdk_18_method_1_code, exceptionTable := #[], attributes := #[] }
def k9m0 : Method := { name := "<init>", desc := "()V", sig := { parameters := [], returnType := none }, accessFlags := 1, code := some k9c0 }
/-- java/lang/Number -/
def k9 : Class := { plain "java/lang/Number" (some 0) with
  accessFlags := 1057
  interfaces := #[4]
  cf := some (fileOf pool9 8 #[] #[{ accessFlags := 1, nameIndex := 5, descriptorIndex := 6, attributes := #[] }] 1057 2 #[13] #[{ accessFlags := 26, nameIndex := 15, descriptorIndex := 16, attributes := #[] }])
  fields := #[{ name := "serialVersionUID", type := .long, accessFlags := 26, slot := 0, constantValue := 0 }]
  methods := #[k9m0]
  instanceTypes := #[]
  staticTypes := #[.long]
  resolved := Array.replicate 37 none
  statics := none }

def pool10 : Array CpInfo := pool [(1, .class_ 2), (0, u "java/lang/constant/ConstantDesc"), (0, .class_ 4), (0, u "java/lang/Object")] 32

/-- java/lang/constant/ConstantDesc -/
def k10 : Class := { plain "java/lang/constant/ConstantDesc" (some 0) with
  accessFlags := 1537
  interfaces := #[]
  cf := some (fileOf pool10 1 #[] #[] 1537 3 #[] #[])
  fields := #[]
  methods := #[]
  instanceTypes := #[]
  staticTypes := #[]
  resolved := Array.replicate 37 none
  statics := none }

def pool11 : Array CpInfo := pool [(1, .class_ 2), (0, u "java/lang/Long"), (55, .nameAndType 59 60), (0, u "<init>"), (0, u "()V"), (24, u "valueOf"), (143, u "(J)Ljava/lang/Long;"), (0, .long 18446744073709551488), (1, .long 127), (1, .fieldref 235 236), (0, .class_ 237), (0, .nameAndType 238 239), (0, u "java/lang/Long$LongCache"), (0, u "cache"), (0, u "[Ljava/lang/Long;"), (0, .methodref 1 241), (0, .nameAndType 59 242), (0, u "(J)V"), (27, .methodref 271 58), (0, .class_ 272), (0, u "java/lang/Number"), (0, .fieldref 1 274), (0, .nameAndType 275 276), (0, u "value"), (0, u "J"), (84, u "TYPE"), (0, u "Ljava/lang/Class;"), (0, .class_ 364), (0, u "java/lang/Comparable"), (0, .class_ 366), (0, u "java/lang/constant/Constable"), (0, .class_ 368), (0, u "java/lang/constant/ConstantDesc"), (0, u "MIN_VALUE"), (1, u "MAX_VALUE"), (4, u "SIZE"), (0, u "I"), (1, u "BYTES"), (1, u "serialVersionUID")] 142

def k11c0 : Code := { maxStack := 4, maxLocals := 3, code := jdk_35_method_24_code, exceptionTable := #[], attributes := #[] }
def k11m0 : Method := { name := "valueOf", desc := "(J)Ljava/lang/Long;", sig := { parameters := [.long], returnType := some (.object "java/lang/Long") }, accessFlags := 9, code := some k11c0 }
def k11c1 : Code := { maxStack := 3, maxLocals := 3, code := jdk_35_method_26_code, exceptionTable := #[], attributes := #[] }
def k11m1 : Method := { name := "<init>", desc := "(J)V", sig := { parameters := [.long], returnType := none }, accessFlags := 1, code := some k11c1 }
/-- java/lang/Long -/
def k11 : Class := { plain "java/lang/Long" (some 9) with
  accessFlags := 49
  interfaces := #[3, 2, 10]
  cf := some (fileOf pool11 1 #[.nestMembers #[235]] #[{ accessFlags := 9, nameIndex := 85, descriptorIndex := 229, attributes := #[] }, { accessFlags := 1, nameIndex := 59, descriptorIndex := 242, attributes := #[] }] 49 271 #[363, 365, 367] #[{ accessFlags := 25, nameIndex := 369, descriptorIndex := 276, attributes := #[] }, { accessFlags := 25, nameIndex := 371, descriptorIndex := 276, attributes := #[] }, { accessFlags := 25, nameIndex := 361, descriptorIndex := 362, attributes := #[] }, { accessFlags := 18, nameIndex := 275, descriptorIndex := 276, attributes := #[] }, { accessFlags := 25, nameIndex := 376, descriptorIndex := 377, attributes := #[] }, { accessFlags := 25, nameIndex := 379, descriptorIndex := 377, attributes := #[] }, { accessFlags := 26, nameIndex := 381, descriptorIndex := 276, attributes := #[] }])
  fields := #[{ name := "MIN_VALUE", type := .long, accessFlags := 25, slot := 0, constantValue := 0 }, { name := "MAX_VALUE", type := .long, accessFlags := 25, slot := 1, constantValue := 0 }, { name := "TYPE", type := (.object "java/lang/Class"), accessFlags := 25, slot := 2, constantValue := 0 }, { name := "value", type := .long, accessFlags := 18, slot := 0, constantValue := 0 }, { name := "SIZE", type := .int, accessFlags := 25, slot := 3, constantValue := 0 }, { name := "BYTES", type := .int, accessFlags := 25, slot := 4, constantValue := 0 }, { name := "serialVersionUID", type := .long, accessFlags := 26, slot := 5, constantValue := 0 }]
  methods := #[k11m0, k11m1]
  instanceTypes := #[.long]
  staticTypes := #[.long, .long, (.object "java/lang/Class"), .int, .int, .long]
  resolved := Array.replicate 524 none
  statics := none }

def pool12 : Array CpInfo := pool [(2, .class_ 4), (1, u "java/lang/Object"), (0, u "<init>"), (0, u "()V"), (0, .class_ 8), (0, u "java/lang/Long"), (7, .class_ 18), (1, u "java/lang/Long$LongCache"), (0, u "$assertionsDisabled"), (0, u "Z"), (8, u "archivedCache"), (0, u "[Ljava/lang/Long;"), (7, u "cache")] 24

def k12m0 : Method := { name := "<init>", desc := "()V", sig := { parameters := [], returnType := none }, accessFlags := 2, code := none }
/-- java/lang/Long$LongCache -/
def k12 : Class := { plain "java/lang/Long$LongCache" (some 0) with
  accessFlags := 48
  interfaces := #[]
  cf := some (fileOf pool12 16 #[.nestHost 7] #[{ accessFlags := 2, nameIndex := 5, descriptorIndex := 6, attributes := #[] }] 48 2 #[] #[{ accessFlags := 24, nameIndex := 38, descriptorIndex := 30, attributes := #[] }, { accessFlags := 8, nameIndex := 29, descriptorIndex := 30, attributes := #[] }, { accessFlags := 4120, nameIndex := 19, descriptorIndex := 20, attributes := #[] }])
  fields := #[{ name := "cache", type := (.array (.object "java/lang/Long")), accessFlags := 24, slot := 0, constantValue := 0 }, { name := "archivedCache", type := (.array (.object "java/lang/Long")), accessFlags := 8, slot := 1, constantValue := 0 }, { name := "$assertionsDisabled", type := .boolean, accessFlags := 4120, slot := 2, constantValue := 0 }]
  methods := #[k12m0]
  instanceTypes := #[]
  staticTypes := #[(.array (.object "java/lang/Long")), (.array (.object "java/lang/Long")), .boolean]
  resolved := Array.replicate 63 none
  statics := some 1 }

def pool13 : Array CpInfo := pool [(1, u "java/lang/Cloneable"), (0, .class_ 1), (0, u "java/lang/Object"), (0, .class_ 3)] 3

/-- java/lang/Cloneable -/
def k13 : Class := { plain "java/lang/Cloneable" (some 0) with
  accessFlags := 1537
  interfaces := #[]
  cf := some (fileOf pool13 2 #[] #[] 1537 4 #[] #[])
  fields := #[]
  methods := #[]
  instanceTypes := #[]
  staticTypes := #[]
  resolved := Array.replicate 8 none
  statics := none }

/-- the primitive byte -/
def k14 : Class := { plain "byte" none with kind := .primitive 'B', accessFlags := 0x411 }
/-- [B -/
def k15 : Class := { plain "[B" (some 0) with kind := .array 14 .byte, interfaces := #[13, 4], accessFlags := 1041 }

/-- the primitive int -/
def k16 : Class := { plain "int" none with kind := .primitive 'I', accessFlags := 0x411 }
/-- [I -/
def k17 : Class := { plain "[I" (some 0) with kind := .array 16 .int, interfaces := #[13, 4], accessFlags := 1041 }

/-- [Ljava/lang/Long; -/
def k18 : Class := { plain "[Ljava/lang/Long;" (some 0) with kind := .array 11 (.object "java/lang/Long"), interfaces := #[13, 4], accessFlags := 1041 }

def heap : Heap := #[{ cls := 6, slots := #[.ref 3, .ref 4, .null], vm := .statics 6 },
  { cls := 12, slots := #[.ref 2, .null, .int 0], vm := .statics 12 },
  { cls := 18, slots := #[.ref 5, .ref 6, .ref 7, .ref 8, .ref 9, .ref 10, .ref 11, .ref 12, .ref 13, .ref 14, .ref 15, .ref 16, .ref 17, .ref 18, .ref 19, .ref 20, .ref 21, .ref 22, .ref 23, .ref 24, .ref 25, .ref 26, .ref 27, .ref 28, .ref 29, .ref 30, .ref 31, .ref 32, .ref 33, .ref 34, .ref 35, .ref 36, .ref 37, .ref 38, .ref 39, .ref 40, .ref 41, .ref 42, .ref 43, .ref 44, .ref 45, .ref 46, .ref 47, .ref 48, .ref 49, .ref 50, .ref 51, .ref 52, .ref 53, .ref 54, .ref 55, .ref 56, .ref 57, .ref 58, .ref 59, .ref 60, .ref 61, .ref 62, .ref 63, .ref 64, .ref 65, .ref 66, .ref 67, .ref 68, .ref 69, .ref 70, .ref 71, .ref 72, .ref 73, .ref 74, .ref 75, .ref 76, .ref 77, .ref 78, .ref 79, .ref 80, .ref 81, .ref 82, .ref 83, .ref 84, .ref 85, .ref 86, .ref 87, .ref 88, .ref 89, .ref 90, .ref 91, .ref 92, .ref 93, .ref 94, .ref 95, .ref 96, .ref 97, .ref 98, .ref 99, .ref 100, .ref 101, .ref 102, .ref 103, .ref 104, .ref 105, .ref 106, .ref 107, .ref 108, .ref 109, .ref 110, .ref 111, .ref 112, .ref 113, .ref 114, .ref 115, .ref 116, .ref 117, .ref 118, .ref 119, .ref 120, .ref 121, .ref 122, .ref 123, .ref 124, .ref 125, .ref 126, .ref 127, .ref 128, .ref 129, .ref 130, .ref 131, .ref 132, .ref 133, .ref 134, .ref 135, .ref 136, .ref 137, .ref 138, .ref 139, .ref 140, .ref 141, .ref 142, .ref 143, .ref 144, .ref 145, .ref 146, .ref 147, .ref 148, .ref 149, .ref 150, .ref 151, .ref 152, .ref 153, .ref 154, .ref 155, .ref 156, .ref 157, .ref 158, .ref 159, .ref 160, .ref 161, .ref 162, .ref 163, .ref 164, .ref 165, .ref 166, .ref 167, .ref 168, .ref 169, .ref 170, .ref 171, .ref 172, .ref 173, .ref 174, .ref 175, .ref 176, .ref 177, .ref 178, .ref 179, .ref 180, .ref 181, .ref 182, .ref 183, .ref 184, .ref 185, .ref 186, .ref 187, .ref 188, .ref 189, .ref 190, .ref 191, .ref 192, .ref 193, .ref 194, .ref 195, .ref 196, .ref 197, .ref 198, .ref 199, .ref 200, .ref 201, .ref 202, .ref 203, .ref 204, .ref 205, .ref 206, .ref 207, .ref 208, .ref 209, .ref 210, .ref 211, .ref 212, .ref 213, .ref 214, .ref 215, .ref 216, .ref 217, .ref 218, .ref 219, .ref 220, .ref 221, .ref 222, .ref 223, .ref 224, .ref 225, .ref 226, .ref 227, .ref 228, .ref 229, .ref 230, .ref 231, .ref 232, .ref 233, .ref 234, .ref 235, .ref 236, .ref 237, .ref 238, .ref 239, .ref 240, .ref 241, .ref 242, .ref 243, .ref 244, .ref 245, .ref 246, .ref 247, .ref 248, .ref 249, .ref 250, .ref 251, .ref 252, .ref 253, .ref 254, .ref 255, .ref 256, .ref 257, .ref 258, .ref 259, .ref 260], vm := .none },
  { cls := 6, slots := #[.null, .int 0, .int 0, .null, .null, .null], vm := .none },
  { cls := 6, slots := #[.null, .int 1, .int 0, .null, .null, .null], vm := .none },
  { cls := 11, slots := #[.long (-128)], vm := .none },
  { cls := 11, slots := #[.long (-127)], vm := .none },
  { cls := 11, slots := #[.long (-126)], vm := .none },
  { cls := 11, slots := #[.long (-125)], vm := .none },
  { cls := 11, slots := #[.long (-124)], vm := .none },
  { cls := 11, slots := #[.long (-123)], vm := .none },
  { cls := 11, slots := #[.long (-122)], vm := .none },
  { cls := 11, slots := #[.long (-121)], vm := .none },
  { cls := 11, slots := #[.long (-120)], vm := .none },
  { cls := 11, slots := #[.long (-119)], vm := .none },
  { cls := 11, slots := #[.long (-118)], vm := .none },
  { cls := 11, slots := #[.long (-117)], vm := .none },
  { cls := 11, slots := #[.long (-116)], vm := .none },
  { cls := 11, slots := #[.long (-115)], vm := .none },
  { cls := 11, slots := #[.long (-114)], vm := .none },
  { cls := 11, slots := #[.long (-113)], vm := .none },
  { cls := 11, slots := #[.long (-112)], vm := .none },
  { cls := 11, slots := #[.long (-111)], vm := .none },
  { cls := 11, slots := #[.long (-110)], vm := .none },
  { cls := 11, slots := #[.long (-109)], vm := .none },
  { cls := 11, slots := #[.long (-108)], vm := .none },
  { cls := 11, slots := #[.long (-107)], vm := .none },
  { cls := 11, slots := #[.long (-106)], vm := .none },
  { cls := 11, slots := #[.long (-105)], vm := .none },
  { cls := 11, slots := #[.long (-104)], vm := .none },
  { cls := 11, slots := #[.long (-103)], vm := .none },
  { cls := 11, slots := #[.long (-102)], vm := .none },
  { cls := 11, slots := #[.long (-101)], vm := .none },
  { cls := 11, slots := #[.long (-100)], vm := .none },
  { cls := 11, slots := #[.long (-99)], vm := .none },
  { cls := 11, slots := #[.long (-98)], vm := .none },
  { cls := 11, slots := #[.long (-97)], vm := .none },
  { cls := 11, slots := #[.long (-96)], vm := .none },
  { cls := 11, slots := #[.long (-95)], vm := .none },
  { cls := 11, slots := #[.long (-94)], vm := .none },
  { cls := 11, slots := #[.long (-93)], vm := .none },
  { cls := 11, slots := #[.long (-92)], vm := .none },
  { cls := 11, slots := #[.long (-91)], vm := .none },
  { cls := 11, slots := #[.long (-90)], vm := .none },
  { cls := 11, slots := #[.long (-89)], vm := .none },
  { cls := 11, slots := #[.long (-88)], vm := .none },
  { cls := 11, slots := #[.long (-87)], vm := .none },
  { cls := 11, slots := #[.long (-86)], vm := .none },
  { cls := 11, slots := #[.long (-85)], vm := .none },
  { cls := 11, slots := #[.long (-84)], vm := .none },
  { cls := 11, slots := #[.long (-83)], vm := .none },
  { cls := 11, slots := #[.long (-82)], vm := .none },
  { cls := 11, slots := #[.long (-81)], vm := .none },
  { cls := 11, slots := #[.long (-80)], vm := .none },
  { cls := 11, slots := #[.long (-79)], vm := .none },
  { cls := 11, slots := #[.long (-78)], vm := .none },
  { cls := 11, slots := #[.long (-77)], vm := .none },
  { cls := 11, slots := #[.long (-76)], vm := .none },
  { cls := 11, slots := #[.long (-75)], vm := .none },
  { cls := 11, slots := #[.long (-74)], vm := .none },
  { cls := 11, slots := #[.long (-73)], vm := .none },
  { cls := 11, slots := #[.long (-72)], vm := .none },
  { cls := 11, slots := #[.long (-71)], vm := .none },
  { cls := 11, slots := #[.long (-70)], vm := .none },
  { cls := 11, slots := #[.long (-69)], vm := .none },
  { cls := 11, slots := #[.long (-68)], vm := .none },
  { cls := 11, slots := #[.long (-67)], vm := .none },
  { cls := 11, slots := #[.long (-66)], vm := .none },
  { cls := 11, slots := #[.long (-65)], vm := .none },
  { cls := 11, slots := #[.long (-64)], vm := .none },
  { cls := 11, slots := #[.long (-63)], vm := .none },
  { cls := 11, slots := #[.long (-62)], vm := .none },
  { cls := 11, slots := #[.long (-61)], vm := .none },
  { cls := 11, slots := #[.long (-60)], vm := .none },
  { cls := 11, slots := #[.long (-59)], vm := .none },
  { cls := 11, slots := #[.long (-58)], vm := .none },
  { cls := 11, slots := #[.long (-57)], vm := .none },
  { cls := 11, slots := #[.long (-56)], vm := .none },
  { cls := 11, slots := #[.long (-55)], vm := .none },
  { cls := 11, slots := #[.long (-54)], vm := .none },
  { cls := 11, slots := #[.long (-53)], vm := .none },
  { cls := 11, slots := #[.long (-52)], vm := .none },
  { cls := 11, slots := #[.long (-51)], vm := .none },
  { cls := 11, slots := #[.long (-50)], vm := .none },
  { cls := 11, slots := #[.long (-49)], vm := .none },
  { cls := 11, slots := #[.long (-48)], vm := .none },
  { cls := 11, slots := #[.long (-47)], vm := .none },
  { cls := 11, slots := #[.long (-46)], vm := .none },
  { cls := 11, slots := #[.long (-45)], vm := .none },
  { cls := 11, slots := #[.long (-44)], vm := .none },
  { cls := 11, slots := #[.long (-43)], vm := .none },
  { cls := 11, slots := #[.long (-42)], vm := .none },
  { cls := 11, slots := #[.long (-41)], vm := .none },
  { cls := 11, slots := #[.long (-40)], vm := .none },
  { cls := 11, slots := #[.long (-39)], vm := .none },
  { cls := 11, slots := #[.long (-38)], vm := .none },
  { cls := 11, slots := #[.long (-37)], vm := .none },
  { cls := 11, slots := #[.long (-36)], vm := .none },
  { cls := 11, slots := #[.long (-35)], vm := .none },
  { cls := 11, slots := #[.long (-34)], vm := .none },
  { cls := 11, slots := #[.long (-33)], vm := .none },
  { cls := 11, slots := #[.long (-32)], vm := .none },
  { cls := 11, slots := #[.long (-31)], vm := .none },
  { cls := 11, slots := #[.long (-30)], vm := .none },
  { cls := 11, slots := #[.long (-29)], vm := .none },
  { cls := 11, slots := #[.long (-28)], vm := .none },
  { cls := 11, slots := #[.long (-27)], vm := .none },
  { cls := 11, slots := #[.long (-26)], vm := .none },
  { cls := 11, slots := #[.long (-25)], vm := .none },
  { cls := 11, slots := #[.long (-24)], vm := .none },
  { cls := 11, slots := #[.long (-23)], vm := .none },
  { cls := 11, slots := #[.long (-22)], vm := .none },
  { cls := 11, slots := #[.long (-21)], vm := .none },
  { cls := 11, slots := #[.long (-20)], vm := .none },
  { cls := 11, slots := #[.long (-19)], vm := .none },
  { cls := 11, slots := #[.long (-18)], vm := .none },
  { cls := 11, slots := #[.long (-17)], vm := .none },
  { cls := 11, slots := #[.long (-16)], vm := .none },
  { cls := 11, slots := #[.long (-15)], vm := .none },
  { cls := 11, slots := #[.long (-14)], vm := .none },
  { cls := 11, slots := #[.long (-13)], vm := .none },
  { cls := 11, slots := #[.long (-12)], vm := .none },
  { cls := 11, slots := #[.long (-11)], vm := .none },
  { cls := 11, slots := #[.long (-10)], vm := .none },
  { cls := 11, slots := #[.long (-9)], vm := .none },
  { cls := 11, slots := #[.long (-8)], vm := .none },
  { cls := 11, slots := #[.long (-7)], vm := .none },
  { cls := 11, slots := #[.long (-6)], vm := .none },
  { cls := 11, slots := #[.long (-5)], vm := .none },
  { cls := 11, slots := #[.long (-4)], vm := .none },
  { cls := 11, slots := #[.long (-3)], vm := .none },
  { cls := 11, slots := #[.long (-2)], vm := .none },
  { cls := 11, slots := #[.long (-1)], vm := .none },
  { cls := 11, slots := #[.long 0], vm := .none },
  { cls := 11, slots := #[.long 1], vm := .none },
  { cls := 11, slots := #[.long 2], vm := .none },
  { cls := 11, slots := #[.long 3], vm := .none },
  { cls := 11, slots := #[.long 4], vm := .none },
  { cls := 11, slots := #[.long 5], vm := .none },
  { cls := 11, slots := #[.long 6], vm := .none },
  { cls := 11, slots := #[.long 7], vm := .none },
  { cls := 11, slots := #[.long 8], vm := .none },
  { cls := 11, slots := #[.long 9], vm := .none },
  { cls := 11, slots := #[.long 10], vm := .none },
  { cls := 11, slots := #[.long 11], vm := .none },
  { cls := 11, slots := #[.long 12], vm := .none },
  { cls := 11, slots := #[.long 13], vm := .none },
  { cls := 11, slots := #[.long 14], vm := .none },
  { cls := 11, slots := #[.long 15], vm := .none },
  { cls := 11, slots := #[.long 16], vm := .none },
  { cls := 11, slots := #[.long 17], vm := .none },
  { cls := 11, slots := #[.long 18], vm := .none },
  { cls := 11, slots := #[.long 19], vm := .none },
  { cls := 11, slots := #[.long 20], vm := .none },
  { cls := 11, slots := #[.long 21], vm := .none },
  { cls := 11, slots := #[.long 22], vm := .none },
  { cls := 11, slots := #[.long 23], vm := .none },
  { cls := 11, slots := #[.long 24], vm := .none },
  { cls := 11, slots := #[.long 25], vm := .none },
  { cls := 11, slots := #[.long 26], vm := .none },
  { cls := 11, slots := #[.long 27], vm := .none },
  { cls := 11, slots := #[.long 28], vm := .none },
  { cls := 11, slots := #[.long 29], vm := .none },
  { cls := 11, slots := #[.long 30], vm := .none },
  { cls := 11, slots := #[.long 31], vm := .none },
  { cls := 11, slots := #[.long 32], vm := .none },
  { cls := 11, slots := #[.long 33], vm := .none },
  { cls := 11, slots := #[.long 34], vm := .none },
  { cls := 11, slots := #[.long 35], vm := .none },
  { cls := 11, slots := #[.long 36], vm := .none },
  { cls := 11, slots := #[.long 37], vm := .none },
  { cls := 11, slots := #[.long 38], vm := .none },
  { cls := 11, slots := #[.long 39], vm := .none },
  { cls := 11, slots := #[.long 40], vm := .none },
  { cls := 11, slots := #[.long 41], vm := .none },
  { cls := 11, slots := #[.long 42], vm := .none },
  { cls := 11, slots := #[.long 43], vm := .none },
  { cls := 11, slots := #[.long 44], vm := .none },
  { cls := 11, slots := #[.long 45], vm := .none },
  { cls := 11, slots := #[.long 46], vm := .none },
  { cls := 11, slots := #[.long 47], vm := .none },
  { cls := 11, slots := #[.long 48], vm := .none },
  { cls := 11, slots := #[.long 49], vm := .none },
  { cls := 11, slots := #[.long 50], vm := .none },
  { cls := 11, slots := #[.long 51], vm := .none },
  { cls := 11, slots := #[.long 52], vm := .none },
  { cls := 11, slots := #[.long 53], vm := .none },
  { cls := 11, slots := #[.long 54], vm := .none },
  { cls := 11, slots := #[.long 55], vm := .none },
  { cls := 11, slots := #[.long 56], vm := .none },
  { cls := 11, slots := #[.long 57], vm := .none },
  { cls := 11, slots := #[.long 58], vm := .none },
  { cls := 11, slots := #[.long 59], vm := .none },
  { cls := 11, slots := #[.long 60], vm := .none },
  { cls := 11, slots := #[.long 61], vm := .none },
  { cls := 11, slots := #[.long 62], vm := .none },
  { cls := 11, slots := #[.long 63], vm := .none },
  { cls := 11, slots := #[.long 64], vm := .none },
  { cls := 11, slots := #[.long 65], vm := .none },
  { cls := 11, slots := #[.long 66], vm := .none },
  { cls := 11, slots := #[.long 67], vm := .none },
  { cls := 11, slots := #[.long 68], vm := .none },
  { cls := 11, slots := #[.long 69], vm := .none },
  { cls := 11, slots := #[.long 70], vm := .none },
  { cls := 11, slots := #[.long 71], vm := .none },
  { cls := 11, slots := #[.long 72], vm := .none },
  { cls := 11, slots := #[.long 73], vm := .none },
  { cls := 11, slots := #[.long 74], vm := .none },
  { cls := 11, slots := #[.long 75], vm := .none },
  { cls := 11, slots := #[.long 76], vm := .none },
  { cls := 11, slots := #[.long 77], vm := .none },
  { cls := 11, slots := #[.long 78], vm := .none },
  { cls := 11, slots := #[.long 79], vm := .none },
  { cls := 11, slots := #[.long 80], vm := .none },
  { cls := 11, slots := #[.long 81], vm := .none },
  { cls := 11, slots := #[.long 82], vm := .none },
  { cls := 11, slots := #[.long 83], vm := .none },
  { cls := 11, slots := #[.long 84], vm := .none },
  { cls := 11, slots := #[.long 85], vm := .none },
  { cls := 11, slots := #[.long 86], vm := .none },
  { cls := 11, slots := #[.long 87], vm := .none },
  { cls := 11, slots := #[.long 88], vm := .none },
  { cls := 11, slots := #[.long 89], vm := .none },
  { cls := 11, slots := #[.long 90], vm := .none },
  { cls := 11, slots := #[.long 91], vm := .none },
  { cls := 11, slots := #[.long 92], vm := .none },
  { cls := 11, slots := #[.long 93], vm := .none },
  { cls := 11, slots := #[.long 94], vm := .none },
  { cls := 11, slots := #[.long 95], vm := .none },
  { cls := 11, slots := #[.long 96], vm := .none },
  { cls := 11, slots := #[.long 97], vm := .none },
  { cls := 11, slots := #[.long 98], vm := .none },
  { cls := 11, slots := #[.long 99], vm := .none },
  { cls := 11, slots := #[.long 100], vm := .none },
  { cls := 11, slots := #[.long 101], vm := .none },
  { cls := 11, slots := #[.long 102], vm := .none },
  { cls := 11, slots := #[.long 103], vm := .none },
  { cls := 11, slots := #[.long 104], vm := .none },
  { cls := 11, slots := #[.long 105], vm := .none },
  { cls := 11, slots := #[.long 106], vm := .none },
  { cls := 11, slots := #[.long 107], vm := .none },
  { cls := 11, slots := #[.long 108], vm := .none },
  { cls := 11, slots := #[.long 109], vm := .none },
  { cls := 11, slots := #[.long 110], vm := .none },
  { cls := 11, slots := #[.long 111], vm := .none },
  { cls := 11, slots := #[.long 112], vm := .none },
  { cls := 11, slots := #[.long 113], vm := .none },
  { cls := 11, slots := #[.long 114], vm := .none },
  { cls := 11, slots := #[.long 115], vm := .none },
  { cls := 11, slots := #[.long 116], vm := .none },
  { cls := 11, slots := #[.long 117], vm := .none },
  { cls := 11, slots := #[.long 118], vm := .none },
  { cls := 11, slots := #[.long 119], vm := .none },
  { cls := 11, slots := #[.long 120], vm := .none },
  { cls := 11, slots := #[.long 121], vm := .none },
  { cls := 11, slots := #[.long 122], vm := .none },
  { cls := 11, slots := #[.long 123], vm := .none },
  { cls := 11, slots := #[.long 124], vm := .none },
  { cls := 11, slots := #[.long 125], vm := .none },
  { cls := 11, slots := #[.long 126], vm := .none },
  { cls := 11, slots := #[.long 127], vm := .none }]
def classes : Array Class := #[k0, k1, k2, k3, k4, k5, k6, k7, k8, k9, k10, k11, k12, k13, k14, k15, k16, k17, k18]
def interned : List (Array UInt16 × Addr) := []
def slotsUsed : Nat := 530
def theMethod : MethodId := ⟨1, 1⟩
def args0 : Array Value := #[.int 5, .long 6, .long 7]
def aboutOver (below : List Frame) : State where
  vm := { classes := classes, interned := interned.toArray }
  heap := heap
  slotsUsed := slotsUsed
  threads := #[{ frames := .invoking theMethod args0 :: below }]
def below0 : List Frame := [.native { method := ⟨0, 0⟩, args := #[] }]
def about1 : State := aboutOver below0
def p0 : Program := .bare "" "" ""
def e0 : Env := launch0.env 0 0 0
theorem w_frames : about1.frames = Frame.invoking theMethod args0 :: below0 := rfl
set_option maxRecDepth 65536 in
theorem w_args : argsFit about1.vm theMethod args0 = true := by decide +kernel
set_option maxRecDepth 65536 in
theorem w_heap : heapFits about1 = true := by decide +kernel
set_option maxRecDepth 65536 in
theorem w_runnable : about1.curStatus? = some .runnable := by decide +kernel
set_option maxRecDepth 65536 in
theorem w_alone : about1.alone = true := by decide +kernel
set_option maxRecDepth 65536 in
theorem w_named : about1.methodNamed? x = some theMethod := by decide +kernel
set_option maxRecDepth 65536 in
theorem w_hears : about1.hears theMethod below0 = true := by decide +kernel
set_option maxRecDepth 65536 in
theorem w_ripe : about1.ripe theMethod args0 below0 = true := by decide +kernel
theorem w_running : about1.status = .running := rfl
set_option maxRecDepth 65536 in
theorem w_room : about1.hasRoom e0.platform room_1 = true :=
  launch0.hasRoom_least _ room_1 (by decide +kernel) (by decide +kernel) (by decide +kernel) (by decide +kernel) (by decide +kernel) (by decide +kernel)
theorem allAtoms_all (ts : List Jvm.Cond) (a : Array Jvm.Value) (st : Jvm.State) : (allAtoms ts).before a st = ts.all (fun c => c.before a st) := by
  induction ts with
  | nil => rfl
  | cons c t ih =>
    show (Jvm.Cond.and c (allAtoms t)).before a st = _
    rw [Jvm.Cond.before_and, ih, List.all_cons]
def words1 : List Jvm.Cond := Jvm.Cond.code x code maxLocals ret :: tables_1
/-- a 'code' word, met by the world's own term for the bytes: nothing is compared byte by byte -/
theorem code_word {y : MethodName} {bytes : ByteArray} {mx : Nat} {rt : Option FieldType} {a : Array Value} {s : State} {m : MethodId} {meth : Method} {c : Code} (h1 : s.methodNamed? y = some m) (h2 : s.vm.method? m = some meth) (h3 : meth.code = some c) (h4 : c.code = bytes)
    (h5 : (c.maxLocals == mx && c.exceptionTable.isEmpty && decide (c.maxStack ≤ mostOperands) && decide (meth.sig.returnType = rt) && !meth.locks && decide (parseMethodDescriptor y.desc = some meth.sig)) = true) : (Jvm.Cond.code y bytes mx rt).before a s = true := by
  simp only [Bool.and_eq_true, beq_iff_eq, Bool.not_eq_true', decide_eq_true_eq] at h5
  obtain ⟨⟨⟨⟨⟨g1, g2⟩, g3⟩, g4⟩, g5⟩, g6⟩ := h5
  simp [Cond.before, Cond.holds, Cond.value, h1, h2, h3, h4, g1, g2, g3, g4, g5, g6]
def isCode : Jvm.Cond → Bool
  | .code _ _ _ _ => true
  | _ => false
theorem all_split {L : List Jvm.Cond} {P : Jvm.Cond → Bool} (h1 : L.all (fun c => isCode c || P c) = true) (h2 : ∀ c ∈ L.filter isCode, P c = true) : L.all P = true := by
  refine List.all_eq_true.mpr fun c hc => ?_
  have h := List.all_eq_true.mp h1 c hc
  rcases Bool.eq_false_or_eq_true (isCode c) with hi | hi
  · exact h2 c (List.mem_filter.mpr ⟨hc, hi⟩)
  · simpa [hi] using h
set_option maxRecDepth 65536 in
theorem w_c0 : (Jvm.Cond.code x code maxLocals ret).before args0 about1 = true := code_word (m := ⟨1, 1⟩) (meth := k1m1) (c := k1c1) (by decide +kernel) rfl rfl rfl (by decide +kernel)
set_option maxRecDepth 65536 in
theorem w_c1 : (Jvm.Cond.code ({ cls := "com/example/isolation/isolation/EntityKey", name := "<init>", desc := "(Lcom/example/isolation/isolation/EntityKind;J)V" } : Jvm.MethodName) prog_15_method_1_code (4 : Nat) (Option.none : Option Jvm.ClassFile.FieldType)).before args0 about1 = true := code_word (m := ⟨8, 0⟩) (meth := k8m0) (c := k8c0) (by decide +kernel) rfl rfl rfl (by decide +kernel)
set_option maxRecDepth 65536 in
theorem w_c2 : (Jvm.Cond.code ({ cls := "java/lang/Object", name := "<init>", desc := "()V" } : Jvm.MethodName) object_method_1_code (1 : Nat) (Option.none : Option Jvm.ClassFile.FieldType)).before args0 about1 = true := code_word (m := ⟨0, 0⟩) (meth := k0m0) (c := k0c0) (by decide +kernel) rfl rfl rfl (by decide +kernel)
set_option maxRecDepth 65536 in
theorem w_c3 : (Jvm.Cond.code ({ cls := "com/example/isolation/isolation/EntityKey", name := "equals", desc := "(Ljava/lang/Object;)Z" } : Jvm.MethodName) prog_15_method_3_code (3 : Nat) (Option.some Jvm.ClassFile.FieldType.boolean)).before args0 about1 = true := code_word (m := ⟨8, 1⟩) (meth := k8m1) (c := k8c1) (by decide +kernel) rfl rfl rfl (by decide +kernel)
set_option maxRecDepth 65536 in
theorem w_c4 : (Jvm.Cond.code ({ cls := "java/lang/Long", name := "valueOf", desc := "(J)Ljava/lang/Long;" } : Jvm.MethodName) jdk_35_method_24_code (3 : Nat) (Option.some (Jvm.ClassFile.FieldType.object "java/lang/Long"))).before args0 about1 = true := code_word (m := ⟨11, 0⟩) (meth := k11m0) (c := k11c0) (by decide +kernel) rfl rfl rfl (by decide +kernel)
set_option maxRecDepth 65536 in
theorem w_c5 : (Jvm.Cond.code ({ cls := "java/lang/Long", name := "<init>", desc := "(J)V" } : Jvm.MethodName) jdk_35_method_26_code (3 : Nat) (Option.none : Option Jvm.ClassFile.FieldType)).before args0 about1 = true := code_word (m := ⟨11, 1⟩) (meth := k11m1) (c := k11c1) (by decide +kernel) rfl rfl rfl (by decide +kernel)
set_option maxRecDepth 65536 in
theorem w_c6 : (Jvm.Cond.code ({ cls := "java/lang/Number", name := "<init>", desc := "()V" } : Jvm.MethodName) jdk_18_method_1_code (1 : Nat) (Option.none : Option Jvm.ClassFile.FieldType)).before args0 about1 = true := code_word (m := ⟨9, 0⟩) (meth := k9m0) (c := k9c0) (by decide +kernel) rfl rfl rfl (by decide +kernel)
def codes1 : List Jvm.Cond := [Jvm.Cond.code x code maxLocals ret, Jvm.Cond.code ({ cls := "com/example/isolation/isolation/EntityKey", name := "<init>", desc := "(Lcom/example/isolation/isolation/EntityKind;J)V" } : Jvm.MethodName) prog_15_method_1_code (4 : Nat) (Option.none : Option Jvm.ClassFile.FieldType), Jvm.Cond.code ({ cls := "java/lang/Object", name := "<init>", desc := "()V" } : Jvm.MethodName) object_method_1_code (1 : Nat) (Option.none : Option Jvm.ClassFile.FieldType), Jvm.Cond.code ({ cls := "com/example/isolation/isolation/EntityKey", name := "equals", desc := "(Ljava/lang/Object;)Z" } : Jvm.MethodName) prog_15_method_3_code (3 : Nat) (Option.some Jvm.ClassFile.FieldType.boolean), Jvm.Cond.code ({ cls := "java/lang/Long", name := "valueOf", desc := "(J)Ljava/lang/Long;" } : Jvm.MethodName) jdk_35_method_24_code (3 : Nat) (Option.some (Jvm.ClassFile.FieldType.object "java/lang/Long")), Jvm.Cond.code ({ cls := "java/lang/Long", name := "<init>", desc := "(J)V" } : Jvm.MethodName) jdk_35_method_26_code (3 : Nat) (Option.none : Option Jvm.ClassFile.FieldType), Jvm.Cond.code ({ cls := "java/lang/Number", name := "<init>", desc := "()V" } : Jvm.MethodName) jdk_18_method_1_code (1 : Nat) (Option.none : Option Jvm.ClassFile.FieldType)]
set_option maxRecDepth 65536 in
theorem codes_eq : words1.filter isCode = codes1 := rfl
theorem w_codes : ∀ c ∈ words1.filter isCode, c.before args0 about1 = true := by
  rw [codes_eq]
  intro c hc
  simp only [codes1, List.mem_cons, List.not_mem_nil, or_false] at hc
  rcases hc with rfl | rfl | rfl | rfl | rfl | rfl | rfl
  · exact w_c0
  · exact w_c1
  · exact w_c2
  · exact w_c3
  · exact w_c4
  · exact w_c5
  · exact w_c6
set_option maxRecDepth 65536 in
theorem w_t1 : (words1.take 24).all (fun c => isCode c || c.before args0 about1) = true := by decide +kernel
set_option maxRecDepth 65536 in
theorem w_t2 : ((words1.drop 24).take 24).all (fun c => isCode c || c.before args0 about1) = true := by decide +kernel
set_option maxRecDepth 65536 in
theorem w_t3 : ((words1.drop 24).drop 24).all (fun c => isCode c || c.before args0 about1) = true := by decide +kernel
theorem w_tables : (allAtoms (Jvm.Cond.code x code maxLocals ret :: tables_1)).before args0 about1 = true := by
  rw [allAtoms_all]
  show words1.all (fun c => c.before args0 about1) = true
  refine all_split ?_ w_codes
  rw [← List.take_append_drop 24 words1, List.all_append, w_t1, ← List.take_append_drop 24 (words1.drop 24), List.all_append, w_t2, w_t3]
  rfl
set_option maxRecDepth 65536 in
theorem w_rest : rest_1_c.before args0 about1 = true := by decide +kernel
set_option maxRecDepth 65536 in
theorem w_case : (Jvm.Cond.and given_1 narrow_1).before args0 about1 = true := by decide +kernel
theorem w_applies : (headSpec (Jvm.Cond.code x code maxLocals ret :: tables_1) room_1).applies x e0.platform about1 = true :=
  (Spec.applies_iff w_frames).mpr ⟨w_running, w_runnable, w_alone, w_named, w_hears, w_ripe, w_room, w_tables⟩
theorem atStart : AtStart classFile x code maxLocals ret World_1 tables_1 room_1 Calls_1 rest_1 Pre_1 launch0 p0 e0 about1 theMethod args0 below0 :=
  ⟨lists_1, trivial, launch0.admits_env _ _ _, launch0.least_env, fairChoices_fair.cas, fairChoices_fair.clock, w_frames, w_args, w_heap, w_applies, trivial, w_rest, w_case⟩
end start1
theorem witness_1 : WitnessClaimed_1 := ⟨start1.p0, start1.e0, start1.about1, start1.theMethod, start1.args0, start1.below0, start1.atStart⟩
end Jvm.Pilot.@@N@@
