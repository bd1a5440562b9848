import JvmDerived
import JvmDerived.Pilot.@@N@@Statement
import JvmDerived.Pilot.@@N@@Code
set_option linter.unusedVariables false
set_option linter.unusedSimpArgs false

namespace Jvm.OwnKit
open Sem ClassFile Op Lib Jvm.Stand Jvm.Free Jvm.LawKit Jvm.RoadKit
section Kit
variable {p : Program} {l : Launch} {e : Env} {R : Room} {s : State} {m : MethodId} {args : Array Value} {below : List Frame} {meth : Method} {c : Code} {T : State} {locs : List Loc} {cells slots : Nat} {Z : State} {a0 : Array Value} {h : Heap} {own nm : String} {bytes : ByteArray} {maxL : Nat} {ret : Option FieldType} {P : Outcome → State → Prop} {pc pc' : Nat} {Ls Ls' : Array Slot} {rest : List Value}
/-- from here the run ends, and P holds of its end -/
def Go (p : Program) (e : Env) (below : List Frame) (P : Outcome → State → Prop) (T0 : State) : Prop := ∃ t o, Steps p.tables e below T0 t ∧ t.status = .running ∧ Ended t below o ∧ P o t
theorem Go.on {T1 T2 : State} (st : ∀ t, Steps p.tables e below T2 t → Steps p.tables e below T1 t) (k : Go p e below P T2) : Go p e below P T1 := by
  obtain ⟨t, o, h1, h2⟩ := k; exact ⟨t, o, st t h1, h2⟩
/-- what a walk knows of the method that it walks -/
def Ctx (p : Program) (s : State) (m : MethodId) (meth : Method) (c : Code) (Z : State) (own nm : String) (bytes : ByteArray) (maxL : Nat) (ret : Option FieldType) : Prop :=
  p.tables.exec = Jvm.exec ∧ c.code = bytes ∧ c.maxLocals = maxL ∧ s.vm.findClass own = some m.cls ∧ meth.name = nm ∧ meth.sig.returnType = ret ∧ meth.locks = false ∧ Z.Warmed39 s.vm
/-- what a body's end says -/
def OEnds (s : State) (Q : Option Value → Heap → List Loc → Prop) (k n : Nat) (o : Outcome) (t : State) : Prop := ∃ v L, o = .returned v ∧ Q v t.heap L ∧ FrameEnd s o t L k n
/-- a contract: called with the arguments 'as' at the heap h0 it returns as Q says -/
abbrev OMeets (l : Launch) (Z : State) (y : MethodName) (bytes : ByteArray) (maxL : Nat) (ret : Option FieldType) (ws : List Jvm.Cond) (rm : Room) (as : Array Value) (h0 : Heap) (Q : Option Value → Heap → List Loc → Prop) : Prop :=
  MetFree l y (head1 (Jvm.Cond.code y bytes maxL ret :: ws) rm) (fun a U => a = as ∧ Z.Warmed39 U.vm ∧ U.heap = h0) (fun _ _ _ _ _ => True) (fun _ U o U' => ∃ v L, o = .returned v ∧ Q v U'.heap L ∧ FrameEnd U o U' L rm.cells rm.slots)
/-- it returns r, writes nothing and makes nothing -/
def PureQ (r : Option Value) (h0 : Heap) (v : Option Value) (h : Heap) (L : List Loc) : Prop := v = r ∧ L = [] ∧ h = h0
theorem OMeets.of {y : MethodName} {ws : List Jvm.Cond} {rm : Room} {as : Array Value} {h0 : Heap} {Q : Option Value → Heap → List Loc → Prop} (hpn : plainName y.cls = true) (ls : Array Slot) (hent : ∀ m, entryFrame m as maxL = mkF m 0 ls [])
    (body : ∀ p e s m below meth c s₁, Ctx p s m meth c Z y.cls y.name bytes maxL ret → Stand p l e rm s m as below meth c s₁ [] 0 0 → s₁.heap = h0 → Go p e below (OEnds s Q rm.cells rm.slots) (s₁.setTop (mkF m 0 ls []))) : OMeets l Z y bytes maxL ret ws rm as h0 Q := by
  refine MetFree.of_bodySF (plainFor_of_name hpn) hisR ?_
  intro p e s m args below meth c s₁ Bd hml0 hP hK
  obtain ⟨rfl, hZ, hh⟩ := hP
  have e0 : s₁.heap = h0 := by rw [← hh, Bd.state]; rfl
  have X0 := Stand.of_body Bd
  have B : Ctx p s m meth c Z y.cls y.name bytes maxL ret := ⟨Bd.exec, Bd.bytes, hml0, findClass_of_methodNamed Bd.named, (name_of_methodNamed Bd.named Bd.method).1, Bd.returns, Bd.notSynchronized, hZ⟩
  obtain ⟨t, o, h1, h2, h3, h4⟩ := body p e s m below meth c s₁ B X0 e0
  exact ⟨t, o, castTop (hent m) h1, h2, h3, h4⟩
/-! the single steps -/

theorem s_iloadN (B : Ctx p s m meth c Z own nm bytes maxL ret) (X : Stand p l e R s m args below meth c T locs cells slots) {k0 : Fin 4} {v : Int32} (hd : decode bytes pc = .ok (.iload_n k0, 1)) (hl : Ls[k0.val]? = some (.val (.int v))) (hp : pc + 1 = pc') (k : Go p e below P (T.setTop (mkF m pc' Ls (.int v :: rest)))) : Go p e below P (T.setTop (mkF m pc Ls (rest))) := by
  subst hp; exact Go.on (fun t => XS.iloadN X.here B.1 rfl (hb B.2.1 hd) hl) k
theorem s_iload (B : Ctx p s m meth c Z own nm bytes maxL ret) (X : Stand p l e R s m args below meth c T locs cells slots) {k0 : Nat} {v : Int32} (hd : decode bytes pc = .ok (.iload k0, 2)) (hl : Ls[k0]? = some (.val (.int v))) (hp : pc + 2 = pc') (k : Go p e below P (T.setTop (mkF m pc' Ls (.int v :: rest)))) : Go p e below P (T.setTop (mkF m pc Ls (rest))) := by
  subst hp; exact Go.on (fun t => XS.iload X.here B.1 rfl (hb B.2.1 hd) hl) k
theorem s_istoreN (B : Ctx p s m meth c Z own nm bytes maxL ret) (X : Stand p l e R s m args below meth c T locs cells slots) {k0 : Fin 4} {v : Int32} (hd : decode bytes pc = .ok (.istore_n k0, 1)) (hl : storeLocals Ls k0.val (.int v) = some Ls') (hp : pc + 1 = pc') (k : Go p e below P (T.setTop (mkF m pc' Ls' (rest)))) : Go p e below P (T.setTop (mkF m pc Ls (.int v :: rest))) := by
  subst hp; exact Go.on (fun t => XS.istoreN X.here B.1 rfl (hb B.2.1 hd) rfl hl) k
theorem s_istore (B : Ctx p s m meth c Z own nm bytes maxL ret) (X : Stand p l e R s m args below meth c T locs cells slots) {k0 : Nat} {v : Int32} (hd : decode bytes pc = .ok (.istore k0, 2)) (hl : storeLocals Ls k0 (.int v) = some Ls') (hp : pc + 2 = pc') (k : Go p e below P (T.setTop (mkF m pc' Ls' (rest)))) : Go p e below P (T.setTop (mkF m pc Ls (.int v :: rest))) := by
  subst hp; exact Go.on (fun t => XS.istore X.here B.1 rfl (hb B.2.1 hd) rfl hl) k
theorem s_lloadN (B : Ctx p s m meth c Z own nm bytes maxL ret) (X : Stand p l e R s m args below meth c T locs cells slots) {k0 : Fin 4} {v : Int64} (hd : decode bytes pc = .ok (.lload_n k0, 1)) (hl : Ls[k0.val]? = some (.val (.long v))) (hp : pc + 1 = pc') (k : Go p e below P (T.setTop (mkF m pc' Ls (.long v :: rest)))) : Go p e below P (T.setTop (mkF m pc Ls (rest))) := by
  subst hp; exact Go.on (fun t => XS.lloadN X.here B.1 rfl (hb B.2.1 hd) hl) k
theorem s_lload (B : Ctx p s m meth c Z own nm bytes maxL ret) (X : Stand p l e R s m args below meth c T locs cells slots) {k0 : Nat} {v : Int64} (hd : decode bytes pc = .ok (.lload k0, 2)) (hl : Ls[k0]? = some (.val (.long v))) (hp : pc + 2 = pc') (k : Go p e below P (T.setTop (mkF m pc' Ls (.long v :: rest)))) : Go p e below P (T.setTop (mkF m pc Ls (rest))) := by
  subst hp; exact Go.on (fun t => XS.lload X.here B.1 rfl (hb B.2.1 hd) hl) k
theorem s_lstoreN (B : Ctx p s m meth c Z own nm bytes maxL ret) (X : Stand p l e R s m args below meth c T locs cells slots) {k0 : Fin 4} {v : Int64} (hd : decode bytes pc = .ok (.lstore_n k0, 1)) (hl : storeLocals Ls k0.val (.long v) = some Ls') (hp : pc + 1 = pc') (k : Go p e below P (T.setTop (mkF m pc' Ls' (rest)))) : Go p e below P (T.setTop (mkF m pc Ls (.long v :: rest))) := by
  subst hp; exact Go.on (fun t => XS.lstoreN X.here B.1 rfl (hb B.2.1 hd) rfl hl) k
theorem s_lstore (B : Ctx p s m meth c Z own nm bytes maxL ret) (X : Stand p l e R s m args below meth c T locs cells slots) {k0 : Nat} {v : Int64} (hd : decode bytes pc = .ok (.lstore k0, 2)) (hl : storeLocals Ls k0 (.long v) = some Ls') (hp : pc + 2 = pc') (k : Go p e below P (T.setTop (mkF m pc' Ls' (rest)))) : Go p e below P (T.setTop (mkF m pc Ls (.long v :: rest))) := by
  subst hp; exact Go.on (fun t => XS.lstore X.here B.1 rfl (hb B.2.1 hd) rfl hl) k
theorem s_aloadN (B : Ctx p s m meth c Z own nm bytes maxL ret) (X : Stand p l e R s m args below meth c T locs cells slots) {k0 : Fin 4} {v : Value} (hd : decode bytes pc = .ok (.aload_n k0, 1)) (hl : Ls[k0.val]? = some (.val v)) (hv : v.isRef = true) (hp : pc + 1 = pc') (k : Go p e below P (T.setTop (mkF m pc' Ls (v :: rest)))) : Go p e below P (T.setTop (mkF m pc Ls (rest))) := by
  subst hp; exact Go.on (fun t => XS.aloadN X.here B.1 rfl (hb B.2.1 hd) hl hv) k
theorem s_aload (B : Ctx p s m meth c Z own nm bytes maxL ret) (X : Stand p l e R s m args below meth c T locs cells slots) {k0 : Nat} {v : Value} (hd : decode bytes pc = .ok (.aload k0, 2)) (hl : Ls[k0]? = some (.val v)) (hv : v.isRef = true) (hp : pc + 2 = pc') (k : Go p e below P (T.setTop (mkF m pc' Ls (v :: rest)))) : Go p e below P (T.setTop (mkF m pc Ls (rest))) := by
  subst hp; exact Go.on (fun t => XS.aload X.here B.1 rfl (hb B.2.1 hd) hl hv) k
theorem s_astoreN (B : Ctx p s m meth c Z own nm bytes maxL ret) (X : Stand p l e R s m args below meth c T locs cells slots) {k0 : Fin 4} {v : Value} (hd : decode bytes pc = .ok (.astore_n k0, 1)) (hv : v.isRef = true) (hl : storeLocals Ls k0.val v = some Ls') (hp : pc + 1 = pc') (k : Go p e below P (T.setTop (mkF m pc' Ls' (rest)))) : Go p e below P (T.setTop (mkF m pc Ls (v :: rest))) := by
  subst hp; exact Go.on (fun t => XS.astoreN X.here B.1 rfl (hb B.2.1 hd) rfl hv hl) k
theorem s_astore (B : Ctx p s m meth c Z own nm bytes maxL ret) (X : Stand p l e R s m args below meth c T locs cells slots) {k0 : Nat} {v : Value} (hd : decode bytes pc = .ok (.astore k0, 2)) (hv : v.isRef = true) (hl : storeLocals Ls k0 v = some Ls') (hp : pc + 2 = pc') (k : Go p e below P (T.setTop (mkF m pc' Ls' (rest)))) : Go p e below P (T.setTop (mkF m pc Ls (v :: rest))) := by
  subst hp; exact Go.on (fun t => XS.astore X.here B.1 rfl (hb B.2.1 hd) rfl hv hl) k
theorem s_iconst (B : Ctx p s m meth c Z own nm bytes maxL ret) (X : Stand p l e R s m args below meth c T locs cells slots) {i : Int} {v : Int32} (hd : decode bytes pc = .ok (.iconst i, 1)) (hv : Int32.ofInt i = v) (hp : pc + 1 = pc') (k : Go p e below P (T.setTop (mkF m pc' Ls (.int v :: rest)))) : Go p e below P (T.setTop (mkF m pc Ls (rest))) := by
  subst hp; subst hv; exact Go.on (fun t => XS.iconst X.here B.1 rfl (hb B.2.1 hd)) k
theorem s_bipush (B : Ctx p s m meth c Z own nm bytes maxL ret) (X : Stand p l e R s m args below meth c T locs cells slots) {i : Int} {v : Int32} (hd : decode bytes pc = .ok (.bipush i, 2)) (hv : (Int8.ofInt i).toInt32 = v) (hp : pc + 2 = pc') (k : Go p e below P (T.setTop (mkF m pc' Ls (.int v :: rest)))) : Go p e below P (T.setTop (mkF m pc Ls (rest))) := by
  subst hp; subst hv; exact Go.on (fun t => XS.bipush X.here B.1 rfl (hb B.2.1 hd)) k
theorem s_sipush (B : Ctx p s m meth c Z own nm bytes maxL ret) (X : Stand p l e R s m args below meth c T locs cells slots) {i : Int} {v : Int32} (hd : decode bytes pc = .ok (.sipush i, 3)) (hv : (Int16.ofInt i).toInt32 = v) (hp : pc + 3 = pc') (k : Go p e below P (T.setTop (mkF m pc' Ls (.int v :: rest)))) : Go p e below P (T.setTop (mkF m pc Ls (rest))) := by
  subst hp; subst hv; exact Go.on (fun t => XS.sipush X.here B.1 rfl (hb B.2.1 hd)) k
theorem s_lconst (B : Ctx p s m meth c Z own nm bytes maxL ret) (X : Stand p l e R s m args below meth c T locs cells slots) {i : Fin 2} {v : Int64} (hd : decode bytes pc = .ok (.lconst i, 1)) (hv : Int64.ofNat i = v) (hp : pc + 1 = pc') (k : Go p e below P (T.setTop (mkF m pc' Ls (.long v :: rest)))) : Go p e below P (T.setTop (mkF m pc Ls (rest))) := by
  subst hp; subst hv; exact Go.on (fun t => XS.lconst X.here B.1 rfl (hb B.2.1 hd)) k
theorem s_aconst_null (B : Ctx p s m meth c Z own nm bytes maxL ret) (X : Stand p l e R s m args below meth c T locs cells slots)  (hd : decode bytes pc = .ok (.aconst_null, 1))  (hp : pc + 1 = pc') (k : Go p e below P (T.setTop (mkF m pc' Ls (.null :: rest)))) : Go p e below P (T.setTop (mkF m pc Ls (rest))) := by
  subst hp; exact Go.on (fun t => XS.aconstNull X.here B.1 rfl (hb B.2.1 hd)) k
theorem s_iadd (B : Ctx p s m meth c Z own nm bytes maxL ret) (X : Stand p l e R s m args below meth c T locs cells slots) {x : Int32} {y : Int32} {v : Int32} (hd : decode bytes pc = .ok (.iadd, 1)) (hv : x + y = v)  (hp : pc + 1 = pc') (k : Go p e below P (T.setTop (mkF m pc' Ls (.int v :: rest)))) : Go p e below P (T.setTop (mkF m pc Ls (.int y :: .int x :: rest))) := by
  subst hp; subst hv; exact Go.on (fun t => XS.iadd X.here B.1 rfl (hb B.2.1 hd) rfl ) k
theorem s_isub (B : Ctx p s m meth c Z own nm bytes maxL ret) (X : Stand p l e R s m args below meth c T locs cells slots) {x : Int32} {y : Int32} {v : Int32} (hd : decode bytes pc = .ok (.isub, 1)) (hv : x - y = v)  (hp : pc + 1 = pc') (k : Go p e below P (T.setTop (mkF m pc' Ls (.int v :: rest)))) : Go p e below P (T.setTop (mkF m pc Ls (.int y :: .int x :: rest))) := by
  subst hp; subst hv; exact Go.on (fun t => XS.isub X.here B.1 rfl (hb B.2.1 hd) rfl ) k
theorem s_imul (B : Ctx p s m meth c Z own nm bytes maxL ret) (X : Stand p l e R s m args below meth c T locs cells slots) {x : Int32} {y : Int32} {v : Int32} (hd : decode bytes pc = .ok (.imul, 1)) (hv : x * y = v)  (hp : pc + 1 = pc') (k : Go p e below P (T.setTop (mkF m pc' Ls (.int v :: rest)))) : Go p e below P (T.setTop (mkF m pc Ls (.int y :: .int x :: rest))) := by
  subst hp; subst hv; exact Go.on (fun t => XS.imul X.here B.1 rfl (hb B.2.1 hd) rfl ) k
theorem s_iand (B : Ctx p s m meth c Z own nm bytes maxL ret) (X : Stand p l e R s m args below meth c T locs cells slots) {x : Int32} {y : Int32} {v : Int32} (hd : decode bytes pc = .ok (.iand, 1)) (hv : x &&& y = v)  (hp : pc + 1 = pc') (k : Go p e below P (T.setTop (mkF m pc' Ls (.int v :: rest)))) : Go p e below P (T.setTop (mkF m pc Ls (.int y :: .int x :: rest))) := by
  subst hp; subst hv; exact Go.on (fun t => XS.iand X.here B.1 rfl (hb B.2.1 hd) rfl ) k
theorem s_ior (B : Ctx p s m meth c Z own nm bytes maxL ret) (X : Stand p l e R s m args below meth c T locs cells slots) {x : Int32} {y : Int32} {v : Int32} (hd : decode bytes pc = .ok (.ior, 1)) (hv : x ||| y = v)  (hp : pc + 1 = pc') (k : Go p e below P (T.setTop (mkF m pc' Ls (.int v :: rest)))) : Go p e below P (T.setTop (mkF m pc Ls (.int y :: .int x :: rest))) := by
  subst hp; subst hv; exact Go.on (fun t => XS.ior X.here B.1 rfl (hb B.2.1 hd) rfl ) k
theorem s_ixor (B : Ctx p s m meth c Z own nm bytes maxL ret) (X : Stand p l e R s m args below meth c T locs cells slots) {x : Int32} {y : Int32} {v : Int32} (hd : decode bytes pc = .ok (.ixor, 1)) (hv : x ^^^ y = v)  (hp : pc + 1 = pc') (k : Go p e below P (T.setTop (mkF m pc' Ls (.int v :: rest)))) : Go p e below P (T.setTop (mkF m pc Ls (.int y :: .int x :: rest))) := by
  subst hp; subst hv; exact Go.on (fun t => XS.ixor X.here B.1 rfl (hb B.2.1 hd) rfl ) k
theorem s_ladd (B : Ctx p s m meth c Z own nm bytes maxL ret) (X : Stand p l e R s m args below meth c T locs cells slots) {x : Int64} {y : Int64} {v : Int64} (hd : decode bytes pc = .ok (.ladd, 1)) (hv : x + y = v)  (hp : pc + 1 = pc') (k : Go p e below P (T.setTop (mkF m pc' Ls (.long v :: rest)))) : Go p e below P (T.setTop (mkF m pc Ls (.long y :: .long x :: rest))) := by
  subst hp; subst hv; exact Go.on (fun t => XS.ladd X.here B.1 rfl (hb B.2.1 hd) rfl ) k
theorem s_lsub (B : Ctx p s m meth c Z own nm bytes maxL ret) (X : Stand p l e R s m args below meth c T locs cells slots) {x : Int64} {y : Int64} {v : Int64} (hd : decode bytes pc = .ok (.lsub, 1)) (hv : x - y = v)  (hp : pc + 1 = pc') (k : Go p e below P (T.setTop (mkF m pc' Ls (.long v :: rest)))) : Go p e below P (T.setTop (mkF m pc Ls (.long y :: .long x :: rest))) := by
  subst hp; subst hv; exact Go.on (fun t => XS.lsub X.here B.1 rfl (hb B.2.1 hd) rfl ) k
theorem s_lmul (B : Ctx p s m meth c Z own nm bytes maxL ret) (X : Stand p l e R s m args below meth c T locs cells slots) {x : Int64} {y : Int64} {v : Int64} (hd : decode bytes pc = .ok (.lmul, 1)) (hv : x * y = v)  (hp : pc + 1 = pc') (k : Go p e below P (T.setTop (mkF m pc' Ls (.long v :: rest)))) : Go p e below P (T.setTop (mkF m pc Ls (.long y :: .long x :: rest))) := by
  subst hp; subst hv; exact Go.on (fun t => XS.lmul X.here B.1 rfl (hb B.2.1 hd) rfl ) k
theorem s_land (B : Ctx p s m meth c Z own nm bytes maxL ret) (X : Stand p l e R s m args below meth c T locs cells slots) {x : Int64} {y : Int64} {v : Int64} (hd : decode bytes pc = .ok (.land, 1)) (hv : x &&& y = v)  (hp : pc + 1 = pc') (k : Go p e below P (T.setTop (mkF m pc' Ls (.long v :: rest)))) : Go p e below P (T.setTop (mkF m pc Ls (.long y :: .long x :: rest))) := by
  subst hp; subst hv; exact Go.on (fun t => XS.land X.here B.1 rfl (hb B.2.1 hd) rfl ) k
theorem s_lor (B : Ctx p s m meth c Z own nm bytes maxL ret) (X : Stand p l e R s m args below meth c T locs cells slots) {x : Int64} {y : Int64} {v : Int64} (hd : decode bytes pc = .ok (.lor, 1)) (hv : x ||| y = v)  (hp : pc + 1 = pc') (k : Go p e below P (T.setTop (mkF m pc' Ls (.long v :: rest)))) : Go p e below P (T.setTop (mkF m pc Ls (.long y :: .long x :: rest))) := by
  subst hp; subst hv; exact Go.on (fun t => XS.lor X.here B.1 rfl (hb B.2.1 hd) rfl ) k
theorem s_lxor (B : Ctx p s m meth c Z own nm bytes maxL ret) (X : Stand p l e R s m args below meth c T locs cells slots) {x : Int64} {y : Int64} {v : Int64} (hd : decode bytes pc = .ok (.lxor, 1)) (hv : x ^^^ y = v)  (hp : pc + 1 = pc') (k : Go p e below P (T.setTop (mkF m pc' Ls (.long v :: rest)))) : Go p e below P (T.setTop (mkF m pc Ls (.long y :: .long x :: rest))) := by
  subst hp; subst hv; exact Go.on (fun t => XS.lxor X.here B.1 rfl (hb B.2.1 hd) rfl ) k
theorem s_idiv (B : Ctx p s m meth c Z own nm bytes maxL ret) (X : Stand p l e R s m args below meth c T locs cells slots) {x : Int32} {y : Int32} {v : Int32} (hd : decode bytes pc = .ok (.idiv, 1)) (hv : x / y = v) (hy : y ≠ 0) (hp : pc + 1 = pc') (k : Go p e below P (T.setTop (mkF m pc' Ls (.int v :: rest)))) : Go p e below P (T.setTop (mkF m pc Ls (.int y :: .int x :: rest))) := by
  subst hp; subst hv; exact Go.on (fun t => XS.idiv X.here B.1 rfl (hb B.2.1 hd) rfl hy) k
theorem s_ldiv (B : Ctx p s m meth c Z own nm bytes maxL ret) (X : Stand p l e R s m args below meth c T locs cells slots) {x : Int64} {y : Int64} {v : Int64} (hd : decode bytes pc = .ok (.ldiv, 1)) (hv : x / y = v) (hy : y ≠ 0) (hp : pc + 1 = pc') (k : Go p e below P (T.setTop (mkF m pc' Ls (.long v :: rest)))) : Go p e below P (T.setTop (mkF m pc Ls (.long y :: .long x :: rest))) := by
  subst hp; subst hv; exact Go.on (fun t => XS.ldiv X.here B.1 rfl (hb B.2.1 hd) rfl hy) k
theorem s_irem (B : Ctx p s m meth c Z own nm bytes maxL ret) (X : Stand p l e R s m args below meth c T locs cells slots) {x y v : Int32} (hd : decode bytes pc = .ok (.irem, 1)) (hv : x % y = v) (hy : y ≠ 0) (hp : pc + 1 = pc') (k : Go p e below P (T.setTop (mkF m pc' Ls (.int v :: rest)))) : Go p e below P (T.setTop (mkF m pc Ls (.int y :: .int x :: rest))) := by
  subst hp; subst hv; exact Go.on (fun t => iremM X B.1 rfl (hb B.2.1 hd) rfl hy) k
theorem s_ishl (B : Ctx p s m meth c Z own nm bytes maxL ret) (X : Stand p l e R s m args below meth c T locs cells slots) {x : Int32} {y : Int32} {v : Int32} (hd : decode bytes pc = .ok (.ishl, 1)) (hv : x <<< (y &&& 31) = v)  (hp : pc + 1 = pc') (k : Go p e below P (T.setTop (mkF m pc' Ls (.int v :: rest)))) : Go p e below P (T.setTop (mkF m pc Ls (.int y :: .int x :: rest))) := by
  subst hp; subst hv; exact Go.on (fun t => XS.ishl X.here B.1 rfl (hb B.2.1 hd) rfl ) k
theorem s_ishr (B : Ctx p s m meth c Z own nm bytes maxL ret) (X : Stand p l e R s m args below meth c T locs cells slots) {x : Int32} {y : Int32} {v : Int32} (hd : decode bytes pc = .ok (.ishr, 1)) (hv : x >>> (y &&& 31) = v)  (hp : pc + 1 = pc') (k : Go p e below P (T.setTop (mkF m pc' Ls (.int v :: rest)))) : Go p e below P (T.setTop (mkF m pc Ls (.int y :: .int x :: rest))) := by
  subst hp; subst hv; exact Go.on (fun t => XS.ishr X.here B.1 rfl (hb B.2.1 hd) rfl ) k
theorem s_iushr (B : Ctx p s m meth c Z own nm bytes maxL ret) (X : Stand p l e R s m args below meth c T locs cells slots) {x : Int32} {y : Int32} {v : Int32} (hd : decode bytes pc = .ok (.iushr, 1)) (hv : (x.toUInt32 >>> (y &&& 31).toUInt32).toInt32 = v)  (hp : pc + 1 = pc') (k : Go p e below P (T.setTop (mkF m pc' Ls (.int v :: rest)))) : Go p e below P (T.setTop (mkF m pc Ls (.int y :: .int x :: rest))) := by
  subst hp; subst hv; exact Go.on (fun t => XS.iushr X.here B.1 rfl (hb B.2.1 hd) rfl ) k
theorem s_lshl (B : Ctx p s m meth c Z own nm bytes maxL ret) (X : Stand p l e R s m args below meth c T locs cells slots) {x : Int64} {y : Int32} {v : Int64} (hd : decode bytes pc = .ok (.lshl, 1)) (hv : x <<< (y &&& 0x3f).toInt64 = v)  (hp : pc + 1 = pc') (k : Go p e below P (T.setTop (mkF m pc' Ls (.long v :: rest)))) : Go p e below P (T.setTop (mkF m pc Ls (.int y :: .long x :: rest))) := by
  subst hp; subst hv; exact Go.on (fun t => XS.lshl X.here B.1 rfl (hb B.2.1 hd) rfl ) k
theorem s_lshr (B : Ctx p s m meth c Z own nm bytes maxL ret) (X : Stand p l e R s m args below meth c T locs cells slots) {x : Int64} {y : Int32} {v : Int64} (hd : decode bytes pc = .ok (.lshr, 1)) (hv : x >>> (y &&& 0x3f).toInt64 = v)  (hp : pc + 1 = pc') (k : Go p e below P (T.setTop (mkF m pc' Ls (.long v :: rest)))) : Go p e below P (T.setTop (mkF m pc Ls (.int y :: .long x :: rest))) := by
  subst hp; subst hv; exact Go.on (fun t => XS.lshr X.here B.1 rfl (hb B.2.1 hd) rfl ) k
theorem s_lushr (B : Ctx p s m meth c Z own nm bytes maxL ret) (X : Stand p l e R s m args below meth c T locs cells slots) {x : Int64} {y : Int32} {v : Int64} (hd : decode bytes pc = .ok (.lushr, 1)) (hv : (x.toUInt64 >>> (y &&& 0x3f).toInt64.toUInt64).toInt64 = v)  (hp : pc + 1 = pc') (k : Go p e below P (T.setTop (mkF m pc' Ls (.long v :: rest)))) : Go p e below P (T.setTop (mkF m pc Ls (.int y :: .long x :: rest))) := by
  subst hp; subst hv; exact Go.on (fun t => XS.lushr X.here B.1 rfl (hb B.2.1 hd) rfl ) k
theorem s_i2b (B : Ctx p s m meth c Z own nm bytes maxL ret) (X : Stand p l e R s m args below meth c T locs cells slots) {x : Int32} {v : Int32} (hd : decode bytes pc = .ok (.i2b, 1)) (hv : x.toInt8.toInt32 = v) (hp : pc + 1 = pc') (k : Go p e below P (T.setTop (mkF m pc' Ls (.int v :: rest)))) : Go p e below P (T.setTop (mkF m pc Ls (.int x :: rest))) := by
  subst hp; subst hv; exact Go.on (fun t => XS.i2b X.here B.1 rfl (hb B.2.1 hd) rfl) k
theorem s_i2c (B : Ctx p s m meth c Z own nm bytes maxL ret) (X : Stand p l e R s m args below meth c T locs cells slots) {x : Int32} {v : Int32} (hd : decode bytes pc = .ok (.i2c, 1)) (hv : x.toUInt32.toUInt16.toUInt32.toInt32 = v) (hp : pc + 1 = pc') (k : Go p e below P (T.setTop (mkF m pc' Ls (.int v :: rest)))) : Go p e below P (T.setTop (mkF m pc Ls (.int x :: rest))) := by
  subst hp; subst hv; exact Go.on (fun t => XS.i2c X.here B.1 rfl (hb B.2.1 hd) rfl) k
theorem s_i2s (B : Ctx p s m meth c Z own nm bytes maxL ret) (X : Stand p l e R s m args below meth c T locs cells slots) {x : Int32} {v : Int32} (hd : decode bytes pc = .ok (.i2s, 1)) (hv : x.toInt16.toInt32 = v) (hp : pc + 1 = pc') (k : Go p e below P (T.setTop (mkF m pc' Ls (.int v :: rest)))) : Go p e below P (T.setTop (mkF m pc Ls (.int x :: rest))) := by
  subst hp; subst hv; exact Go.on (fun t => XS.i2s X.here B.1 rfl (hb B.2.1 hd) rfl) k
theorem s_i2l (B : Ctx p s m meth c Z own nm bytes maxL ret) (X : Stand p l e R s m args below meth c T locs cells slots) {x : Int32} {v : Int64} (hd : decode bytes pc = .ok (.i2l, 1)) (hv : x.toInt64 = v) (hp : pc + 1 = pc') (k : Go p e below P (T.setTop (mkF m pc' Ls (.long v :: rest)))) : Go p e below P (T.setTop (mkF m pc Ls (.int x :: rest))) := by
  subst hp; subst hv; exact Go.on (fun t => XS.i2l X.here B.1 rfl (hb B.2.1 hd) rfl) k
theorem s_l2i (B : Ctx p s m meth c Z own nm bytes maxL ret) (X : Stand p l e R s m args below meth c T locs cells slots) {x : Int64} {v : Int32} (hd : decode bytes pc = .ok (.l2i, 1)) (hv : x.toInt32 = v) (hp : pc + 1 = pc') (k : Go p e below P (T.setTop (mkF m pc' Ls (.int v :: rest)))) : Go p e below P (T.setTop (mkF m pc Ls (.long x :: rest))) := by
  subst hp; subst hv; exact Go.on (fun t => XS.l2i X.here B.1 rfl (hb B.2.1 hd) rfl) k
theorem s_ineg (B : Ctx p s m meth c Z own nm bytes maxL ret) (X : Stand p l e R s m args below meth c T locs cells slots) {x : Int32} {v : Int32} (hd : decode bytes pc = .ok (.ineg, 1)) (hv : -x = v) (hp : pc + 1 = pc') (k : Go p e below P (T.setTop (mkF m pc' Ls (.int v :: rest)))) : Go p e below P (T.setTop (mkF m pc Ls (.int x :: rest))) := by
  subst hp; subst hv; exact Go.on (fun t => XS.ineg X.here B.1 rfl (hb B.2.1 hd) rfl) k
theorem s_lneg (B : Ctx p s m meth c Z own nm bytes maxL ret) (X : Stand p l e R s m args below meth c T locs cells slots) {x : Int64} {v : Int64} (hd : decode bytes pc = .ok (.lneg, 1)) (hv : -x = v) (hp : pc + 1 = pc') (k : Go p e below P (T.setTop (mkF m pc' Ls (.long v :: rest)))) : Go p e below P (T.setTop (mkF m pc Ls (.long x :: rest))) := by
  subst hp; subst hv; exact Go.on (fun t => XS.lneg X.here B.1 rfl (hb B.2.1 hd) rfl) k
theorem s_lcmp (B : Ctx p s m meth c Z own nm bytes maxL ret) (X : Stand p l e R s m args below meth c T locs cells slots) {x y : Int64} (hd : decode bytes pc = .ok (.lcmp, 1))  (hp : pc + 1 = pc') (k : Go p e below P (T.setTop (mkF m pc' Ls (.int (lcmpW x y) :: rest)))) : Go p e below P (T.setTop (mkF m pc Ls (.long y :: .long x :: rest))) := by
  subst hp; exact Go.on (fun t => XS.lcmp X.here B.1 rfl (hb B.2.1 hd) rfl) k
theorem s_dup (B : Ctx p s m meth c Z own nm bytes maxL ret) (X : Stand p l e R s m args below meth c T locs cells slots) {v : Value} (hd : decode bytes pc = .ok (.dup, 1)) (hc : v.category = 1) (hp : pc + 1 = pc') (k : Go p e below P (T.setTop (mkF m pc' Ls (v :: v :: rest)))) : Go p e below P (T.setTop (mkF m pc Ls (v :: rest))) := by
  subst hp; exact Go.on (fun t => XS.dup X.here B.1 rfl (hb B.2.1 hd) rfl hc) k
theorem s_pop (B : Ctx p s m meth c Z own nm bytes maxL ret) (X : Stand p l e R s m args below meth c T locs cells slots) {v : Value} (hd : decode bytes pc = .ok (.pop, 1)) (hc : v.category = 1) (hp : pc + 1 = pc') (k : Go p e below P (T.setTop (mkF m pc' Ls (rest)))) : Go p e below P (T.setTop (mkF m pc Ls (v :: rest))) := by
  subst hp; exact Go.on (fun t => XS.pop X.here B.1 rfl (hb B.2.1 hd) rfl hc) k
theorem s_swap (B : Ctx p s m meth c Z own nm bytes maxL ret) (X : Stand p l e R s m args below meth c T locs cells slots) {v w : Value} (hd : decode bytes pc = .ok (.swap, 1)) (hc : v.category = 1) (hc2 : w.category = 1) (hp : pc + 1 = pc') (k : Go p e below P (T.setTop (mkF m pc' Ls (w :: v :: rest)))) : Go p e below P (T.setTop (mkF m pc Ls (v :: w :: rest))) := by
  subst hp; exact Go.on (fun t => XS.swap X.here B.1 rfl (hb B.2.1 hd) rfl hc hc2) k
theorem s_dup_x1 (B : Ctx p s m meth c Z own nm bytes maxL ret) (X : Stand p l e R s m args below meth c T locs cells slots) {v w : Value} (hd : decode bytes pc = .ok (.dup_x1, 1)) (hc : v.category = 1) (hc2 : w.category = 1) (hp : pc + 1 = pc') (k : Go p e below P (T.setTop (mkF m pc' Ls (v :: w :: v :: rest)))) : Go p e below P (T.setTop (mkF m pc Ls (v :: w :: rest))) := by
  subst hp; exact Go.on (fun t => XS.dupX1 X.here B.1 rfl (hb B.2.1 hd) rfl hc hc2) k
theorem s_dup2 (B : Ctx p s m meth c Z own nm bytes maxL ret) (X : Stand p l e R s m args below meth c T locs cells slots) {v w : Value} (hd : decode bytes pc = .ok (.dup2, 1)) (hc : v.category = 1) (hc2 : w.category = 1) (hp : pc + 1 = pc') (k : Go p e below P (T.setTop (mkF m pc' Ls (v :: w :: v :: w :: rest)))) : Go p e below P (T.setTop (mkF m pc Ls (v :: w :: rest))) := by
  subst hp; exact Go.on (fun t => XT.dup2 X.here B.1 rfl (hb B.2.1 hd) rfl hc hc2) k
theorem s_iinc (B : Ctx p s m meth c Z own nm bytes maxL ret) (X : Stand p l e R s m args below meth c T locs cells slots) {k0 : Nat} {i : Int} {x v : Int32} (hd : decode bytes pc = .ok (.iinc k0 i, 3)) (hl : Ls[k0]? = some (.val (.int x))) (hv : x + Int32.ofInt i = v) (hl' : storeLocals Ls k0 (.int v) = some Ls') (hp : pc + 3 = pc') (k : Go p e below P (T.setTop (mkF m pc' Ls' (rest)))) : Go p e below P (T.setTop (mkF m pc Ls (rest))) := by
  subst hp; subst hv; exact Go.on (fun t => XS.iinc X.here B.1 rfl (hb B.2.1 hd) hl hl') k
theorem s_goto (B : Ctx p s m meth c Z own nm bytes maxL ret) (X : Stand p l e R s m args below meth c T locs cells slots)  {o : Int} (hd : decode bytes pc = .ok (.goto o, 3))  (ho : 0 ≤ (pc : Int) + o) (hp : ((pc : Int) + o).toNat = pc') (k : Go p e below P (T.setTop (mkF m pc' Ls (rest)))) : Go p e below P (T.setTop (mkF m pc Ls (rest))) := Go.on (fun t => XS.goto X.here B.1 rfl rfl (hb B.2.1 hd) ho hp) k
theorem s_ifY (B : Ctx p s m meth c Z own nm bytes maxL ret) (X : Stand p l e R s m args below meth c T locs cells slots) {cd : ClassFile.Cond} {x : Int32} {o : Int} (hd : decode bytes pc = .ok (.ifCond cd o, 3)) (hc : ifCond.holds cd x = true) (ho : 0 ≤ (pc : Int) + o) (hp : ((pc : Int) + o).toNat = pc') (k : Go p e below P (T.setTop (mkF m pc' Ls (rest)))) : Go p e below P (T.setTop (mkF m pc Ls (.int x :: rest))) := Go.on (fun t => XS.ifYes X.here B.1 rfl rfl (hb B.2.1 hd) rfl hc ho hp) k
theorem s_ifN (B : Ctx p s m meth c Z own nm bytes maxL ret) (X : Stand p l e R s m args below meth c T locs cells slots) {cd : ClassFile.Cond} {x : Int32} {o : Int} (hd : decode bytes pc = .ok (.ifCond cd o, 3)) (hc : ifCond.holds cd x = false) (hp : pc + 3 = pc') (k : Go p e below P (T.setTop (mkF m pc' Ls (rest)))) : Go p e below P (T.setTop (mkF m pc Ls (.int x :: rest))) := by
  subst hp; exact Go.on (fun t => XS.ifNo X.here B.1 rfl (hb B.2.1 hd) rfl hc) k
theorem s_icmpY (B : Ctx p s m meth c Z own nm bytes maxL ret) (X : Stand p l e R s m args below meth c T locs cells slots) {cd : ClassFile.Cond} {x y : Int32} {o : Int} (hd : decode bytes pc = .ok (.if_icmp cd o, 3)) (hc : if_icmp.holds cd x y = true) (ho : 0 ≤ (pc : Int) + o) (hp : ((pc : Int) + o).toNat = pc') (k : Go p e below P (T.setTop (mkF m pc' Ls (rest)))) : Go p e below P (T.setTop (mkF m pc Ls (.int y :: .int x :: rest))) := Go.on (fun t => XS.icmpYes X.here B.1 rfl rfl (hb B.2.1 hd) rfl hc ho hp) k
theorem s_icmpN (B : Ctx p s m meth c Z own nm bytes maxL ret) (X : Stand p l e R s m args below meth c T locs cells slots) {cd : ClassFile.Cond} {x y : Int32} {o : Int} (hd : decode bytes pc = .ok (.if_icmp cd o, 3)) (hc : if_icmp.holds cd x y = false) (hp : pc + 3 = pc') (k : Go p e below P (T.setTop (mkF m pc' Ls (rest)))) : Go p e below P (T.setTop (mkF m pc Ls (.int y :: .int x :: rest))) := by
  subst hp; exact Go.on (fun t => XS.icmpNo X.here B.1 rfl (hb B.2.1 hd) rfl hc) k
theorem s_ifnullY (B : Ctx p s m meth c Z own nm bytes maxL ret) (X : Stand p l e R s m args below meth c T locs cells slots)  {o : Int} (hd : decode bytes pc = .ok (.ifnull o, 3))  (ho : 0 ≤ (pc : Int) + o) (hp : ((pc : Int) + o).toNat = pc') (k : Go p e below P (T.setTop (mkF m pc' Ls (rest)))) : Go p e below P (T.setTop (mkF m pc Ls (.null :: rest))) := Go.on (fun t => XS.ifnullYes X.here B.1 rfl rfl (hb B.2.1 hd) rfl ho hp) k
theorem s_ifnullN (B : Ctx p s m meth c Z own nm bytes maxL ret) (X : Stand p l e R s m args below meth c T locs cells slots) {b : Addr} {o : Int} (hd : decode bytes pc = .ok (.ifnull o, 3))  (hp : pc + 3 = pc') (k : Go p e below P (T.setTop (mkF m pc' Ls (rest)))) : Go p e below P (T.setTop (mkF m pc Ls (.ref b :: rest))) := by
  subst hp; exact Go.on (fun t => XS.ifnullNo X.here B.1 rfl (hb B.2.1 hd) rfl) k
theorem s_ifnonnullY (B : Ctx p s m meth c Z own nm bytes maxL ret) (X : Stand p l e R s m args below meth c T locs cells slots) {b : Addr} {o : Int} (hd : decode bytes pc = .ok (.ifnonnull o, 3))  (ho : 0 ≤ (pc : Int) + o) (hp : ((pc : Int) + o).toNat = pc') (k : Go p e below P (T.setTop (mkF m pc' Ls (rest)))) : Go p e below P (T.setTop (mkF m pc Ls (.ref b :: rest))) := Go.on (fun t => XS.ifnonnullYes X.here B.1 rfl rfl (hb B.2.1 hd) rfl ho hp) k
theorem s_ifnonnullN (B : Ctx p s m meth c Z own nm bytes maxL ret) (X : Stand p l e R s m args below meth c T locs cells slots)  {o : Int} (hd : decode bytes pc = .ok (.ifnonnull o, 3))  (hp : pc + 3 = pc') (k : Go p e below P (T.setTop (mkF m pc' Ls (rest)))) : Go p e below P (T.setTop (mkF m pc Ls (.null :: rest))) := by
  subst hp; exact Go.on (fun t => XS.ifnonnullNo X.here B.1 rfl (hb B.2.1 hd) rfl) k
theorem b_icmp_eq (B : Ctx p s m meth c Z own nm bytes maxL ret) (X : Stand p l e R s m args below meth c T locs cells slots) {x y : Int32} {o : Int} {py pn : Nat} (hd : decode bytes pc = .ok (.if_icmp .eq o, 3)) (ho : 0 ≤ (pc : Int) + o) (hy : ((pc : Int) + o).toNat = py) (hn : pc + 3 = pn) (k1 : x = y → Go p e below P (T.setTop (mkF m py Ls (rest)))) (k2 : ¬ x = y → Go p e below P (T.setTop (mkF m pn Ls (rest)))) : Go p e below P (T.setTop (mkF m pc Ls (.int y :: .int x :: rest))) := by
  by_cases q : x = y
  · exact s_icmpY B X hd (teq q).1 ho hy (k1 q)
  · exact s_icmpN B X hd (feq q).1 hn (k2 q)
theorem b_if_eq (B : Ctx p s m meth c Z own nm bytes maxL ret) (X : Stand p l e R s m args below meth c T locs cells slots) {x : Int32} {o : Int} {py pn : Nat} (hd : decode bytes pc = .ok (.ifCond .eq o, 3)) (ho : 0 ≤ (pc : Int) + o) (hy : ((pc : Int) + o).toNat = py) (hn : pc + 3 = pn) (k1 : x = 0 → Go p e below P (T.setTop (mkF m py Ls (rest)))) (k2 : ¬ x = 0 → Go p e below P (T.setTop (mkF m pn Ls (rest)))) : Go p e below P (T.setTop (mkF m pc Ls (.int x :: rest))) := by
  by_cases q : x = 0
  · exact s_ifY B X hd ((if0 _ _).trans (teq q).1) ho hy (k1 q)
  · exact s_ifN B X hd ((if0 _ _).trans (feq q).1) hn (k2 q)
theorem b_icmp_ne (B : Ctx p s m meth c Z own nm bytes maxL ret) (X : Stand p l e R s m args below meth c T locs cells slots) {x y : Int32} {o : Int} {py pn : Nat} (hd : decode bytes pc = .ok (.if_icmp .ne o, 3)) (ho : 0 ≤ (pc : Int) + o) (hy : ((pc : Int) + o).toNat = py) (hn : pc + 3 = pn) (k1 : ¬ x = y → Go p e below P (T.setTop (mkF m py Ls (rest)))) (k2 : x = y → Go p e below P (T.setTop (mkF m pn Ls (rest)))) : Go p e below P (T.setTop (mkF m pc Ls (.int y :: .int x :: rest))) := by
  by_cases q : x = y
  · exact s_icmpN B X hd (teq q).2 hn (k2 q)
  · exact s_icmpY B X hd (feq q).2 ho hy (k1 q)
theorem b_if_ne (B : Ctx p s m meth c Z own nm bytes maxL ret) (X : Stand p l e R s m args below meth c T locs cells slots) {x : Int32} {o : Int} {py pn : Nat} (hd : decode bytes pc = .ok (.ifCond .ne o, 3)) (ho : 0 ≤ (pc : Int) + o) (hy : ((pc : Int) + o).toNat = py) (hn : pc + 3 = pn) (k1 : ¬ x = 0 → Go p e below P (T.setTop (mkF m py Ls (rest)))) (k2 : x = 0 → Go p e below P (T.setTop (mkF m pn Ls (rest)))) : Go p e below P (T.setTop (mkF m pc Ls (.int x :: rest))) := by
  by_cases q : x = 0
  · exact s_ifN B X hd ((if0 _ _).trans (teq q).2) hn (k2 q)
  · exact s_ifY B X hd ((if0 _ _).trans (feq q).2) ho hy (k1 q)
theorem b_icmp_lt (B : Ctx p s m meth c Z own nm bytes maxL ret) (X : Stand p l e R s m args below meth c T locs cells slots) {x y : Int32} {o : Int} {py pn : Nat} (hd : decode bytes pc = .ok (.if_icmp .lt o, 3)) (ho : 0 ≤ (pc : Int) + o) (hy : ((pc : Int) + o).toNat = py) (hn : pc + 3 = pn) (k1 : x < y → Go p e below P (T.setTop (mkF m py Ls (rest)))) (k2 : ¬ x < y → Go p e below P (T.setTop (mkF m pn Ls (rest)))) : Go p e below P (T.setTop (mkF m pc Ls (.int y :: .int x :: rest))) := by
  by_cases q : x < y
  · exact s_icmpY B X hd (tlt q).1 ho hy (k1 q)
  · exact s_icmpN B X hd (flt q).1 hn (k2 q)
theorem b_if_lt (B : Ctx p s m meth c Z own nm bytes maxL ret) (X : Stand p l e R s m args below meth c T locs cells slots) {x : Int32} {o : Int} {py pn : Nat} (hd : decode bytes pc = .ok (.ifCond .lt o, 3)) (ho : 0 ≤ (pc : Int) + o) (hy : ((pc : Int) + o).toNat = py) (hn : pc + 3 = pn) (k1 : x < 0 → Go p e below P (T.setTop (mkF m py Ls (rest)))) (k2 : ¬ x < 0 → Go p e below P (T.setTop (mkF m pn Ls (rest)))) : Go p e below P (T.setTop (mkF m pc Ls (.int x :: rest))) := by
  by_cases q : x < 0
  · exact s_ifY B X hd ((if0 _ _).trans (tlt q).1) ho hy (k1 q)
  · exact s_ifN B X hd ((if0 _ _).trans (flt q).1) hn (k2 q)
theorem b_icmp_ge (B : Ctx p s m meth c Z own nm bytes maxL ret) (X : Stand p l e R s m args below meth c T locs cells slots) {x y : Int32} {o : Int} {py pn : Nat} (hd : decode bytes pc = .ok (.if_icmp .ge o, 3)) (ho : 0 ≤ (pc : Int) + o) (hy : ((pc : Int) + o).toNat = py) (hn : pc + 3 = pn) (k1 : ¬ x < y → Go p e below P (T.setTop (mkF m py Ls (rest)))) (k2 : x < y → Go p e below P (T.setTop (mkF m pn Ls (rest)))) : Go p e below P (T.setTop (mkF m pc Ls (.int y :: .int x :: rest))) := by
  by_cases q : x < y
  · exact s_icmpN B X hd (tlt q).2.1 hn (k2 q)
  · exact s_icmpY B X hd (flt q).2.1 ho hy (k1 q)
theorem b_if_ge (B : Ctx p s m meth c Z own nm bytes maxL ret) (X : Stand p l e R s m args below meth c T locs cells slots) {x : Int32} {o : Int} {py pn : Nat} (hd : decode bytes pc = .ok (.ifCond .ge o, 3)) (ho : 0 ≤ (pc : Int) + o) (hy : ((pc : Int) + o).toNat = py) (hn : pc + 3 = pn) (k1 : ¬ x < 0 → Go p e below P (T.setTop (mkF m py Ls (rest)))) (k2 : x < 0 → Go p e below P (T.setTop (mkF m pn Ls (rest)))) : Go p e below P (T.setTop (mkF m pc Ls (.int x :: rest))) := by
  by_cases q : x < 0
  · exact s_ifN B X hd ((if0 _ _).trans (tlt q).2.1) hn (k2 q)
  · exact s_ifY B X hd ((if0 _ _).trans (flt q).2.1) ho hy (k1 q)
theorem b_icmp_gt (B : Ctx p s m meth c Z own nm bytes maxL ret) (X : Stand p l e R s m args below meth c T locs cells slots) {x y : Int32} {o : Int} {py pn : Nat} (hd : decode bytes pc = .ok (.if_icmp .gt o, 3)) (ho : 0 ≤ (pc : Int) + o) (hy : ((pc : Int) + o).toNat = py) (hn : pc + 3 = pn) (k1 : y < x → Go p e below P (T.setTop (mkF m py Ls (rest)))) (k2 : ¬ y < x → Go p e below P (T.setTop (mkF m pn Ls (rest)))) : Go p e below P (T.setTop (mkF m pc Ls (.int y :: .int x :: rest))) := by
  by_cases q : y < x
  · exact s_icmpY B X hd (tlt q).2.2.1 ho hy (k1 q)
  · exact s_icmpN B X hd (flt q).2.2.1 hn (k2 q)
theorem b_if_gt (B : Ctx p s m meth c Z own nm bytes maxL ret) (X : Stand p l e R s m args below meth c T locs cells slots) {x : Int32} {o : Int} {py pn : Nat} (hd : decode bytes pc = .ok (.ifCond .gt o, 3)) (ho : 0 ≤ (pc : Int) + o) (hy : ((pc : Int) + o).toNat = py) (hn : pc + 3 = pn) (k1 : 0 < x → Go p e below P (T.setTop (mkF m py Ls (rest)))) (k2 : ¬ 0 < x → Go p e below P (T.setTop (mkF m pn Ls (rest)))) : Go p e below P (T.setTop (mkF m pc Ls (.int x :: rest))) := by
  by_cases q : 0 < x
  · exact s_ifY B X hd ((if0 _ _).trans (tlt q).2.2.1) ho hy (k1 q)
  · exact s_ifN B X hd ((if0 _ _).trans (flt q).2.2.1) hn (k2 q)
theorem b_icmp_le (B : Ctx p s m meth c Z own nm bytes maxL ret) (X : Stand p l e R s m args below meth c T locs cells slots) {x y : Int32} {o : Int} {py pn : Nat} (hd : decode bytes pc = .ok (.if_icmp .le o, 3)) (ho : 0 ≤ (pc : Int) + o) (hy : ((pc : Int) + o).toNat = py) (hn : pc + 3 = pn) (k1 : ¬ y < x → Go p e below P (T.setTop (mkF m py Ls (rest)))) (k2 : y < x → Go p e below P (T.setTop (mkF m pn Ls (rest)))) : Go p e below P (T.setTop (mkF m pc Ls (.int y :: .int x :: rest))) := by
  by_cases q : y < x
  · exact s_icmpN B X hd (tlt q).2.2.2 hn (k2 q)
  · exact s_icmpY B X hd (flt q).2.2.2 ho hy (k1 q)
theorem b_if_le (B : Ctx p s m meth c Z own nm bytes maxL ret) (X : Stand p l e R s m args below meth c T locs cells slots) {x : Int32} {o : Int} {py pn : Nat} (hd : decode bytes pc = .ok (.ifCond .le o, 3)) (ho : 0 ≤ (pc : Int) + o) (hy : ((pc : Int) + o).toNat = py) (hn : pc + 3 = pn) (k1 : ¬ 0 < x → Go p e below P (T.setTop (mkF m py Ls (rest)))) (k2 : 0 < x → Go p e below P (T.setTop (mkF m pn Ls (rest)))) : Go p e below P (T.setTop (mkF m pc Ls (.int x :: rest))) := by
  by_cases q : 0 < x
  · exact s_ifN B X hd ((if0 _ _).trans (tlt q).2.2.2) hn (k2 q)
  · exact s_ifY B X hd ((if0 _ _).trans (flt q).2.2.2) ho hy (k1 q)
theorem b_lcmp_eq (B : Ctx p s m meth c Z own nm bytes maxL ret) (X : Stand p l e R s m args below meth c T locs cells slots) {x y : Int64} {pc0 : Nat} {o : Int} {py pn : Nat} (hd0 : decode bytes pc0 = .ok (.lcmp, 1)) (hp0 : pc0 + 1 = pc) (hd : decode bytes pc = .ok (.ifCond .eq o, 3)) (ho : 0 ≤ (pc : Int) + o) (hy : ((pc : Int) + o).toNat = py) (hn : pc + 3 = pn) (k1 : x = y → Go p e below P (T.setTop (mkF m py Ls (rest)))) (k2 : ¬ x = y → Go p e below P (T.setTop (mkF m pn Ls (rest)))) : Go p e below P (T.setTop (mkF m pc0 Ls (.long y :: .long x :: rest))) := by
  by_cases q : x = y
  · exact s_lcmp B X hd0 hp0 (s_ifY B X hd ((if0 _ _).trans (teq ((lw_eq x y).mpr q)).1) ho hy (k1 q))
  · exact s_lcmp B X hd0 hp0 (s_ifN B X hd ((if0 _ _).trans (feq (fun z => q ((lw_eq x y).mp z))).1) hn (k2 q))
theorem b_lcmp_ne (B : Ctx p s m meth c Z own nm bytes maxL ret) (X : Stand p l e R s m args below meth c T locs cells slots) {x y : Int64} {pc0 : Nat} {o : Int} {py pn : Nat} (hd0 : decode bytes pc0 = .ok (.lcmp, 1)) (hp0 : pc0 + 1 = pc) (hd : decode bytes pc = .ok (.ifCond .ne o, 3)) (ho : 0 ≤ (pc : Int) + o) (hy : ((pc : Int) + o).toNat = py) (hn : pc + 3 = pn) (k1 : ¬ x = y → Go p e below P (T.setTop (mkF m py Ls (rest)))) (k2 : x = y → Go p e below P (T.setTop (mkF m pn Ls (rest)))) : Go p e below P (T.setTop (mkF m pc0 Ls (.long y :: .long x :: rest))) := by
  by_cases q : x = y
  · exact s_lcmp B X hd0 hp0 (s_ifN B X hd ((if0 _ _).trans (teq ((lw_eq x y).mpr q)).2) hn (k2 q))
  · exact s_lcmp B X hd0 hp0 (s_ifY B X hd ((if0 _ _).trans (feq (fun z => q ((lw_eq x y).mp z))).2) ho hy (k1 q))
theorem b_lcmp_lt (B : Ctx p s m meth c Z own nm bytes maxL ret) (X : Stand p l e R s m args below meth c T locs cells slots) {x y : Int64} {pc0 : Nat} {o : Int} {py pn : Nat} (hd0 : decode bytes pc0 = .ok (.lcmp, 1)) (hp0 : pc0 + 1 = pc) (hd : decode bytes pc = .ok (.ifCond .lt o, 3)) (ho : 0 ≤ (pc : Int) + o) (hy : ((pc : Int) + o).toNat = py) (hn : pc + 3 = pn) (k1 : x < y → Go p e below P (T.setTop (mkF m py Ls (rest)))) (k2 : ¬ x < y → Go p e below P (T.setTop (mkF m pn Ls (rest)))) : Go p e below P (T.setTop (mkF m pc0 Ls (.long y :: .long x :: rest))) := by
  by_cases q : x < y
  · exact s_lcmp B X hd0 hp0 (s_ifY B X hd ((if0 _ _).trans (tlt ((lw_lt x y).mpr q)).1) ho hy (k1 q))
  · exact s_lcmp B X hd0 hp0 (s_ifN B X hd ((if0 _ _).trans (flt (fun z => q ((lw_lt x y).mp z))).1) hn (k2 q))
theorem b_lcmp_ge (B : Ctx p s m meth c Z own nm bytes maxL ret) (X : Stand p l e R s m args below meth c T locs cells slots) {x y : Int64} {pc0 : Nat} {o : Int} {py pn : Nat} (hd0 : decode bytes pc0 = .ok (.lcmp, 1)) (hp0 : pc0 + 1 = pc) (hd : decode bytes pc = .ok (.ifCond .ge o, 3)) (ho : 0 ≤ (pc : Int) + o) (hy : ((pc : Int) + o).toNat = py) (hn : pc + 3 = pn) (k1 : ¬ x < y → Go p e below P (T.setTop (mkF m py Ls (rest)))) (k2 : x < y → Go p e below P (T.setTop (mkF m pn Ls (rest)))) : Go p e below P (T.setTop (mkF m pc0 Ls (.long y :: .long x :: rest))) := by
  by_cases q : x < y
  · exact s_lcmp B X hd0 hp0 (s_ifN B X hd ((if0 _ _).trans (tlt ((lw_lt x y).mpr q)).2.1) hn (k2 q))
  · exact s_lcmp B X hd0 hp0 (s_ifY B X hd ((if0 _ _).trans (flt (fun z => q ((lw_lt x y).mp z))).2.1) ho hy (k1 q))
theorem b_lcmp_gt (B : Ctx p s m meth c Z own nm bytes maxL ret) (X : Stand p l e R s m args below meth c T locs cells slots) {x y : Int64} {pc0 : Nat} {o : Int} {py pn : Nat} (hd0 : decode bytes pc0 = .ok (.lcmp, 1)) (hp0 : pc0 + 1 = pc) (hd : decode bytes pc = .ok (.ifCond .gt o, 3)) (ho : 0 ≤ (pc : Int) + o) (hy : ((pc : Int) + o).toNat = py) (hn : pc + 3 = pn) (k1 : y < x → Go p e below P (T.setTop (mkF m py Ls (rest)))) (k2 : ¬ y < x → Go p e below P (T.setTop (mkF m pn Ls (rest)))) : Go p e below P (T.setTop (mkF m pc0 Ls (.long y :: .long x :: rest))) := by
  by_cases q : y < x
  · exact s_lcmp B X hd0 hp0 (s_ifY B X hd ((if0 _ _).trans (tlt ((lw_gt x y).mpr q)).2.2.1) ho hy (k1 q))
  · exact s_lcmp B X hd0 hp0 (s_ifN B X hd ((if0 _ _).trans (flt (fun z => q ((lw_gt x y).mp z))).2.2.1) hn (k2 q))
theorem b_lcmp_le (B : Ctx p s m meth c Z own nm bytes maxL ret) (X : Stand p l e R s m args below meth c T locs cells slots) {x y : Int64} {pc0 : Nat} {o : Int} {py pn : Nat} (hd0 : decode bytes pc0 = .ok (.lcmp, 1)) (hp0 : pc0 + 1 = pc) (hd : decode bytes pc = .ok (.ifCond .le o, 3)) (ho : 0 ≤ (pc : Int) + o) (hy : ((pc : Int) + o).toNat = py) (hn : pc + 3 = pn) (k1 : ¬ y < x → Go p e below P (T.setTop (mkF m py Ls (rest)))) (k2 : y < x → Go p e below P (T.setTop (mkF m pn Ls (rest)))) : Go p e below P (T.setTop (mkF m pc0 Ls (.long y :: .long x :: rest))) := by
  by_cases q : y < x
  · exact s_lcmp B X hd0 hp0 (s_ifN B X hd ((if0 _ _).trans (tlt ((lw_gt x y).mpr q)).2.2.2) hn (k2 q))
  · exact s_lcmp B X hd0 hp0 (s_ifY B X hd ((if0 _ _).trans (flt (fun z => q ((lw_gt x y).mp z))).2.2.2) ho hy (k1 q))
theorem b_acmp_eq (B : Ctx p s m meth c Z own nm bytes maxL ret) (X : Stand p l e R s m args below meth c T locs cells slots) {a b : Addr} {o : Int} {py pn : Nat} (hd : decode bytes pc = .ok (.if_acmp .eq o, 3)) (ho : 0 ≤ (pc : Int) + o) (hy : ((pc : Int) + o).toNat = py) (hn : pc + 3 = pn) (k1 : a = b → Go p e below P (T.setTop (mkF m py Ls (rest)))) (k2 : ¬ a = b → Go p e below P (T.setTop (mkF m pn Ls (rest)))) : Go p e below P (T.setTop (mkF m pc Ls (.ref b :: .ref a :: rest))) := by
  by_cases q : a = b
  · exact Go.on (fun t => Jvm.RoadKit.acmp X B.1 rfl rfl rfl (same := true) rfl (hb B.2.1 hd) rfl (decide_eq_true (congrArg Value.ref q)) ho (by simp [acV, hy])) (k1 q)
  · exact Go.on (fun t => Jvm.RoadKit.acmp X B.1 rfl rfl rfl (same := false) rfl (hb B.2.1 hd) rfl (decide_eq_false fun z => q (Value.ref.inj z)) ho (by simp [acV, hn])) (k2 q)
theorem b_acmp_ne (B : Ctx p s m meth c Z own nm bytes maxL ret) (X : Stand p l e R s m args below meth c T locs cells slots) {a b : Addr} {o : Int} {py pn : Nat} (hd : decode bytes pc = .ok (.if_acmp .ne o, 3)) (ho : 0 ≤ (pc : Int) + o) (hy : ((pc : Int) + o).toNat = py) (hn : pc + 3 = pn) (k1 : ¬ a = b → Go p e below P (T.setTop (mkF m py Ls (rest)))) (k2 : a = b → Go p e below P (T.setTop (mkF m pn Ls (rest)))) : Go p e below P (T.setTop (mkF m pc Ls (.ref b :: .ref a :: rest))) := by
  by_cases q : a = b
  · exact Go.on (fun t => Jvm.RoadKit.acmp X B.1 rfl rfl rfl (same := true) rfl (hb B.2.1 hd) rfl (decide_eq_true (congrArg Value.ref q)) ho (by simp [acV, hn])) (k2 q)
  · exact Go.on (fun t => Jvm.RoadKit.acmp X B.1 rfl rfl rfl (same := false) rfl (hb B.2.1 hd) rfl (decide_eq_false fun z => q (Value.ref.inj z)) ho (by simp [acV, hy])) (k1 q)
theorem b_ifnull (B : Ctx p s m meth c Z own nm bytes maxL ret) (X : Stand p l e R s m args below meth c T locs cells slots) {v : Value} {o : Int} {py pn : Nat} (hv : v.isRef = true) (hd : decode bytes pc = .ok (.ifnull o, 3)) (ho : 0 ≤ (pc : Int) + o) (hy : ((pc : Int) + o).toNat = py) (hn : pc + 3 = pn) (k1 : v = .null → Go p e below P (T.setTop (mkF m py Ls (rest)))) (k2 : ¬ v = .null → Go p e below P (T.setTop (mkF m pn Ls (rest)))) : Go p e below P (T.setTop (mkF m pc Ls (v :: rest))) := by
  rcases ref_cases hv with rfl | ⟨a, rfl⟩
  · exact s_ifnullY B X hd ho hy (k1 rfl)
  · exact s_ifnullN B X hd hn (k2 nofun)
theorem b_ifnonnull (B : Ctx p s m meth c Z own nm bytes maxL ret) (X : Stand p l e R s m args below meth c T locs cells slots) {v : Value} {o : Int} {py pn : Nat} (hv : v.isRef = true) (hd : decode bytes pc = .ok (.ifnonnull o, 3)) (ho : 0 ≤ (pc : Int) + o) (hy : ((pc : Int) + o).toNat = py) (hn : pc + 3 = pn) (k1 : ¬ v = .null → Go p e below P (T.setTop (mkF m py Ls (rest)))) (k2 : v = .null → Go p e below P (T.setTop (mkF m pn Ls (rest)))) : Go p e below P (T.setTop (mkF m pc Ls (v :: rest))) := by
  rcases ref_cases hv with rfl | ⟨a, rfl⟩
  · exact s_ifnonnullN B X hd hn (k2 rfl)
  · exact s_ifnonnullY B X hd ho hy (k1 nofun)
theorem s_ldc (B : Ctx p s m meth c Z own nm bytes maxL ret) (X : Stand p l e R s m args below meth c T locs cells slots) {i : Nat} {v : Int32} (w : (Jvm.Cond.constant own i v).before a0 Z = true) (hd : decode bytes pc = .ok (.ldc i, 2)) (hp : pc + 2 = pc') (k : Go p e below P (T.setTop (mkF m pc' Ls (.int v :: rest)))) : Go p e below P (T.setTop (mkF m pc Ls (rest))) := by
  subst hp; exact Go.on (fun t => X.ldcI B.1 B.2.2.2.1 (mv B.2.2.2.2.2.2.2 w) rfl (hb B.2.1 hd)) k
theorem s_ldc2 (B : Ctx p s m meth c Z own nm bytes maxL ret) (X : Stand p l e R s m args below meth c T locs cells slots) {i : Nat} {v : Int64} (w : (Jvm.Cond.constantLong own i v).before a0 Z = true) (hd : decode bytes pc = .ok (.ldc2_w i, 3)) (hp : pc + 3 = pc') (k : Go p e below P (T.setTop (mkF m pc' Ls (.long v :: rest)))) : Go p e below P (T.setTop (mkF m pc Ls (rest))) := by
  subst hp; exact Go.on (fun t => X.ldc2J B.1 B.2.2.2.1 (mv B.2.2.2.2.2.2.2 w) rfl (hb B.2.1 hd)) k
theorem s_getS (B : Ctx p s m meth c Z own nm bytes maxL ret) (X : Stand p l e R s m args below meth c T locs cells slots) {i : Nat} {R0 O n d : String} {v : Value} (eT : T.heap = h) (w : (Jvm.Cond.fieldLink own i R0 n d).before a0 Z = true) (via : Via Z R0 O n d) (F : Sta Z h O n d v) (hd : decode bytes pc = .ok (.getstatic i, 3)) (hp : pc + 3 = pc') (k : ∀ T', Stand p l e R s m args below meth c T' locs cells slots → T'.heap = h → Go p e below P (T'.setTop (mkF m pc' Ls (v :: rest)))) : Go p e below P (T.setTop (mkF m pc Ls (rest))) := by
  subst hp
  obtain ⟨T', X', e', st⟩ := getS X B.1 B.2.2.2.2.2.2.2 (host := "") B.2.2.2.1 w via eT F (g := mkF m pc Ls rest) rfl (hb B.2.1 hd)
  exact Go.on st (k T' X' e')
theorem s_getF (B : Ctx p s m meth c Z own nm bytes maxL ret) (X : Stand p l e R s m args below meth c T locs cells slots) {i : Nat} {R0 O n d host : String} {a : Addr} {v : Value} (eT : T.heap = h) (w : (Jvm.Cond.fieldLink own i R0 n d).before a0 Z = true ∨ (Jvm.Cond.fieldLinkNest own i R0 n d host).before a0 Z = true) (via : Via Z R0 O n d) (F : Fld Z h a O n d v) (hd : decode bytes pc = .ok (.getfield i, 3)) (hp : pc + 3 = pc') (k : ∀ T', Stand p l e R s m args below meth c T' locs cells slots → T'.heap = h → Go p e below P (T'.setTop (mkF m pc' Ls (v :: rest)))) : Go p e below P (T.setTop (mkF m pc Ls (.ref a :: rest))) := by
  subst hp
  obtain ⟨T', X', e', st⟩ := getF X B.1 B.2.2.2.2.2.2.2 B.2.2.2.1 w via eT F (g := mkF m pc Ls (.ref a :: rest)) rfl rfl (hb B.2.1 hd)
  exact Go.on st (k T' X' e')
theorem r_nar (B : Ctx p s m meth c Z own nm bytes maxL ret) (X : Stand p l e R s m args below meth c T locs cells slots) {Q : Option Value → Heap → List Loc → Prop} {kc kn : Nat} {z : Int32} {t : FieldType} (ht : t = .boolean ∨ t = .byte ∨ t = .char ∨ t = .short) (hr : ret = some t) (hd : decode bytes pc = .ok (.ireturn, 1)) (hq : Q (some (.int (nar t z))) T.heap locs) (hc : cells ≤ kc) (hs : slots ≤ kn) : Go p e below (OEnds s Q kc kn) (T.setTop (mkF m pc Ls (.int z :: rest))) := by
  obtain ⟨fs, hl, hrun, hended, hW, hsame⟩ := X.leave (v := (some (.int (nar t z)))) (fun h => by rw [B.2.2.2.2.2.1, hr] at h; first | rfl | cases h) B.2.2.2.2.2.2.1
  exact ⟨_, _, retN X B.1 (by rw [B.2.2.2.2.2.1, hr]) ht (hb B.2.1 hd) hl, hrun, hended, _, _, rfl, hq, ⟨_, rfl⟩, hW, hsame.mono hc hs⟩
theorem r_int (B : Ctx p s m meth c Z own nm bytes maxL ret) (X : Stand p l e R s m args below meth c T locs cells slots) {Q : Option Value → Heap → List Loc → Prop} {kc kn : Nat} {z : Int32} (hr : ret = some .int) (hd : decode bytes pc = .ok (.ireturn, 1)) (hq : Q (some (.int z)) T.heap locs) (hc : cells ≤ kc) (hs : slots ≤ kn) : Go p e below (OEnds s Q kc kn) (T.setTop (mkF m pc Ls (.int z :: rest))) := by
  obtain ⟨fs, hl, hrun, hended, hW, hsame⟩ := X.leave (v := (some (.int z))) (fun h => by rw [B.2.2.2.2.2.1, hr] at h; first | rfl | cases h) B.2.2.2.2.2.2.1
  exact ⟨_, _, retOut X B.1 (t := .int) (by rw [B.2.2.2.2.2.1, hr]) rfl (Or.inl ⟨rfl, Or.inl rfl, _, rfl⟩) (hb B.2.1 hd) hl, hrun, hended, _, _, rfl, hq, ⟨_, rfl⟩, hW, hsame.mono hc hs⟩
theorem r_long (B : Ctx p s m meth c Z own nm bytes maxL ret) (X : Stand p l e R s m args below meth c T locs cells slots) {Q : Option Value → Heap → List Loc → Prop} {kc kn : Nat} {z : Int64} (hr : ret = some .long) (hd : decode bytes pc = .ok (.lreturn, 1)) (hq : Q (some (.long z)) T.heap locs) (hc : cells ≤ kc) (hs : slots ≤ kn) : Go p e below (OEnds s Q kc kn) (T.setTop (mkF m pc Ls (.long z :: rest))) := by
  obtain ⟨fs, hl, hrun, hended, hW, hsame⟩ := X.leave (v := (some (.long z))) (fun h => by rw [B.2.2.2.2.2.1, hr] at h; first | rfl | cases h) B.2.2.2.2.2.2.1
  exact ⟨_, _, retOut X B.1 (t := .long) (by rw [B.2.2.2.2.2.1, hr]) rfl (Or.inr (Or.inl ⟨rfl, rfl, _, rfl⟩)) (hb B.2.1 hd) hl, hrun, hended, _, _, rfl, hq, ⟨_, rfl⟩, hW, hsame.mono hc hs⟩
theorem r_ref (B : Ctx p s m meth c Z own nm bytes maxL ret) (X : Stand p l e R s m args below meth c T locs cells slots) {Q : Option Value → Heap → List Loc → Prop} {kc kn : Nat} {v : Value} {t : FieldType} (ht : t.isReference = true) (hn : narrow t v = v) (hv : v.isRef = true) (hr : ret = some t) (hd : decode bytes pc = .ok (.areturn, 1)) (hq : Q (some v) T.heap locs) (hc : cells ≤ kc) (hs : slots ≤ kn) : Go p e below (OEnds s Q kc kn) (T.setTop (mkF m pc Ls (v :: rest))) := by
  obtain ⟨fs, hl, hrun, hended, hW, hsame⟩ := X.leave (v := (some v)) (fun h => by rw [B.2.2.2.2.2.1, hr] at h; first | rfl | cases h) B.2.2.2.2.2.2.1
  exact ⟨_, _, retOut X B.1 (t := t) (by rw [B.2.2.2.2.2.1, hr]) hn (Or.inr (Or.inr (Or.inr (Or.inr ⟨rfl, ht, hv⟩)))) (hb B.2.1 hd) hl, hrun, hended, _, _, rfl, hq, ⟨_, rfl⟩, hW, hsame.mono hc hs⟩
theorem r_void (B : Ctx p s m meth c Z own nm bytes maxL ret) (X : Stand p l e R s m args below meth c T locs cells slots) {Q : Option Value → Heap → List Loc → Prop} {kc kn : Nat} (hr : ret = none) (hd : decode bytes pc = .ok (.return_, 1)) (hq : Q none T.heap locs) (hc : cells ≤ kc) (hs : slots ≤ kn) : Go p e below (OEnds s Q kc kn) (T.setTop (mkF m pc Ls [])) := by
  obtain ⟨fs, hl, hrun, hended, hW, hsame⟩ := X.leave (v := none) (fun _ => rfl) B.2.2.2.2.2.2.1
  exact ⟨_, _, X.returnOut B.1 (by rw [B.2.2.2.2.2.1, hr]) (hb B.2.1 hd) hl, hrun, hended, _, _, rfl, hq, ⟨_, rfl⟩, hW, hsame.mono hc hs⟩
theorem c_virtual (B : Ctx p s m meth c Z own nm bytes maxL ret) (X : Stand p l e R s m args below meth c T locs cells slots) {y : MethodName} {bs : ByteArray} {mx : Nat} {rt : Option FieldType} {rm : Room} {i W : Nat} {argsL under : List Value} {Q : Option Value → Heap → List Loc → Prop} {st : List Value} {C : String} {b : Addr} (eT : T.heap = h) (w1 : (Jvm.Cond.methodLink own i y).before a0 Z = true) (w2 : (Jvm.Cond.declares y).before a0 Z = true) (w3 : (Jvm.Cond.selects C y y).before a0 Z = true) (w4 : (Jvm.Cond.instanceMethod y).before a0 Z = true) (wc : (Jvm.Cond.code y bs mx rt).before a0 Z = true) (wz : (Jvm.Cond.initialized y.cls).before a0 Z = true) (hy : y.cls ≠ "java/lang/invoke/MethodHandle" ∧ y.cls ≠ "java/lang/invoke/VarHandle") (hM : OMeets l Z y bs mx rt [] rm (.ref b :: argsL).toArray h Q) (E : Exa Z h b C) (hlen : ∀ sig, parseMethodDescriptor y.desc = some sig → argsL.length = sig.parameters.length) (hst : st = argsL.reverse ++ .ref b :: under) (hW : (under.map fun v => v.category).sum = W) (hf : rm.frames + 1 ≤ R.frames) (hlo : W + (mx + 11) + rm.locals ≤ R.locals) (hce : cells + rm.cells ≤ R.cells) (hsl : slots + rm.slots ≤ R.slots) (hsz : Ls.size = maxL) (hd : decode bytes pc = .ok (.invokevirtual i, 3)) (hp : pc + 3 = pc') (k : ∀ v T' L, Stand p l e R s m args below meth c T' (locs ++ L) (cells + rm.cells) (slots + rm.slots) → Q v T'.heap L → Go p e below P (T'.setTop (mkF m pc' Ls (v.toList ++ under)))) : Go p e below P (T.setTop (mkF m pc Ls st)) := by
  subst hp hst
  obtain ⟨cq, kq, qa, qb, qc⟩ := isOf B.2.2.2.2.2.2.2 eT E
  obtain ⟨v, _, ⟨T', L', k', n'⟩, -, X', ⟨Lc, hQ, l', y', z'⟩, st'⟩ := X.virtualBack B.1 (y := y) B.2.2.2.1 (mvT B.2.2.2.2.2.2.2 w1) (mvT B.2.2.2.2.2.2.2 w2) (notFace_of_selects (args := #[]) (mvT B.2.2.2.2.2.2.2 w3)) (mvT B.2.2.2.2.2.2.2 w3) (mvT B.2.2.2.2.2.2.2 w4) hy (z := y) (backOf (W := W) hM B.2.2.2.2.2.2.2 wc wz hf hlo) qa qc (g := mkF m pc Ls (argsL.reverse ++ .ref b :: under)) rfl (by rw [B.2.2.1]; exact hsz) (Steps.refl _) (argsL := argsL) (rest := under) hlen rfl (by show 2 * 0 + _ ≤ _; rw [Nat.mul_zero, Nat.zero_add]; exact Nat.le_of_eq hW) (hb B.2.1 hd) (fun _ _ => ⟨rfl, eT, hce, hsl⟩)
  dsimp only [Pt.U, Pt.locs, Pt.cells, Pt.slots] at X' l' y' z' st' hQ
  subst l' y' z'
  exact Go.on (fun t q => st'.trans q) (k v T' Lc X' hQ)
theorem c_static (B : Ctx p s m meth c Z own nm bytes maxL ret) (X : Stand p l e R s m args below meth c T locs cells slots) {y : MethodName} {bs : ByteArray} {mx : Nat} {rt : Option FieldType} {rm : Room} {i W : Nat} {argsL under : List Value} {Q : Option Value → Heap → List Loc → Prop} {st : List Value} (eT : T.heap = h) (w1 : (Jvm.Cond.methodLink own i y).before a0 Z = true) (w2 : (Jvm.Cond.static y).before a0 Z = true) (wc : (Jvm.Cond.code y bs mx rt).before a0 Z = true) (wz : (Jvm.Cond.initialized y.cls).before a0 Z = true) (hy : y.cls ≠ "java/lang/invoke/MethodHandle" ∧ y.cls ≠ "java/lang/invoke/VarHandle") (hM : OMeets l Z y bs mx rt [] rm argsL.toArray h Q) (hlen : ∀ sig, parseMethodDescriptor y.desc = some sig → argsL.length = sig.parameters.length) (hst : st = argsL.reverse ++ under) (hW : (under.map fun v => v.category).sum = W) (hf : rm.frames + 1 ≤ R.frames) (hlo : W + (mx + 11) + rm.locals ≤ R.locals) (hce : cells + rm.cells ≤ R.cells) (hsl : slots + rm.slots ≤ R.slots) (hsz : Ls.size = maxL) (hd : decode bytes pc = .ok (.invokestatic i, 3)) (hp : pc + 3 = pc') (k : ∀ v T' L, Stand p l e R s m args below meth c T' (locs ++ L) (cells + rm.cells) (slots + rm.slots) → Q v T'.heap L → Go p e below P (T'.setTop (mkF m pc' Ls (v.toList ++ under)))) : Go p e below P (T.setTop (mkF m pc Ls st)) := by
  subst hp hst
  obtain ⟨v, _, ⟨T', L', k', n'⟩, -, X', ⟨Lc, hQ, l', y', z'⟩, st'⟩ := Jvm.LawKit.callS X B.1 (y := y) B.2.2.2.1 (mvT B.2.2.2.2.2.2.2 w1) (mvT B.2.2.2.2.2.2.2 w2) (mvT B.2.2.2.2.2.2.2 wz) (mvT B.2.2.2.2.2.2.2 wc) hy (backOf (W := W) hM B.2.2.2.2.2.2.2 wc wz hf hlo) (g := mkF m pc Ls (argsL.reverse ++ under)) rfl (by rw [B.2.2.1]; exact hsz) (argsL := argsL) (rest := under) hlen rfl (by show 2 * 0 + _ ≤ _; rw [Nat.mul_zero, Nat.zero_add]; exact Nat.le_of_eq hW) (hb B.2.1 hd) (fun _ _ => ⟨rfl, eT, hce, hsl⟩)
  dsimp only [Pt.U, Pt.locs, Pt.cells, Pt.slots] at X' l' y' z' st' hQ
  subst l' y' z'
  exact Go.on st' (k v T' Lc X' hQ)
theorem c_init (B : Ctx p s m meth c Z own nm bytes maxL ret) (X : Stand p l e R s m args below meth c T locs cells slots) {y : MethodName} {bs : ByteArray} {mx : Nat} {rm : Room} {i W : Nat} {argsL under : List Value} {Q : Option Value → Heap → List Loc → Prop} {st : List Value} {b : Addr} (eT : T.heap = h) (hy1 : y.name = "<init>") (w1 : (Jvm.Cond.methodLink own i y).before a0 Z = true) (w2 : (Jvm.Cond.instanceMethod y).before a0 Z = true) (wc : (Jvm.Cond.code y bs mx none).before a0 Z = true) (wz : (Jvm.Cond.initialized y.cls).before a0 Z = true) (hy : y.cls ≠ "java/lang/invoke/MethodHandle" ∧ y.cls ≠ "java/lang/invoke/VarHandle") (hM : OMeets l Z y bs mx none [] rm (.ref b :: argsL).toArray h Q) (hlen : ∀ sig, parseMethodDescriptor y.desc = some sig → argsL.length = sig.parameters.length) (hst : st = argsL.reverse ++ .ref b :: under) (hW : (under.map fun v => v.category).sum = W) (hf : rm.frames + 1 ≤ R.frames) (hlo : W + (mx + 11) + rm.locals ≤ R.locals) (hce : cells + rm.cells ≤ R.cells) (hsl : slots + rm.slots ≤ R.slots) (hsz : Ls.size = maxL) (hd : decode bytes pc = .ok (.invokespecial i, 3)) (hp : pc + 3 = pc') (k : ∀ v T' L, Stand p l e R s m args below meth c T' (locs ++ L) (cells + rm.cells) (slots + rm.slots) → Q v T'.heap L → Go p e below P (T'.setTop (mkF m pc' Ls (v.toList ++ under)))) : Go p e below P (T.setTop (mkF m pc Ls st)) := by
  subst hp hst
  obtain ⟨v, _, ⟨T', L', k', n'⟩, -, X', ⟨Lc, hQ, l', y', z'⟩, st'⟩ := X.specialBack B.1 (y := y) hy1 B.2.2.2.1 (mvT B.2.2.2.2.2.2.2 w1) (mvT B.2.2.2.2.2.2.2 w2) (mvT B.2.2.2.2.2.2.2 wc) hy (backOf (W := W) hM B.2.2.2.2.2.2.2 wc wz hf hlo) (g := mkF m pc Ls (argsL.reverse ++ .ref b :: under)) rfl (by rw [B.2.2.1]; exact hsz) (Steps.refl _) (a := b) (argsL := argsL) (rest := under) hlen rfl (by show 2 * 0 + _ ≤ _; rw [Nat.mul_zero, Nat.zero_add]; exact Nat.le_of_eq hW) (hb B.2.1 hd) (fun _ _ => ⟨rfl, eT, hce, hsl⟩)
  dsimp only [Pt.U, Pt.locs, Pt.cells, Pt.slots] at X' l' y' z' st' hQ
  subst l' y' z'
  exact Go.on (fun t q => st'.trans q) (k v T' Lc X' hQ)
theorem p_virtual (B : Ctx p s m meth c Z own nm bytes maxL ret) (X : Stand p l e R s m args below meth c T locs cells slots) {y : MethodName} {bs : ByteArray} {mx : Nat} {rt : Option FieldType} {rm : Room} {i W : Nat} {argsL under : List Value} {st : List Value} {C : String} {b : Addr} {r : Option Value} (eT : T.heap = h) (w1 : (Jvm.Cond.methodLink own i y).before a0 Z = true) (w2 : (Jvm.Cond.declares y).before a0 Z = true) (w3 : (Jvm.Cond.selects C y y).before a0 Z = true) (w4 : (Jvm.Cond.instanceMethod y).before a0 Z = true) (wc : (Jvm.Cond.code y bs mx rt).before a0 Z = true) (wz : (Jvm.Cond.initialized y.cls).before a0 Z = true) (hy : y.cls ≠ "java/lang/invoke/MethodHandle" ∧ y.cls ≠ "java/lang/invoke/VarHandle") (hM : OMeets l Z y bs mx rt [] rm (.ref b :: argsL).toArray h (PureQ r h)) (E : Exa Z h b C) (hlen : ∀ sig, parseMethodDescriptor y.desc = some sig → argsL.length = sig.parameters.length) (hst : st = argsL.reverse ++ .ref b :: under) (hW : (under.map fun v => v.category).sum = W) (hf : rm.frames + 1 ≤ R.frames) (hlo : W + (mx + 11) + rm.locals ≤ R.locals) (hce : rm.cells = 0) (hsl : rm.slots = 0) (hc0 : cells ≤ R.cells) (hs0 : slots ≤ R.slots) (hsz : Ls.size = maxL) (hd : decode bytes pc = .ok (.invokevirtual i, 3)) (hp : pc + 3 = pc') (k : ∀ T', Stand p l e R s m args below meth c T' locs cells slots → T'.heap = h → Go p e below P (T'.setTop (mkF m pc' Ls (r.toList ++ under)))) : Go p e below P (T.setTop (mkF m pc Ls st)) := by
  refine c_virtual B X eT w1 w2 w3 w4 wc wz hy hM E hlen hst hW hf hlo (by omega) (by omega) hsz hd hp ?_
  intro v T' L X' hQ
  obtain ⟨rfl, rfl, e'⟩ := hQ
  rw [hce, hsl, List.append_nil] at X'
  exact k T' X' e'
theorem p_static (B : Ctx p s m meth c Z own nm bytes maxL ret) (X : Stand p l e R s m args below meth c T locs cells slots) {y : MethodName} {bs : ByteArray} {mx : Nat} {rt : Option FieldType} {rm : Room} {i W : Nat} {argsL under : List Value} {st : List Value}  {r : Option Value} (eT : T.heap = h) (w1 : (Jvm.Cond.methodLink own i y).before a0 Z = true) (w2 : (Jvm.Cond.static y).before a0 Z = true) (wc : (Jvm.Cond.code y bs mx rt).before a0 Z = true) (wz : (Jvm.Cond.initialized y.cls).before a0 Z = true) (hy : y.cls ≠ "java/lang/invoke/MethodHandle" ∧ y.cls ≠ "java/lang/invoke/VarHandle") (hM : OMeets l Z y bs mx rt [] rm argsL.toArray h (PureQ r h))  (hlen : ∀ sig, parseMethodDescriptor y.desc = some sig → argsL.length = sig.parameters.length) (hst : st = argsL.reverse ++ under) (hW : (under.map fun v => v.category).sum = W) (hf : rm.frames + 1 ≤ R.frames) (hlo : W + (mx + 11) + rm.locals ≤ R.locals) (hce : rm.cells = 0) (hsl : rm.slots = 0) (hc0 : cells ≤ R.cells) (hs0 : slots ≤ R.slots) (hsz : Ls.size = maxL) (hd : decode bytes pc = .ok (.invokestatic i, 3)) (hp : pc + 3 = pc') (k : ∀ T', Stand p l e R s m args below meth c T' locs cells slots → T'.heap = h → Go p e below P (T'.setTop (mkF m pc' Ls (r.toList ++ under)))) : Go p e below P (T.setTop (mkF m pc Ls st)) := by
  refine c_static B X eT w1 w2 wc wz hy hM hlen hst hW hf hlo (by omega) (by omega) hsz hd hp ?_
  intro v T' L X' hQ
  obtain ⟨rfl, rfl, e'⟩ := hQ
  rw [hce, hsl, List.append_nil] at X'
  exact k T' X' e'
theorem p_init (B : Ctx p s m meth c Z own nm bytes maxL ret) (X : Stand p l e R s m args below meth c T locs cells slots) {y : MethodName} {bs : ByteArray} {mx : Nat} {rm : Room} {i W : Nat} {argsL under : List Value} {st : List Value} {b : Addr} (eT : T.heap = h) (hy1 : y.name = "<init>") (w1 : (Jvm.Cond.methodLink own i y).before a0 Z = true) (w2 : (Jvm.Cond.instanceMethod y).before a0 Z = true) (wc : (Jvm.Cond.code y bs mx none).before a0 Z = true) (wz : (Jvm.Cond.initialized y.cls).before a0 Z = true) (hy : y.cls ≠ "java/lang/invoke/MethodHandle" ∧ y.cls ≠ "java/lang/invoke/VarHandle") (hM : OMeets l Z y bs mx none [] rm (.ref b :: argsL).toArray h (PureQ none h)) (hlen : ∀ sig, parseMethodDescriptor y.desc = some sig → argsL.length = sig.parameters.length) (hst : st = argsL.reverse ++ .ref b :: under) (hW : (under.map fun v => v.category).sum = W) (hf : rm.frames + 1 ≤ R.frames) (hlo : W + (mx + 11) + rm.locals ≤ R.locals) (hce : rm.cells = 0) (hsl : rm.slots = 0) (hc0 : cells ≤ R.cells) (hs0 : slots ≤ R.slots) (hsz : Ls.size = maxL) (hd : decode bytes pc = .ok (.invokespecial i, 3)) (hp : pc + 3 = pc') (k : ∀ T', Stand p l e R s m args below meth c T' locs cells slots → T'.heap = h → Go p e below P (T'.setTop (mkF m pc' Ls under))) : Go p e below P (T.setTop (mkF m pc Ls st)) := by
  refine c_init B X eT hy1 w1 w2 wc wz hy hM hlen hst hW hf hlo (by omega) (by omega) hsz hd hp ?_
  intro v T' L X' hQ
  obtain ⟨rfl, rfl, e'⟩ := hQ
  rw [hce, hsl, List.append_nil] at X'
  exact k T' X' e'
theorem c_virtualUp (B : Ctx p s m meth c Z own nm bytes maxL ret) (X : Stand p l e R s m args below meth c T locs cells slots) {y z : MethodName} {bs : ByteArray} {mx : Nat} {rt : Option FieldType} {rm : Room} {i W : Nat} {argsL under : List Value} {Q : Option Value → Heap → List Loc → Prop} {st : List Value} {C owner : String} {b : Addr} (eT : T.heap = h) (w1 : (Jvm.Cond.methodLink own i y).before a0 Z = true) (ws : (Jvm.Cond.sameMethod y.cls owner y.name y.desc).before a0 Z = true) (w2 : (Jvm.Cond.declares ⟨owner, y.name, y.desc⟩).before a0 Z = true) (w3 : (Jvm.Cond.selects C y z).before a0 Z = true) (w4 : (Jvm.Cond.instanceMethod z).before a0 Z = true) (wc : (Jvm.Cond.code z bs mx rt).before a0 Z = true) (wz : (Jvm.Cond.initialized z.cls).before a0 Z = true) (hy : owner ≠ "java/lang/invoke/MethodHandle" ∧ owner ≠ "java/lang/invoke/VarHandle") (hM : OMeets l Z z bs mx rt [] rm (.ref b :: argsL).toArray h Q) (E : Exa Z h b C) (hlen : ∀ sig, parseMethodDescriptor y.desc = some sig → argsL.length = sig.parameters.length) (hst : st = argsL.reverse ++ .ref b :: under) (hW : (under.map fun v => v.category).sum = W) (hf : rm.frames + 1 ≤ R.frames) (hlo : W + (mx + 11) + rm.locals ≤ R.locals) (hce : cells + rm.cells ≤ R.cells) (hsl : slots + rm.slots ≤ R.slots) (hsz : Ls.size = maxL) (hd : decode bytes pc = .ok (.invokevirtual i, 3)) (hp : pc + 3 = pc') (k : ∀ v T' L, Stand p l e R s m args below meth c T' (locs ++ L) (cells + rm.cells) (slots + rm.slots) → Q v T'.heap L → Go p e below P (T'.setTop (mkF m pc' Ls (v.toList ++ under)))) : Go p e below P (T.setTop (mkF m pc Ls st)) := by
  subst hp hst
  obtain ⟨cq, kq, qa, qb, qc⟩ := isOf B.2.2.2.2.2.2.2 eT E
  obtain ⟨v, _, ⟨T', L', k', n'⟩, -, X', ⟨Lc, hQ, l', y', z'⟩, st'⟩ := X.virtualBackUp B.1 (x := y) (y := z) B.2.2.2.1 (mvT B.2.2.2.2.2.2.2 w1) (mvT B.2.2.2.2.2.2.2 ws) (mvT B.2.2.2.2.2.2.2 w2) hy (mvT B.2.2.2.2.2.2.2 w3) (mvT B.2.2.2.2.2.2.2 w4) (backOf (W := W) hM B.2.2.2.2.2.2.2 wc wz hf hlo) qa qc (g := mkF m pc Ls (argsL.reverse ++ .ref b :: under)) rfl (by rw [B.2.2.1]; exact hsz) (Steps.refl _) (argsL := argsL) (rest := under) hlen rfl (by show 2 * 0 + _ ≤ _; rw [Nat.mul_zero, Nat.zero_add]; exact Nat.le_of_eq hW) (hb B.2.1 hd) (fun _ _ => ⟨rfl, eT, hce, hsl⟩)
  dsimp only [Pt.U, Pt.locs, Pt.cells, Pt.slots] at X' l' y' z' st' hQ
  subst l' y' z'
  exact Go.on (fun t q => st'.trans q) (k v T' Lc X' hQ)
theorem p_virtualUp (B : Ctx p s m meth c Z own nm bytes maxL ret) (X : Stand p l e R s m args below meth c T locs cells slots) {y z : MethodName} {bs : ByteArray} {mx : Nat} {rt : Option FieldType} {rm : Room} {i W : Nat} {argsL under : List Value} {st : List Value} {C owner : String} {b : Addr} {r : Option Value} (eT : T.heap = h) (w1 : (Jvm.Cond.methodLink own i y).before a0 Z = true) (ws : (Jvm.Cond.sameMethod y.cls owner y.name y.desc).before a0 Z = true) (w2 : (Jvm.Cond.declares ⟨owner, y.name, y.desc⟩).before a0 Z = true) (w3 : (Jvm.Cond.selects C y z).before a0 Z = true) (w4 : (Jvm.Cond.instanceMethod z).before a0 Z = true) (wc : (Jvm.Cond.code z bs mx rt).before a0 Z = true) (wz : (Jvm.Cond.initialized z.cls).before a0 Z = true) (hy : owner ≠ "java/lang/invoke/MethodHandle" ∧ owner ≠ "java/lang/invoke/VarHandle") (hM : OMeets l Z z bs mx rt [] rm (.ref b :: argsL).toArray h (PureQ r h)) (E : Exa Z h b C) (hlen : ∀ sig, parseMethodDescriptor y.desc = some sig → argsL.length = sig.parameters.length) (hst : st = argsL.reverse ++ .ref b :: under) (hW : (under.map fun v => v.category).sum = W) (hf : rm.frames + 1 ≤ R.frames) (hlo : W + (mx + 11) + rm.locals ≤ R.locals) (hce : rm.cells = 0) (hsl : rm.slots = 0) (hc0 : cells ≤ R.cells) (hs0 : slots ≤ R.slots) (hsz : Ls.size = maxL) (hd : decode bytes pc = .ok (.invokevirtual i, 3)) (hp : pc + 3 = pc') (k : ∀ T', Stand p l e R s m args below meth c T' locs cells slots → T'.heap = h → Go p e below P (T'.setTop (mkF m pc' Ls (r.toList ++ under)))) : Go p e below P (T.setTop (mkF m pc Ls st)) := by
  refine c_virtualUp B X eT w1 ws w2 w3 w4 wc wz hy hM E hlen hst hW hf hlo (by omega) (by omega) hsz hd hp ?_
  intro v T' L X' hQ
  obtain ⟨rfl, rfl, e'⟩ := hQ
  rw [hce, hsl, List.append_nil] at X'
  exact k T' X' e'
end Kit
end Jvm.OwnKit

namespace Jvm.OwnKit
open Sem ClassFile Op Lib Jvm.Stand Jvm.Free Jvm.LawKit Jvm.RoadKit
section Heap
variable {p : Program} {l : Launch} {e : Env} {R : Room} {s : State} {m : MethodId} {args : Array Value} {below : List Frame} {meth : Method} {c : Code} {T : State} {locs : List Loc} {cells slots : Nat} {Z : State} {a0 : Array Value} {h h' : Heap} {own nm : String} {bytes : ByteArray} {maxL : Nat} {ret : Option FieldType} {P : Outcome → State → Prop} {pc pc' : Nat} {Ls Ls' : Array Slot} {rest : List Value} {a b : Addr} {k : ClassId} {ty : FieldType} {n i : Nat} {f g : Nat → Value} {v w : Value} {sl : Nat} {ws : List Addr}
/-- an array at a: n places, place i holds f i -/
def Ary (Z : State) (h : Heap) (a : Addr) (k : ClassId) (ty : FieldType) (n : Nat) (f : Nat → Value) : Prop := ∃ c : Cell, Arr Z h a c ty ∧ c.cls = k ∧ c.slots.size = n ∧ n < 2 ^ 31 ∧ ∀ i, i < n → c.slots[i]? = some (f i)
def upd (f : Nat → Value) (j : Nat) (v : Value) : Nat → Value := fun i => if i = j then v else f i
def lst (L : List Value) (d : Value) : Nat → Value := fun i => L.getD i d
theorem Ary.lt (F : Ary Z h a k ty n f) : a < h.size := by obtain ⟨c, A, -⟩ := F; exact A.lt
theorem Ary.ext (E : Ext h h') (F : Ary Z h a k ty n f) : Ary Z h' a k ty n f := by obtain ⟨c, A, r⟩ := F; exact ⟨c, A.ext E, r⟩
theorem Ary.other (W : Wr h h' b sl v) (F : Ary Z h a k ty n f) (q : a ≠ b) : Ary Z h' a k ty n f := by obtain ⟨c, A, r⟩ := F; exact ⟨c, A.other W q, r⟩
theorem Ary.keep (F : Ary Z h a k ty n f) (K : Keep h h' ws) (q : a ∉ ws) : Ary Z h' a k ty n f := by obtain ⟨c, A, r⟩ := F; exact ⟨c, ⟨K.2.1 a c A.1 q, A.2⟩, r⟩
theorem Ary.congr (F : Ary Z h a k ty n f) (q : ∀ i, i < n → f i = g i) : Ary Z h a k ty n g := by obtain ⟨c, A, r1, r2, r3, r4⟩ := F; exact ⟨c, A, r1, r2, r3, fun i hi => by rw [r4 i hi, q i hi]⟩
theorem upd_lst {L : List Value} {d v : Value} {j : Nat} (hj : j < L.length) {L' : List Value} (e : L.set j v = L') : upd (lst L d) j v = lst L' d := by
  subst e; funext i
  simp only [upd, lst, List.getD_eq_getElem?_getD, List.getElem?_set]
  by_cases q : i = j
  · subst q; simp [hj]
  · simp [q, Ne.symm q]
theorem Ary.same {j : Nat} (W : Wr h h' a j v) (F : Ary Z h a k ty n f) : Ary Z h' a k ty n (upd f j v) := by
  obtain ⟨c, A, r1, r2, r3, r4⟩ := F
  obtain ⟨cell, w1, w2, w3, -⟩ := id W
  cases w1.symm.trans A.1
  refine ⟨_, A.same W, r1, by rw [sz_set]; exact r2, r3, fun i hi => ?_⟩
  by_cases q : i = j
  · subst q; simp [Cell.setSlot, upd, w3]
  · simp only [Cell.setSlot, upd, if_neg q]; rw [Array.getElem?_setIfInBounds_ne (Ne.symm q)]; exact r4 i hi
theorem Ary.of_new {x : Int32} {N : Nat} (A : Arr Z h a (newA k ty x) ty) (hx : ¬ x < 0) (hN : x.toNatClampNeg = N) : Ary Z h a k ty N (fun _ => defaultValue ty) := by
  subst hN
  refine ⟨_, A, rfl, sz_new _ _ _, (back32 hx).2, fun i hi => ?_⟩
  simp [newA, hi]
theorem Ary.of_rep (F : Ary Z h a k ty n (fun _ => v)) {L : List Value} (q : ∀ i, i < n → L.getD i v = v) : Ary Z h a k ty n (lst L v) := F.congr fun i hi => (q i hi).symm

theorem Ary.sto {C : String} {y : Addr} (F : Ary Z h a k ty n f) (O : Ovr Z k C) (I : Ins Z h y C true) : Sto Z h a (.ref y) := by obtain ⟨c, A, r, -⟩ := F; exact Sto.of A (r ▸ O) I
theorem Ary.full {L : List Value} {j : Nat} {L' : List Value} (F : Ary Z h a k ty n (upd (lst L w) j v)) (hj : j < L.length) (e : L.set j v = L') : Ary Z h a k ty n (lst L' w) := by rw [← upd_lst (d := w) hj e]; exact F
theorem Ary.stoA {C : String} {y : Addr} {t0 : FieldType} (F : Ary Z h a k ty n f) (O : OvrA Z k t0 C) (I : Ins Z h y C true) : Sto Z h a (.ref y) := by obtain ⟨c, A, r, -⟩ := F; exact Sto.ofVA A r O I
theorem old_le {n0 : Nat} (O : Old Z n0 h) : n0 ≤ h.size := O.1 ▸ O.2.1
theorem s_new (B : Ctx p s m meth c Z own nm bytes maxL ret) (X : Stand p l e R s m args below meth c T locs cells slots) {C : String} {i0 n0 : Nat} (eT : T.heap = h) (w : (Jvm.Cond.classLink own i0 C).before a0 Z = true) (wi : (Jvm.Cond.instantiable C n0).before a0 Z = true) (wz : (Jvm.Cond.initialized C).before a0 Z = true) (hc : cells + 1 ≤ R.cells) (hl : slots + n0 ≤ R.slots) (hd : decode bytes pc = .ok (.new i0, 3)) (hp : pc + 3 = pc') (k : ∀ T' h' a, a = h.size → Stand p l e R s m args below meth c T' locs (cells + 1) (slots + n0) → T'.heap = h' → Ext h h' → Exa Z h' a C → (∀ {O nm d : String} {ty : FieldType}, Laid Z a0 C O nm d → parseFieldDescriptor d = some ty → Fld Z h' a O nm d (defaultValue ty)) → Go p e below P (T'.setTop (mkF m pc' Ls (.ref a :: rest)))) : Go p e below P (T.setTop (mkF m pc Ls (rest))) := by
  subst hp
  obtain ⟨T', h', X', e', E, A, D, -, st⟩ := newO X B.1 B.2.2.2.2.2.2.2 B.2.2.2.1 w wi wz eT (g := mkF m pc Ls rest) rfl (hb B.2.1 hd) hc hl
  exact Go.on st (k T' h' _ rfl X' e' E A D)
theorem s_initO (B : Ctx p s m meth c Z own nm bytes maxL ret) (X : Stand p l e R s m args below meth c T locs cells slots) {i0 W : Nat} {a : Addr} (eT : T.heap = h) (w1 : (Jvm.Cond.methodLink own i0 Lib.objectInit).before a0 Z = true) (w2 : (Jvm.Cond.instanceMethod Lib.objectInit).before a0 Z = true) (w3 : (Jvm.Cond.code Lib.objectInit ⟨#[0xb1]⟩ 1 none).before a0 Z = true) (hW : (rest.map fun v => v.category).sum = W) (hf : 1 ≤ R.frames) (hl : W + 12 ≤ R.locals) (hsz : Ls.size = maxL) (hd : decode bytes pc = .ok (.invokespecial i0, 3)) (hp : pc + 3 = pc') (k : ∀ T', Stand p l e R s m args below meth c T' locs cells slots → T'.heap = h → Go p e below P (T'.setTop (mkF m pc' Ls (rest)))) : Go p e below P (T.setTop (mkF m pc Ls (.ref a :: rest))) := by
  subst hp
  obtain ⟨T', X', e', st⟩ := initO X B.1 B.2.2.2.2.2.2.2 B.2.2.2.1 w1 w2 w3 eT (g := mkF m pc Ls (.ref a :: rest)) rfl (by rw [B.2.2.1]; exact hsz) rfl (hb B.2.1 hd) hf (W := W) (by show 2 * 0 + _ ≤ _; rw [Nat.mul_zero, Nat.zero_add]; exact Nat.le_of_eq hW) hl
  exact Go.on st (k T' X' e')
theorem s_putF (B : Ctx p s m meth c Z own nm bytes maxL ret) (X : Stand p l e R s m args below meth c T locs cells slots) {i0 kk : Nat} {R0 O n d host C : String} {ty : FieldType} {a : Addr} {v old : Value} (eT : T.heap = h) (w : (Jvm.Cond.fieldLink own i0 R0 n d).before a0 Z = true ∨ (Jvm.Cond.fieldLinkNest own i0 R0 n d host).before a0 Z = true) (via : Via Z R0 O n d) (F : Fld Z h a O n d old) (E : Exa Z h a C) (L : (Jvm.Cond.lays C O n d).before a0 Z = true ∨ ((Jvm.Cond.laysFinal C O n d).before a0 Z = true ∧ own = O ∧ nm = "<init>")) (wi : (Jvm.Cond.instantiable C kk).before a0 Z = true) (hty : parseFieldDescriptor d = some ty) (hn : narrow ty v = v) (hf : fits ty v = true) (hd : decode bytes pc = .ok (.putfield i0, 3)) (hp : pc + 3 = pc') (k : ∀ T' h', Stand p l e R s m args below meth c T' (locs ++ [⟨a, Jvm.RoadKit.slotOf Z O n d⟩]) cells slots → T'.heap = h' → Wr h h' a (Jvm.RoadKit.slotOf Z O n d) v → Go p e below P (T'.setTop (mkF m pc' Ls (rest)))) : Go p e below P (T.setTop (mkF m pc Ls (v :: .ref a :: rest))) := by
  subst hp
  obtain ⟨T', h', X', e', W, st⟩ := putF X B.1 B.2.2.2.2.2.2.2 B.2.2.2.1 w via eT F E (L.imp id fun q => ⟨q.1, q.2.1, by rw [B.2.2.2.2.1]; exact q.2.2⟩) wi hty hn hf (g := mkF m pc Ls (v :: .ref a :: rest)) rfl rfl (hb B.2.1 hd)
  exact Go.on st (k T' h' X' e' W)
theorem s_putFN (B : Ctx p s m meth c Z own nm bytes maxL ret) (X : Stand p l e R s m args below meth c T locs cells slots) {i0 kk : Nat} {R0 O n d C : String} {ty : FieldType} {a : Addr} {v v' old : Value} (eT : T.heap = h) (w : (Jvm.Cond.fieldLink own i0 R0 n d).before a0 Z = true) (via : Via Z R0 O n d) (F : Fld Z h a O n d old) (E : Exa Z h a C) (L : (Jvm.Cond.lays C O n d).before a0 Z = true ∨ ((Jvm.Cond.laysFinal C O n d).before a0 Z = true ∧ own = O ∧ nm = "<init>")) (wi : (Jvm.Cond.instantiable C kk).before a0 Z = true) (hty : parseFieldDescriptor d = some ty) (hn : narrow ty v = v') (hf : fits ty v' = true) (hd : decode bytes pc = .ok (.putfield i0, 3)) (hp : pc + 3 = pc') (k : ∀ T' h', Stand p l e R s m args below meth c T' (locs ++ [⟨a, Jvm.RoadKit.slotOf Z O n d⟩]) cells slots → T'.heap = h' → Wr h h' a (Jvm.RoadKit.slotOf Z O n d) v' → Go p e below P (T'.setTop (mkF m pc' Ls (rest)))) : Go p e below P (T.setTop (mkF m pc Ls (v :: .ref a :: rest))) := by
  subst hp
  obtain ⟨T', h', X', e', W, st⟩ := putFN X B.1 B.2.2.2.2.2.2.2 B.2.2.2.1 w via eT F E (L.imp id fun q => ⟨q.1, q.2.1, by rw [B.2.2.2.2.1]; exact q.2.2⟩) wi hty hn hf (g := mkF m pc Ls (v :: .ref a :: rest)) rfl rfl (hb B.2.1 hd)
  exact Go.on st (k T' h' X' e' W)
theorem s_newP (B : Ctx p s m meth c Z own nm bytes maxL ret) (X : Stand p l e R s m args below meth c T locs cells slots) {aty : ArrayType} {x : Int32} {N : Nat} (eT : T.heap = h) (w : (Jvm.Cond.arrayClass (newarray.typeOf aty)).before a0 Z = true) (hn : ¬ x < 0) (hN : x.toNatClampNeg = N) {cap : Nat} (hcap : N ≤ cap) (hb8 : cap * 8 ≤ 536870912) (hc : cells + 1 ≤ R.cells) (hl : slots + cap ≤ R.slots) (hd : decode bytes pc = .ok (.newarray aty, 2)) (hp : pc + 2 = pc') (k : ∀ T' h' a kA, a = h.size → Stand p l e R s m args below meth c T' locs (cells + 1) (slots + cap) → T'.heap = h' → Ext h h' → Ary Z h' a kA (newarray.typeOf aty) N (fun _ => defaultValue (newarray.typeOf aty)) → Go p e below P (T'.setTop (mkF m pc' Ls (.ref a :: rest)))) : Go p e below P (T.setTop (mkF m pc Ls (.int x :: rest))) := by
  subst hp
  obtain ⟨T', h', cA, X', e', E, A, st⟩ := newP X B.1 B.2.2.2.2.2.2.2 w eT (g := mkF m pc Ls (.int x :: rest)) rfl (hb B.2.1 hd) rfl hn (cap := cap) (hN ▸ hcap) hb8 hc hl
  exact Go.on st (k T' h' _ cA rfl X' e' E (Ary.of_new A hn hN))
theorem s_newR (B : Ctx p s m meth c Z own nm bytes maxL ret) (X : Stand p l e R s m args below meth c T locs cells slots) {i0 : Nat} {C : String} {x : Int32} {N : Nat} (eT : T.heap = h) (w1 : (Jvm.Cond.classLink own i0 C).before a0 Z = true) (w2 : (Jvm.Cond.arrayOver (.object C)).before a0 Z = true) (hn : ¬ x < 0) (hN : x.toNatClampNeg = N) {cap : Nat} (hcap : N ≤ cap) (hb8 : cap * 8 ≤ 536870912) (hc : cells + 1 ≤ R.cells) (hl : slots + cap ≤ R.slots) (hd : decode bytes pc = .ok (.anewarray i0, 3)) (hp : pc + 3 = pc') (k : ∀ T' h' a kA, a = h.size → Stand p l e R s m args below meth c T' locs (cells + 1) (slots + cap) → T'.heap = h' → Ext h h' → Ary Z h' a kA (.object C) N (fun _ => .null) → Ovr Z kA C → Go p e below P (T'.setTop (mkF m pc' Ls (.ref a :: rest)))) : Go p e below P (T.setTop (mkF m pc Ls (.int x :: rest))) := by
  subst hp
  obtain ⟨T', h', cA, X', e', E, A, O, st⟩ := newR X B.1 B.2.2.2.2.2.2.2 B.2.2.2.1 w1 w2 eT (g := mkF m pc Ls (.int x :: rest)) rfl (hb B.2.1 hd) rfl hn (cap := cap) (hN ▸ hcap) hb8 hc hl
  exact Go.on st (k T' h' _ cA rfl X' e' E (Ary.of_new A hn hN) O)
theorem s_newRA (B : Ctx p s m meth c Z own nm bytes maxL ret) (X : Stand p l e R s m args below meth c T locs cells slots) {i0 : Nat} {C : String} {ty : FieldType} {x : Int32} {N : Nat} (eT : T.heap = h) (hC : (FieldType.array ty).toString = C) (w1 : (Jvm.Cond.classLink own i0 C).before a0 Z = true) (w2 : (Jvm.Cond.arrayOver (.array ty)).before a0 Z = true) (hn : ¬ x < 0) (hN : x.toNatClampNeg = N) {cap : Nat} (hcap : N ≤ cap) (hb8 : cap * 8 ≤ 536870912) (hc : cells + 1 ≤ R.cells) (hl : slots + cap ≤ R.slots) (hd : decode bytes pc = .ok (.anewarray i0, 3)) (hp : pc + 3 = pc') (k : ∀ T' h' a kA, a = h.size → Stand p l e R s m args below meth c T' locs (cells + 1) (slots + cap) → T'.heap = h' → Ext h h' → Ary Z h' a kA (.array ty) N (fun _ => .null) → OvrA Z kA ty C → Go p e below P (T'.setTop (mkF m pc' Ls (.ref a :: rest)))) : Go p e below P (T.setTop (mkF m pc Ls (.int x :: rest))) := by
  subst hp
  obtain ⟨T', h', cA, X', e', E, A, -, O, st⟩ := newRA X B.1 B.2.2.2.2.2.2.2 B.2.2.2.1 hC w1 w2 eT (g := mkF m pc Ls (.int x :: rest)) rfl (hb B.2.1 hd) rfl hn (cap := cap) (hN ▸ hcap) hb8 hc hl rfl
  exact Go.on st (k T' h' _ cA rfl X' e' E (Ary.of_new A hn hN) O)
theorem s_stI (B : Ctx p s m meth c Z own nm bytes maxL ret) (X : Stand p l e R s m args below meth c T locs cells slots) {a : Addr} {x : Int32} {j : Int32} {jn N : Nat} {f : Nat → Value} {kA : ClassId} (eT : T.heap = h) (A : Ary Z h a kA .int N f) (hj : ¬ j < 0) (hjn : j.toNatClampNeg = jn) (hlt : jn < N) (hd : decode bytes pc = .ok (.iastore, 1)) (hp : pc + 1 = pc') (k : ∀ T' h', Stand p l e R s m args below meth c T' (locs ++ [⟨a, jn⟩]) cells slots → T'.heap = h' → Wr h h' a jn (.int x) → Ary Z h' a kA .int N (upd f jn (.int x)) → Go p e below P (T'.setTop (mkF m pc' Ls (rest)))) : Go p e below P (T.setTop (mkF m pc Ls (.int x :: .int j :: .ref a :: rest))) := by
  subst hp
  subst hjn
  obtain ⟨cl, A1, q1, q2, q3, q4⟩ := id A
  obtain ⟨T', h', X', e', W, st⟩ := stI X B.1 B.2.2.2.2.2.2.2 eT A1 (j := j) (by rw [q2]; intro z; rcases z with z | z; exact hj z; omega) (g := mkF m pc Ls (.int x :: .int j :: .ref a :: rest)) rfl rfl (hb B.2.1 hd)
  exact Go.on st (k T' h' X' e' W (A.same W))
theorem s_stJ (B : Ctx p s m meth c Z own nm bytes maxL ret) (X : Stand p l e R s m args below meth c T locs cells slots) {a : Addr} {x : Int64} {j : Int32} {jn N : Nat} {f : Nat → Value} {kA : ClassId} (eT : T.heap = h) (A : Ary Z h a kA .long N f) (hj : ¬ j < 0) (hjn : j.toNatClampNeg = jn) (hlt : jn < N) (hd : decode bytes pc = .ok (.lastore, 1)) (hp : pc + 1 = pc') (k : ∀ T' h', Stand p l e R s m args below meth c T' (locs ++ [⟨a, jn⟩]) cells slots → T'.heap = h' → Wr h h' a jn (.long x) → Ary Z h' a kA .long N (upd f jn (.long x)) → Go p e below P (T'.setTop (mkF m pc' Ls (rest)))) : Go p e below P (T.setTop (mkF m pc Ls (.long x :: .int j :: .ref a :: rest))) := by
  subst hp
  subst hjn
  obtain ⟨cl, A1, q1, q2, q3, q4⟩ := id A
  obtain ⟨T', h', X', e', W, st⟩ := stJ X B.1 B.2.2.2.2.2.2.2 eT A1 (j := j) (by rw [q2]; intro z; rcases z with z | z; exact hj z; omega) (g := mkF m pc Ls (.long x :: .int j :: .ref a :: rest)) rfl rfl (hb B.2.1 hd)
  exact Go.on st (k T' h' X' e' W (A.same W))
theorem s_stB (B : Ctx p s m meth c Z own nm bytes maxL ret) (X : Stand p l e R s m args below meth c T locs cells slots) {a : Addr} {x : Int32} {j : Int32} {jn N : Nat} {f : Nat → Value} {kA : ClassId} (eT : T.heap = h) (A : Ary Z h a kA .byte N f) (hj : ¬ j < 0) (hjn : j.toNatClampNeg = jn) (hlt : jn < N) (hd : decode bytes pc = .ok (.bastore, 1)) (hp : pc + 1 = pc') (k : ∀ T' h', Stand p l e R s m args below meth c T' (locs ++ [⟨a, jn⟩]) cells slots → T'.heap = h' → Wr h h' a jn (.int (nar .byte x)) → Ary Z h' a kA .byte N (upd f jn (.int (nar .byte x))) → Go p e below P (T'.setTop (mkF m pc' Ls (rest)))) : Go p e below P (T.setTop (mkF m pc Ls (.int x :: .int j :: .ref a :: rest))) := by
  subst hp
  subst hjn
  obtain ⟨cl, A1, q1, q2, q3, q4⟩ := id A
  obtain ⟨T', h', X', e', W, st⟩ := stB X B.1 B.2.2.2.2.2.2.2 eT A1 (j := j) (by rw [q2]; intro z; rcases z with z | z; exact hj z; omega) (g := mkF m pc Ls (.int x :: .int j :: .ref a :: rest)) rfl rfl (hb B.2.1 hd)
  exact Go.on st (k T' h' X' e' W (A.same W))
theorem s_stZ (B : Ctx p s m meth c Z own nm bytes maxL ret) (X : Stand p l e R s m args below meth c T locs cells slots) {a : Addr} {x : Int32} {j : Int32} {jn N : Nat} {f : Nat → Value} {kA : ClassId} (eT : T.heap = h) (A : Ary Z h a kA .boolean N f) (hj : ¬ j < 0) (hjn : j.toNatClampNeg = jn) (hlt : jn < N) (hd : decode bytes pc = .ok (.bastore, 1)) (hp : pc + 1 = pc') (k : ∀ T' h', Stand p l e R s m args below meth c T' (locs ++ [⟨a, jn⟩]) cells slots → T'.heap = h' → Wr h h' a jn (.int (nar .boolean x)) → Ary Z h' a kA .boolean N (upd f jn (.int (nar .boolean x))) → Go p e below P (T'.setTop (mkF m pc' Ls (rest)))) : Go p e below P (T.setTop (mkF m pc Ls (.int x :: .int j :: .ref a :: rest))) := by
  subst hp
  subst hjn
  obtain ⟨cl, A1, q1, q2, q3, q4⟩ := id A
  obtain ⟨T', h', X', e', W, st⟩ := stZ X B.1 B.2.2.2.2.2.2.2 eT A1 (j := j) (by rw [q2]; intro z; rcases z with z | z; exact hj z; omega) (g := mkF m pc Ls (.int x :: .int j :: .ref a :: rest)) rfl rfl (hb B.2.1 hd)
  exact Go.on st (k T' h' X' e' W (A.same W))
theorem s_stC (B : Ctx p s m meth c Z own nm bytes maxL ret) (X : Stand p l e R s m args below meth c T locs cells slots) {a : Addr} {x : Int32} {j : Int32} {jn N : Nat} {f : Nat → Value} {kA : ClassId} (eT : T.heap = h) (A : Ary Z h a kA .char N f) (hj : ¬ j < 0) (hjn : j.toNatClampNeg = jn) (hlt : jn < N) (hd : decode bytes pc = .ok (.castore, 1)) (hp : pc + 1 = pc') (k : ∀ T' h', Stand p l e R s m args below meth c T' (locs ++ [⟨a, jn⟩]) cells slots → T'.heap = h' → Wr h h' a jn (.int (nar .char x)) → Ary Z h' a kA .char N (upd f jn (.int (nar .char x))) → Go p e below P (T'.setTop (mkF m pc' Ls (rest)))) : Go p e below P (T.setTop (mkF m pc Ls (.int x :: .int j :: .ref a :: rest))) := by
  subst hp
  subst hjn
  obtain ⟨cl, A1, q1, q2, q3, q4⟩ := id A
  obtain ⟨T', h', X', e', W, st⟩ := stC X B.1 B.2.2.2.2.2.2.2 eT A1 (j := j) (by rw [q2]; intro z; rcases z with z | z; exact hj z; omega) (g := mkF m pc Ls (.int x :: .int j :: .ref a :: rest)) rfl rfl (hb B.2.1 hd)
  exact Go.on st (k T' h' X' e' W (A.same W))
theorem s_stR (B : Ctx p s m meth c Z own nm bytes maxL ret) (X : Stand p l e R s m args below meth c T locs cells slots) {a : Addr} {v : Value} {ty : FieldType} {j : Int32} {jn N : Nat} {f : Nat → Value} {kA : ClassId} (eT : T.heap = h) (A : Ary Z h a kA ty N f) (hty : ty.isReference = true) (S : Sto Z h a v) (hj : ¬ j < 0) (hjn : j.toNatClampNeg = jn) (hlt : jn < N) (hd : decode bytes pc = .ok (.aastore, 1)) (hp : pc + 1 = pc') (k : ∀ T' h', Stand p l e R s m args below meth c T' (locs ++ [⟨a, jn⟩]) cells slots → T'.heap = h' → Wr h h' a jn v → Ary Z h' a kA ty N (upd f jn v) → Go p e below P (T'.setTop (mkF m pc' Ls (rest)))) : Go p e below P (T.setTop (mkF m pc Ls (v :: .int j :: .ref a :: rest))) := by
  subst hp
  subst hjn
  obtain ⟨cl, A1, q1, q2, q3, q4⟩ := id A
  obtain ⟨T', h', X', e', W, st⟩ := stR X B.1 B.2.2.2.2.2.2.2 eT A1 (j := j) (by rw [q2]; intro z; rcases z with z | z; exact hj z; omega) hty S (g := mkF m pc Ls (v :: .int j :: .ref a :: rest)) rfl rfl (hb B.2.1 hd)
  exact Go.on st (k T' h' X' e' W (A.same W))
theorem s_ldI (B : Ctx p s m meth c Z own nm bytes maxL ret) (X : Stand p l e R s m args below meth c T locs cells slots) {a : Addr} {v : Value} {j : Int32} {jn N : Nat} {f : Nat → Value} {kA : ClassId} (eT : T.heap = h) (A : Ary Z h a kA .int N f) (hj : ¬ j < 0) (hjn : j.toNatClampNeg = jn) (hlt : jn < N) (hv : f jn = v) (hd : decode bytes pc = .ok (.iaload, 1)) (hp : pc + 1 = pc') (k : Go p e below P (T.setTop (mkF m pc' Ls (v :: rest)))) : Go p e below P (T.setTop (mkF m pc Ls (.int j :: .ref a :: rest))) := by
  subst hp hjn hv
  obtain ⟨cl, A1, q1, q2, q3, q4⟩ := A
  exact Go.on (X.iaload B.1 (j := j) (by rw [eT]; exact A1.1) (State.isArrayOf_alike B.2.2.2.2.2.2.2.alike A1.2.1) A1.2.2 (by rw [q2]; intro z; rcases z with z | z; exact hj z; omega) (q4 _ hlt) (g := mkF m pc Ls (.int j :: .ref a :: rest)) rfl rfl (hb B.2.1 hd)) k
theorem s_ldJ (B : Ctx p s m meth c Z own nm bytes maxL ret) (X : Stand p l e R s m args below meth c T locs cells slots) {a : Addr} {v : Value} {j : Int32} {jn N : Nat} {f : Nat → Value} {kA : ClassId} (eT : T.heap = h) (A : Ary Z h a kA .long N f) (hj : ¬ j < 0) (hjn : j.toNatClampNeg = jn) (hlt : jn < N) (hv : f jn = v) (hd : decode bytes pc = .ok (.laload, 1)) (hp : pc + 1 = pc') (k : Go p e below P (T.setTop (mkF m pc' Ls (v :: rest)))) : Go p e below P (T.setTop (mkF m pc Ls (.int j :: .ref a :: rest))) := by
  subst hp hjn hv
  obtain ⟨cl, A1, q1, q2, q3, q4⟩ := A
  exact Go.on (X.laload B.1 (j := j) (by rw [eT]; exact A1.1) (State.isArrayOf_alike B.2.2.2.2.2.2.2.alike A1.2.1) A1.2.2 (by rw [q2]; intro z; rcases z with z | z; exact hj z; omega) (q4 _ hlt) (g := mkF m pc Ls (.int j :: .ref a :: rest)) rfl rfl (hb B.2.1 hd)) k
theorem s_ldB (B : Ctx p s m meth c Z own nm bytes maxL ret) (X : Stand p l e R s m args below meth c T locs cells slots) {a : Addr} {v : Value} {j : Int32} {jn N : Nat} {f : Nat → Value} {kA : ClassId} (eT : T.heap = h) (A : Ary Z h a kA .byte N f) (hj : ¬ j < 0) (hjn : j.toNatClampNeg = jn) (hlt : jn < N) (hv : f jn = v) (hd : decode bytes pc = .ok (.baload, 1)) (hp : pc + 1 = pc') (k : Go p e below P (T.setTop (mkF m pc' Ls (v :: rest)))) : Go p e below P (T.setTop (mkF m pc Ls (.int j :: .ref a :: rest))) := by
  subst hp hjn hv
  obtain ⟨cl, A1, q1, q2, q3, q4⟩ := A
  exact Go.on (X.baloadBytes B.1 (j := j) (by rw [eT]; exact A1.1) (State.isArrayOf_alike B.2.2.2.2.2.2.2.alike A1.2.1) A1.2.2 (by rw [q2]; intro z; rcases z with z | z; exact hj z; omega) (q4 _ hlt) (g := mkF m pc Ls (.int j :: .ref a :: rest)) rfl rfl (hb B.2.1 hd)) k
theorem s_ldZ (B : Ctx p s m meth c Z own nm bytes maxL ret) (X : Stand p l e R s m args below meth c T locs cells slots) {a : Addr} {v : Value} {j : Int32} {jn N : Nat} {f : Nat → Value} {kA : ClassId} (eT : T.heap = h) (A : Ary Z h a kA .boolean N f) (hj : ¬ j < 0) (hjn : j.toNatClampNeg = jn) (hlt : jn < N) (hv : f jn = v) (hd : decode bytes pc = .ok (.baload, 1)) (hp : pc + 1 = pc') (k : Go p e below P (T.setTop (mkF m pc' Ls (v :: rest)))) : Go p e below P (T.setTop (mkF m pc Ls (.int j :: .ref a :: rest))) := by
  subst hp hjn hv
  obtain ⟨cl, A1, q1, q2, q3, q4⟩ := A
  exact Go.on (X.baloadBooleans B.1 (j := j) (by rw [eT]; exact A1.1) (State.isArrayOf_alike B.2.2.2.2.2.2.2.alike A1.2.1) A1.2.2 (by rw [q2]; intro z; rcases z with z | z; exact hj z; omega) (q4 _ hlt) (g := mkF m pc Ls (.int j :: .ref a :: rest)) rfl rfl (hb B.2.1 hd)) k
theorem s_ldC (B : Ctx p s m meth c Z own nm bytes maxL ret) (X : Stand p l e R s m args below meth c T locs cells slots) {a : Addr} {v : Value} {j : Int32} {jn N : Nat} {f : Nat → Value} {kA : ClassId} (eT : T.heap = h) (A : Ary Z h a kA .char N f) (hj : ¬ j < 0) (hjn : j.toNatClampNeg = jn) (hlt : jn < N) (hv : f jn = v) (hd : decode bytes pc = .ok (.caload, 1)) (hp : pc + 1 = pc') (k : Go p e below P (T.setTop (mkF m pc' Ls (v :: rest)))) : Go p e below P (T.setTop (mkF m pc Ls (.int j :: .ref a :: rest))) := by
  subst hp hjn hv
  obtain ⟨cl, A1, q1, q2, q3, q4⟩ := A
  exact Go.on (X.caload B.1 (j := j) (by rw [eT]; exact A1.1) (State.isArrayOf_alike B.2.2.2.2.2.2.2.alike A1.2.1) A1.2.2 (by rw [q2]; intro z; rcases z with z | z; exact hj z; omega) (q4 _ hlt) (g := mkF m pc Ls (.int j :: .ref a :: rest)) rfl rfl (hb B.2.1 hd)) k
theorem s_ldR (B : Ctx p s m meth c Z own nm bytes maxL ret) (X : Stand p l e R s m args below meth c T locs cells slots) {a : Addr} {v : Value} {ty : FieldType} {j : Int32} {jn N : Nat} {f : Nat → Value} {kA : ClassId} (eT : T.heap = h) (A : Ary Z h a kA ty N f) (hty : ty.isReference = true) (hj : ¬ j < 0) (hjn : j.toNatClampNeg = jn) (hlt : jn < N) (hv : f jn = v) (hd : decode bytes pc = .ok (.aaload, 1)) (hp : pc + 1 = pc') (k : Go p e below P (T.setTop (mkF m pc' Ls (v :: rest)))) : Go p e below P (T.setTop (mkF m pc Ls (.int j :: .ref a :: rest))) := by
  subst hp hjn hv
  obtain ⟨cl, A1, q1, q2, q3, q4⟩ := A
  exact Go.on (X.aaload B.1 (j := j) (by rw [eT]; exact A1.1) (State.isArrayOf_alike B.2.2.2.2.2.2.2.alike A1.2.1) hty A1.2.2 (by rw [q2]; intro z; rcases z with z | z; exact hj z; omega) (q4 _ hlt) (g := mkF m pc Ls (.int j :: .ref a :: rest)) rfl rfl (hb B.2.1 hd)) k
theorem s_len (B : Ctx p s m meth c Z own nm bytes maxL ret) (X : Stand p l e R s m args below meth c T locs cells slots) {a : Addr} {v : Int32} {ty : FieldType} {N : Nat} {f : Nat → Value} {kA : ClassId} (eT : T.heap = h) (A : Ary Z h a kA ty N f) (hv : N.toInt32 = v) (hd : decode bytes pc = .ok (.arraylength, 1)) (hp : pc + 1 = pc') (k : Go p e below P (T.setTop (mkF m pc' Ls (.int v :: rest)))) : Go p e below P (T.setTop (mkF m pc Ls (.ref a :: rest))) := by
  subst hp hv
  obtain ⟨cl, A1, q1, q2, q3, q4⟩ := A
  subst q2
  exact Go.on (X.arraylength B.1 (by rw [eT]; exact A1.1) (State.isArrayOf_alike B.2.2.2.2.2.2.2.alike A1.2.1) (g := mkF m pc Ls (.ref a :: rest)) rfl rfl (hb B.2.1 hd)) k
theorem s_castY (B : Ctx p s m meth c Z own nm bytes maxL ret) (X : Stand p l e R s m args below meth c T locs cells slots) {i0 : Nat} {K : String} {a : Addr} (eT : T.heap = h) (w : (Jvm.Cond.classLink own i0 K).before a0 Z = true) (F : Ins Z h a K true) (hd : decode bytes pc = .ok (.checkcast i0, 3)) (hp : pc + 3 = pc') (k : ∀ T', Stand p l e R s m args below meth c T' locs cells slots → T'.heap = h → Go p e below P (T'.setTop (mkF m pc' Ls (.ref a :: rest)))) : Go p e below P (T.setTop (mkF m pc Ls (.ref a :: rest))) := by
  subst hp
  obtain ⟨T', X', e', st⟩ := castY X B.1 B.2.2.2.2.2.2.2 B.2.2.2.1 w eT F (g := mkF m pc Ls (.ref a :: rest)) rfl rfl (hb B.2.1 hd)
  exact Go.on st (k T' X' e')
theorem s_instY (B : Ctx p s m meth c Z own nm bytes maxL ret) (X : Stand p l e R s m args below meth c T locs cells slots) {i0 : Nat} {K : String} {a : Addr} (eT : T.heap = h) (w : (Jvm.Cond.classLink own i0 K).before a0 Z = true) (F : Ins Z h a K true) (hd : decode bytes pc = .ok (.instanceof i0, 3)) (hp : pc + 3 = pc') (k : ∀ T', Stand p l e R s m args below meth c T' locs cells slots → T'.heap = h → Go p e below P (T'.setTop (mkF m pc' Ls (.int 1 :: rest)))) : Go p e below P (T.setTop (mkF m pc Ls (.ref a :: rest))) := by
  subst hp
  obtain ⟨T', X', e', st⟩ := instY X B.1 B.2.2.2.2.2.2.2 B.2.2.2.1 w eT F (g := mkF m pc Ls (.ref a :: rest)) rfl rfl (hb B.2.1 hd)
  exact Go.on st (k T' X' e')
theorem s_tswIn (B : Ctx p s m meth c Z own nm bytes maxL ret) (X : Stand p l e R s m args below meth c T locs cells slots) {df lo hi : Int} {offs : Array Int} {len : Nat} {o : Int} {x : Int32} (hd : decode bytes pc = .ok (.tableswitch df lo hi offs, len)) (hin : ¬ (x.toInt < lo ∨ x.toInt > hi)) (hoff : offs[(x.toInt - lo).toNat]? = some o) (ho : 0 ≤ (pc : Int) + o) (hp : ((pc : Int) + o).toNat = pc') (k : Go p e below P (T.setTop (mkF m pc' Ls (rest)))) : Go p e below P (T.setTop (mkF m pc Ls (.int x :: rest))) := Go.on (fun t => XS.tswIn (g := mkF m pc Ls (.int x :: rest)) X.here B.1 rfl (pc0 := pc) rfl (hb B.2.1 hd) (i := x) (rest := rest) rfl hin hoff ho hp) k
theorem s_tswOut (B : Ctx p s m meth c Z own nm bytes maxL ret) (X : Stand p l e R s m args below meth c T locs cells slots) {df lo hi : Int} {offs : Array Int} {len : Nat} {x : Int32} (hd : decode bytes pc = .ok (.tableswitch df lo hi offs, len)) (hout : x.toInt < lo ∨ x.toInt > hi) (ho : 0 ≤ (pc : Int) + df) (hp : ((pc : Int) + df).toNat = pc') (k : Go p e below P (T.setTop (mkF m pc' Ls (rest)))) : Go p e below P (T.setTop (mkF m pc Ls (.int x :: rest))) := Go.on (fun t => XS.tswOut (g := mkF m pc Ls (.int x :: rest)) X.here B.1 rfl (pc0 := pc) rfl (hb B.2.1 hd) (i := x) (rest := rest) rfl hout ho hp) k
end Heap
end Jvm.OwnKit

namespace Jvm.OwnKit
open Sem ClassFile Op Lib Jvm.Stand Jvm.Free Jvm.LawKit Jvm.RoadKit
section Start
variable {args : Array Value} {s : State} {t u : Term}
theorem eqI_v {k : Int32} (h : (Jvm.Cond.eq t (.int k)).value args s none s [] = some true) : t.eval args s none [] s = some (.int k) := by
  cases ht : t.eval args s none [] s with
  | none => simp [Cond.value, ht] at h
  | some x => cases x <;> simp [Cond.value, ht, Term.eval] at h ⊢; exact h
theorem eqJ_v {k : Int64} (h : (Jvm.Cond.eq t (.long k)).value args s none s [] = some true) : t.eval args s none [] s = some (.long k) := by
  cases ht : t.eval args s none [] s with
  | none => simp [Cond.value, ht] at h
  | some x => cases x <;> simp [Cond.value, ht, Term.eval] at h ⊢; exact h
theorem eqR_v {a : Addr} (hu : u.eval args s none [] s = some (.ref a)) (h : (Jvm.Cond.eq t u).value args s none s [] = some true) : t.eval args s none [] s = some (.ref a) := by
  cases ht : t.eval args s none [] s with
  | none => simp [Cond.value, ht] at h
  | some x => cases x <;> simp [Cond.value, ht, hu] at h ⊢; exact h
end Start
end Jvm.OwnKit

namespace Jvm.OwnKit
open Sem ClassFile Op Lib Jvm.Stand Jvm.Free Jvm.LawKit Jvm.RoadKit
section Tab
variable {args : Array Value} {s : State} {t : Term} {a : Addr} {c : Cell} {ty : FieldType} {i n : Nat} {C : Jvm.Cond}
theorem tab_len {N : Int32} (ht : t.eval args s none [] s = some (.ref a)) (A : Arr s s.heap a c ty) (h : (Jvm.Cond.eq (.length t) (.int N)).value args s none s [] = some true) (hn : N.toNatClampNeg = n) : c.slots.size = n ∧ n < 2 ^ 31 := by
  have e := eqI_v h
  have hat := A.fin (Vm.Alike.refl s.vm)
  simp only [Term.eval, ht, Option.bind_eq_bind, Option.bind_some, hat] at e
  split at e
  · rename_i q
    have e2 : c.slots.size.toInt32 = N := by simpa using e
    have e3 := len_toInt q
    rw [e2] at e3
    have e4 : N.toNatClampNeg = c.slots.size := by simp only [Int32.toNatClampNeg]; rw [e3]; rfl
    rw [hn] at e4
    exact ⟨e4.symm, e4 ▸ q⟩
  · cases e
theorem tab_all (ht : t.eval args s none [] s = some (.ref a)) (A : Arr s s.heap a c ty) (h : (Jvm.Cond.all t C).value args s none s [] = some true) (hi : i < c.slots.size) : C.value args s none s [i] = some true := Cond.all_elim ht (A.fin (Vm.Alike.refl _)) h i hi
theorem tab_or {D : Jvm.Cond} (h : (Jvm.Cond.or C D).value args s none s [i] = some true) (hc : C.value args s none s [i] = some false) : D.value args s none s [i] = some true := by
  simp only [Cond.value, hc] at h; exact h
theorem tab_lo {k : Int32} (hi : i < 2 ^ 31) (q : k.toInt ≤ i) : (Jvm.Cond.lt (.index 0) (.int k)).value args s none s [i] = some false := by
  have e := len_toInt hi
  simp only [Cond.value, Term.index_eval, Term.int_eval]
  exact congrArg some (decide_eq_false fun z => by rw [Int32.lt_iff_toInt_lt, e] at z; omega)
theorem tab_hi {k : Int32} (hi : i < 2 ^ 31) (q : i < k.toInt) : (Jvm.Cond.le (.int k) (.index 0)).value args s none s [i] = some false := by
  have e := len_toInt hi
  simp only [Cond.value, Term.index_eval, Term.int_eval]
  exact congrArg some (decide_eq_false fun z => by rw [Int32.le_iff_toInt_le, e] at z; omega)
theorem tab_el {v : Value} {j : Term} (ht : t.eval args s none [i] s = some (.ref a)) (A : Arr s s.heap a c ty) (hi : i < 2 ^ 31) (h : (Term.elem t (.index 0)).eval args s none [i] s = some v) : c.slots[i]? = some v := by
  have e := (elem_in h ht (Term.index_eval i) A.1).2
  have e3 := len_toInt hi
  rwa [show i.toInt32.toNatClampNeg = i by simp only [Int32.toNatClampNeg]; rw [e3]; rfl] at e
theorem tab_at {v : Value} {k : Int32} (ht : t.eval args s none [] s = some (.ref a)) (A : Arr s s.heap a c ty) (h : (Term.elem t (.int k)).eval args s none [] s = some v) (hk : k.toNatClampNeg = i) : c.slots[i]? = some v := by
  have e := (elem_in h ht rfl A.1).2
  rwa [hk] at e
theorem eqI_i {k : Int32} {t : Term} (h : (Jvm.Cond.eq t (.int k)).value args s none s [i] = some true) : t.eval args s none [i] s = some (.int k) := by
  cases ht : t.eval args s none [i] s with
  | none => simp [Cond.value, ht] at h
  | some x => cases x <;> simp [Cond.value, ht, Term.eval] at h ⊢; exact h
theorem tab_nat (hi : i < 2 ^ 31) : i.toInt32.toNatClampNeg = i := by
  have e3 := len_toInt hi
  simp only [Int32.toNatClampNeg]; rw [e3]; rfl
theorem tab_sub {t : Term} {k : Int32} (h : (Jvm.Cond.eq t (.sub (.index 0) (.int k))).value args s none s [i] = some true) : ∃ z, t.eval args s none [i] s = some (.int z) ∧ z = i.toInt32 - k := by
  cases ht : t.eval args s none [i] s with
  | none => simp [Cond.value, ht] at h
  | some x => cases x <;> simp [Cond.value, ht, Term.eval] at h ⊢; exact h
theorem tab_lng {t : Term} (h : (Jvm.Cond.eq (.op1 .i2l t) (.op2 .ladd (.op1 .i2l (.index 0)) (.long 4))).value args s none s [i] = some true) : ∃ z, t.eval args s none [i] s = some (.int z) ∧ z.toInt64 = i.toInt32.toInt64 + 4 := by
  cases ht : t.eval args s none [i] s with
  | none => simp [Cond.value, ht, Term.eval] at h
  | some x => cases x <;> simp [Cond.value, ht, Term.eval, Unary.apply, Binary.apply] at h ⊢; exact h
theorem tab_neg {z k : Int32} {n : Int} {P : Prop} (hi : i < 2 ^ 31) (e : z = i.toInt32 - k) (hk : k.toInt = n) (h : 0 ≤ (i : Int) - n ∧ 0 ≤ n) (hP : P) : z = -1 ↔ ¬ P := by
  have e3 := len_toInt hi; have e4 := c_isub i.toInt32 k; have r := rng32 (i.toInt32 - k); have m : (-1 : Int32).toInt = -1 := by decide
  constructor
  · intro q; rw [q] at e; rw [← e, m, e3, hk] at e4; omega
  · intro q; exact absurd hP q
theorem tab_neg4 {z : Int32} {P : Prop} (hi : i < 2 ^ 31) (e : z.toInt64 = i.toInt32.toInt64 + 4) (hP : P) : z = -1 ↔ ¬ P := by
  have e3 := len_toInt hi; have e4 := c_ladd i.toInt32.toInt64 4; have m : (-1 : Int32).toInt64.toInt = -1 := by decide
  have m4 : (4 : Int64).toInt = 4 := by decide
  constructor
  · intro q; rw [q] at e; rw [← e, m, c_i2l, e3, m4] at e4; omega
  · intro q; exact absurd hP q
end Tab
end Jvm.OwnKit

namespace Jvm.Pilot.@@N@@
open Jvm Jvm.ClassFile Sem Op Lib Jvm.Free Jvm.Stand Jvm.LawKit Jvm.RoadKit Jvm.OwnKit Bundle Jvm.Pilot.@@N@@.Jvm.D
theorem tw0 {Z : State} {a0 : Array Value} (hw : ∀ d ∈ tables_1, d.before a0 Z = true) : (Jvm.Cond.constant "com/example/hidden_shift/hiddenshift/table/DirectCharactersContainsPinLaw" (19 : Nat) (2147483647 : Int32)).before a0 Z = true := hw _ (List.mem_of_getElem? (i := 0) rfl)
theorem tw1 {Z : State} {a0 : Array Value} (hw : ∀ d ∈ tables_1, d.before a0 Z = true) : (Jvm.Cond.fieldLink "com/example/hidden_shift/hiddenshift/table/DirectCharactersContainsPinLaw" (20 : Nat) "com/example/hidden_shift/hiddenshift/table/DirectCharacters" "MAIL_SAFE" "Lcom/example/hidden_shift/hiddenshift/table/DirectCharacters;").before a0 Z = true := hw _ (List.mem_of_getElem? (i := 1) rfl)
theorem tw2 {Z : State} {a0 : Array Value} (hw : ∀ d ∈ tables_1, d.before a0 Z = true) : (Jvm.Cond.initialized "com/example/hidden_shift/hiddenshift/table/DirectCharacters").before a0 Z = true := hw _ (List.mem_of_getElem? (i := 2) rfl)
theorem tw3 {Z : State} {a0 : Array Value} (hw : ∀ d ∈ tables_1, d.before a0 Z = true) : (Jvm.Cond.laysStatic "com/example/hidden_shift/hiddenshift/table/DirectCharacters" "MAIL_SAFE" "Lcom/example/hidden_shift/hiddenshift/table/DirectCharacters;").before a0 Z = true := hw _ (List.mem_of_getElem? (i := 3) rfl)
theorem tw4 {Z : State} {a0 : Array Value} (hw : ∀ d ∈ tables_1, d.before a0 Z = true) : (Jvm.Cond.methodLink "com/example/hidden_shift/hiddenshift/table/DirectCharactersContainsPinLaw" (32 : Nat) ({ cls := "com/example/hidden_shift/hiddenshift/table/DirectCharacters", name := "contains", desc := "(I)Z" } : Jvm.MethodName)).before a0 Z = true := hw _ (List.mem_of_getElem? (i := 4) rfl)
theorem tw5 {Z : State} {a0 : Array Value} (hw : ∀ d ∈ tables_1, d.before a0 Z = true) : (Jvm.Cond.declares ({ cls := "com/example/hidden_shift/hiddenshift/table/DirectCharacters", name := "contains", desc := "(I)Z" } : Jvm.MethodName)).before a0 Z = true := hw _ (List.mem_of_getElem? (i := 5) rfl)
theorem tw6 {Z : State} {a0 : Array Value} (hw : ∀ d ∈ tables_1, d.before a0 Z = true) : (Jvm.Cond.instanceMethod ({ cls := "com/example/hidden_shift/hiddenshift/table/DirectCharacters", name := "contains", desc := "(I)Z" } : Jvm.MethodName)).before a0 Z = true := hw _ (List.mem_of_getElem? (i := 6) rfl)
theorem tw7 {Z : State} {a0 : Array Value} (hw : ∀ d ∈ tables_1, d.before a0 Z = true) : (Jvm.Cond.selects "com/example/hidden_shift/hiddenshift/table/DirectCharacters" ({ cls := "com/example/hidden_shift/hiddenshift/table/DirectCharacters", name := "contains", desc := "(I)Z" } : Jvm.MethodName) ({ cls := "com/example/hidden_shift/hiddenshift/table/DirectCharacters", name := "contains", desc := "(I)Z" } : Jvm.MethodName)).before a0 Z = true := hw _ (List.mem_of_getElem? (i := 7) rfl)
theorem tw8 {Z : State} {a0 : Array Value} (hw : ∀ d ∈ tables_1, d.before a0 Z = true) : (Jvm.Cond.code ({ cls := "com/example/hidden_shift/hiddenshift/table/DirectCharacters", name := "contains", desc := "(I)Z" } : Jvm.MethodName) prog_24_method_4_code (2 : Nat) (Option.some Jvm.ClassFile.FieldType.boolean)).before a0 Z = true := hw _ (List.mem_of_getElem? (i := 8) rfl)
theorem tw9 {Z : State} {a0 : Array Value} (hw : ∀ d ∈ tables_1, d.before a0 Z = true) : (Jvm.Cond.fieldLink "com/example/hidden_shift/hiddenshift/table/DirectCharacters" (32 : Nat) "com/example/hidden_shift/hiddenshift/table/DirectCharacters" "direct" "[Z").before a0 Z = true := hw _ (List.mem_of_getElem? (i := 9) rfl)
theorem tw11 {Z : State} {a0 : Array Value} (hw : ∀ d ∈ tables_1, d.before a0 Z = true) : (Jvm.Cond.methodLink "com/example/hidden_shift/hiddenshift/table/DirectCharactersContainsPinLaw" (35 : Nat) ({ cls := "com/example/hidden_shift/hiddenshift/table/DirectCharactersContainsPinLaw", name := "expected", desc := "(II)Z" } : Jvm.MethodName)).before a0 Z = true := hw _ (List.mem_of_getElem? (i := 11) rfl)
theorem tw12 {Z : State} {a0 : Array Value} (hw : ∀ d ∈ tables_1, d.before a0 Z = true) : (Jvm.Cond.static ({ cls := "com/example/hidden_shift/hiddenshift/table/DirectCharactersContainsPinLaw", name := "expected", desc := "(II)Z" } : Jvm.MethodName)).before a0 Z = true := hw _ (List.mem_of_getElem? (i := 12) rfl)
theorem tw13 {Z : State} {a0 : Array Value} (hw : ∀ d ∈ tables_1, d.before a0 Z = true) : (Jvm.Cond.initialized "com/example/hidden_shift/hiddenshift/table/DirectCharactersContainsPinLaw").before a0 Z = true := hw _ (List.mem_of_getElem? (i := 13) rfl)
theorem tw14 {Z : State} {a0 : Array Value} (hw : ∀ d ∈ tables_1, d.before a0 Z = true) : (Jvm.Cond.code ({ cls := "com/example/hidden_shift/hiddenshift/table/DirectCharactersContainsPinLaw", name := "expected", desc := "(II)Z" } : Jvm.MethodName) method_5_code (2 : Nat) (Option.some Jvm.ClassFile.FieldType.boolean)).before a0 Z = true := hw _ (List.mem_of_getElem? (i := 14) rfl)
theorem tw15 {Z : State} {a0 : Array Value} (hw : ∀ d ∈ tables_1, d.before a0 Z = true) : (Jvm.Cond.methodLink "com/example/hidden_shift/hiddenshift/table/DirectCharactersContainsPinLaw" (7 : Nat) ({ cls := "com/example/hidden_shift/hiddenshift/table/DirectCharactersContainsPinLaw", name := "isD", desc := "(I)Z" } : Jvm.MethodName)).before a0 Z = true := hw _ (List.mem_of_getElem? (i := 15) rfl)
theorem tw16 {Z : State} {a0 : Array Value} (hw : ∀ d ∈ tables_1, d.before a0 Z = true) : (Jvm.Cond.static ({ cls := "com/example/hidden_shift/hiddenshift/table/DirectCharactersContainsPinLaw", name := "isD", desc := "(I)Z" } : Jvm.MethodName)).before a0 Z = true := hw _ (List.mem_of_getElem? (i := 16) rfl)
theorem tw17 {Z : State} {a0 : Array Value} (hw : ∀ d ∈ tables_1, d.before a0 Z = true) : (Jvm.Cond.code ({ cls := "com/example/hidden_shift/hiddenshift/table/DirectCharactersContainsPinLaw", name := "isD", desc := "(I)Z" } : Jvm.MethodName) method_2_code (1 : Nat) (Option.some Jvm.ClassFile.FieldType.boolean)).before a0 Z = true := hw _ (List.mem_of_getElem? (i := 17) rfl)
theorem tw18 {Z : State} {a0 : Array Value} (hw : ∀ d ∈ tables_1, d.before a0 Z = true) : (Jvm.Cond.methodLink "com/example/hidden_shift/hiddenshift/table/DirectCharactersContainsPinLaw" (13 : Nat) ({ cls := "com/example/hidden_shift/hiddenshift/table/DirectCharactersContainsPinLaw", name := "isW", desc := "(I)Z" } : Jvm.MethodName)).before a0 Z = true := hw _ (List.mem_of_getElem? (i := 18) rfl)
theorem tw19 {Z : State} {a0 : Array Value} (hw : ∀ d ∈ tables_1, d.before a0 Z = true) : (Jvm.Cond.static ({ cls := "com/example/hidden_shift/hiddenshift/table/DirectCharactersContainsPinLaw", name := "isW", desc := "(I)Z" } : Jvm.MethodName)).before a0 Z = true := hw _ (List.mem_of_getElem? (i := 19) rfl)
theorem tw20 {Z : State} {a0 : Array Value} (hw : ∀ d ∈ tables_1, d.before a0 Z = true) : (Jvm.Cond.code ({ cls := "com/example/hidden_shift/hiddenshift/table/DirectCharactersContainsPinLaw", name := "isW", desc := "(I)Z" } : Jvm.MethodName) method_4_code (1 : Nat) (Option.some Jvm.ClassFile.FieldType.boolean)).before a0 Z = true := hw _ (List.mem_of_getElem? (i := 20) rfl)
theorem tw21 {Z : State} {a0 : Array Value} (hw : ∀ d ∈ tables_1, d.before a0 Z = true) : (Jvm.Cond.fieldLink "com/example/hidden_shift/hiddenshift/table/DirectCharactersContainsPinLaw" (29 : Nat) "com/example/hidden_shift/hiddenshift/table/DirectCharacters" "IMAP" "Lcom/example/hidden_shift/hiddenshift/table/DirectCharacters;").before a0 Z = true := hw _ (List.mem_of_getElem? (i := 21) rfl)
theorem tw22 {Z : State} {a0 : Array Value} (hw : ∀ d ∈ tables_1, d.before a0 Z = true) : (Jvm.Cond.laysStatic "com/example/hidden_shift/hiddenshift/table/DirectCharacters" "IMAP" "Lcom/example/hidden_shift/hiddenshift/table/DirectCharacters;").before a0 Z = true := hw _ (List.mem_of_getElem? (i := 22) rfl)
theorem tw23 {Z : State} {a0 : Array Value} (hw : ∀ d ∈ tables_1, d.before a0 Z = true) : (Jvm.Cond.fieldLink "com/example/hidden_shift/hiddenshift/table/DirectCharactersContainsPinLaw" (26 : Nat) "com/example/hidden_shift/hiddenshift/table/DirectCharacters" "WITH_OPTIONAL" "Lcom/example/hidden_shift/hiddenshift/table/DirectCharacters;").before a0 Z = true := hw _ (List.mem_of_getElem? (i := 23) rfl)
theorem tw24 {Z : State} {a0 : Array Value} (hw : ∀ d ∈ tables_1, d.before a0 Z = true) : (Jvm.Cond.laysStatic "com/example/hidden_shift/hiddenshift/table/DirectCharacters" "WITH_OPTIONAL" "Lcom/example/hidden_shift/hiddenshift/table/DirectCharacters;").before a0 Z = true := hw _ (List.mem_of_getElem? (i := 24) rfl)
theorem tw25 {Z : State} {a0 : Array Value} (hw : ∀ d ∈ tables_1, d.before a0 Z = true) : (Jvm.Cond.methodLink "com/example/hidden_shift/hiddenshift/table/DirectCharactersContainsPinLaw" (16 : Nat) ({ cls := "com/example/hidden_shift/hiddenshift/table/DirectCharactersContainsPinLaw", name := "isO", desc := "(I)Z" } : Jvm.MethodName)).before a0 Z = true := hw _ (List.mem_of_getElem? (i := 25) rfl)
theorem tw26 {Z : State} {a0 : Array Value} (hw : ∀ d ∈ tables_1, d.before a0 Z = true) : (Jvm.Cond.static ({ cls := "com/example/hidden_shift/hiddenshift/table/DirectCharactersContainsPinLaw", name := "isO", desc := "(I)Z" } : Jvm.MethodName)).before a0 Z = true := hw _ (List.mem_of_getElem? (i := 26) rfl)
theorem tw27 {Z : State} {a0 : Array Value} (hw : ∀ d ∈ tables_1, d.before a0 Z = true) : (Jvm.Cond.code ({ cls := "com/example/hidden_shift/hiddenshift/table/DirectCharactersContainsPinLaw", name := "isO", desc := "(I)Z" } : Jvm.MethodName) method_3_code (1 : Nat) (Option.some Jvm.ClassFile.FieldType.boolean)).before a0 Z = true := hw _ (List.mem_of_getElem? (i := 27) rfl)
abbrev mn0 : MethodName := ⟨"com/example/hidden_shift/hiddenshift/table/DirectCharactersContainsPinLaw", "isD", "(I)Z"⟩
abbrev mn1 : MethodName := ⟨"com/example/hidden_shift/hiddenshift/table/DirectCharactersContainsPinLaw", "isO", "(I)Z"⟩
abbrev mn2 : MethodName := ⟨"com/example/hidden_shift/hiddenshift/table/DirectCharactersContainsPinLaw", "isW", "(I)Z"⟩
abbrev mn3 : MethodName := ⟨"com/example/hidden_shift/hiddenshift/table/DirectCharactersContainsPinLaw", "expected", "(II)Z"⟩
abbrev mn4 : MethodName := ⟨"com/example/hidden_shift/hiddenshift/table/DirectCharacters", "contains", "(I)Z"⟩
theorem pd_1 : parseMethodDescriptor "(II)Z" = some ⟨[.int, .int], some .boolean⟩ := by decide +kernel
theorem pd_0 : parseMethodDescriptor "(I)Z" = some ⟨[.int], some .boolean⟩ := by decide +kernel
def tb_MAIL_SAFE (i : Nat) : Int32 := if i < 9 then 0 else if i < 10 then 1 else if i < 11 then 1 else if i < 12 then 0 else if i < 13 then 0 else if i < 14 then 1 else if i < 32 then 0 else if i < 33 then 1 else if i < 39 then 0 else if i < 40 then 1 else if i < 41 then 1 else if i < 42 then 1 else if i < 43 then 0 else if i < 44 then 0 else if i < 59 then 1 else if i < 63 then 0 else if i < 64 then 1 else if i < 65 then 0 else if i < 91 then 1 else if i < 97 then 0 else if i < 123 then 1 else 0
theorem tb_MAIL_SAFE_0 {i : Nat} (h1 : 0 ≤ i) (h2 : i < 9) : tb_MAIL_SAFE i = 0 := by
  unfold tb_MAIL_SAFE
  repeat' (first | rfl | (rw [if_pos (by omega)]) | (rw [if_neg (by omega)]))
theorem tb_MAIL_SAFE_14 {i : Nat} (h1 : 14 ≤ i) (h2 : i < 32) : tb_MAIL_SAFE i = 0 := by
  unfold tb_MAIL_SAFE
  repeat' (first | rfl | (rw [if_pos (by omega)]) | (rw [if_neg (by omega)]))
theorem tb_MAIL_SAFE_33 {i : Nat} (h1 : 33 ≤ i) (h2 : i < 39) : tb_MAIL_SAFE i = 0 := by
  unfold tb_MAIL_SAFE
  repeat' (first | rfl | (rw [if_pos (by omega)]) | (rw [if_neg (by omega)]))
theorem tb_MAIL_SAFE_44 {i : Nat} (h1 : 44 ≤ i) (h2 : i < 59) : tb_MAIL_SAFE i = 1 := by
  unfold tb_MAIL_SAFE
  repeat' (first | rfl | (rw [if_pos (by omega)]) | (rw [if_neg (by omega)]))
theorem tb_MAIL_SAFE_59 {i : Nat} (h1 : 59 ≤ i) (h2 : i < 63) : tb_MAIL_SAFE i = 0 := by
  unfold tb_MAIL_SAFE
  repeat' (first | rfl | (rw [if_pos (by omega)]) | (rw [if_neg (by omega)]))
theorem tb_MAIL_SAFE_65 {i : Nat} (h1 : 65 ≤ i) (h2 : i < 91) : tb_MAIL_SAFE i = 1 := by
  unfold tb_MAIL_SAFE
  repeat' (first | rfl | (rw [if_pos (by omega)]) | (rw [if_neg (by omega)]))
theorem tb_MAIL_SAFE_91 {i : Nat} (h1 : 91 ≤ i) (h2 : i < 97) : tb_MAIL_SAFE i = 0 := by
  unfold tb_MAIL_SAFE
  repeat' (first | rfl | (rw [if_pos (by omega)]) | (rw [if_neg (by omega)]))
theorem tb_MAIL_SAFE_97 {i : Nat} (h1 : 97 ≤ i) (h2 : i < 123) : tb_MAIL_SAFE i = 1 := by
  unfold tb_MAIL_SAFE
  repeat' (first | rfl | (rw [if_pos (by omega)]) | (rw [if_neg (by omega)]))
theorem tb_MAIL_SAFE_123 {i : Nat} (h1 : 123 ≤ i) (h2 : i < 128) : tb_MAIL_SAFE i = 0 := by
  unfold tb_MAIL_SAFE
  repeat' (first | rfl | (rw [if_pos (by omega)]) | (rw [if_neg (by omega)]))
def tb_IMAP (i : Nat) : Int32 := if i < 32 then 0 else if i < 38 then 1 else if i < 39 then 0 else if i < 127 then 1 else 0
theorem tb_IMAP_0 {i : Nat} (h1 : 0 ≤ i) (h2 : i < 32) : tb_IMAP i = 0 := by
  unfold tb_IMAP
  repeat' (first | rfl | (rw [if_pos (by omega)]) | (rw [if_neg (by omega)]))
theorem tb_IMAP_32 {i : Nat} (h1 : 32 ≤ i) (h2 : i < 38) : tb_IMAP i = 1 := by
  unfold tb_IMAP
  repeat' (first | rfl | (rw [if_pos (by omega)]) | (rw [if_neg (by omega)]))
theorem tb_IMAP_39 {i : Nat} (h1 : 39 ≤ i) (h2 : i < 127) : tb_IMAP i = 1 := by
  unfold tb_IMAP
  repeat' (first | rfl | (rw [if_pos (by omega)]) | (rw [if_neg (by omega)]))
def tb_WITH_OPTIONAL (i : Nat) : Int32 := if i < 9 then 0 else if i < 10 then 1 else if i < 11 then 1 else if i < 12 then 0 else if i < 13 then 0 else if i < 14 then 1 else if i < 32 then 0 else if i < 43 then 1 else if i < 44 then 0 else if i < 92 then 1 else if i < 93 then 0 else if i < 126 then 1 else if i < 127 then 0 else 0
theorem tb_WITH_OPTIONAL_0 {i : Nat} (h1 : 0 ≤ i) (h2 : i < 9) : tb_WITH_OPTIONAL i = 0 := by
  unfold tb_WITH_OPTIONAL
  repeat' (first | rfl | (rw [if_pos (by omega)]) | (rw [if_neg (by omega)]))
theorem tb_WITH_OPTIONAL_14 {i : Nat} (h1 : 14 ≤ i) (h2 : i < 32) : tb_WITH_OPTIONAL i = 0 := by
  unfold tb_WITH_OPTIONAL
  repeat' (first | rfl | (rw [if_pos (by omega)]) | (rw [if_neg (by omega)]))
theorem tb_WITH_OPTIONAL_32 {i : Nat} (h1 : 32 ≤ i) (h2 : i < 43) : tb_WITH_OPTIONAL i = 1 := by
  unfold tb_WITH_OPTIONAL
  repeat' (first | rfl | (rw [if_pos (by omega)]) | (rw [if_neg (by omega)]))
theorem tb_WITH_OPTIONAL_44 {i : Nat} (h1 : 44 ≤ i) (h2 : i < 92) : tb_WITH_OPTIONAL i = 1 := by
  unfold tb_WITH_OPTIONAL
  repeat' (first | rfl | (rw [if_pos (by omega)]) | (rw [if_neg (by omega)]))
theorem tb_WITH_OPTIONAL_93 {i : Nat} (h1 : 93 ≤ i) (h2 : i < 126) : tb_WITH_OPTIONAL i = 1 := by
  unfold tb_WITH_OPTIONAL
  repeat' (first | rfl | (rw [if_pos (by omega)]) | (rw [if_neg (by omega)]))
def OwnF (Z : State) (h : Heap) (w_MAIL_SAFE w_IMAP w_WITH_OPTIONAL w_MAIL_SAFE_direct w_IMAP_direct w_WITH_OPTIONAL_direct : Addr) : Prop := Sta Z h "com/example/hidden_shift/hiddenshift/table/DirectCharacters" "MAIL_SAFE" "Lcom/example/hidden_shift/hiddenshift/table/DirectCharacters;" (.ref w_MAIL_SAFE) ∧
  Exa Z h w_MAIL_SAFE "com/example/hidden_shift/hiddenshift/table/DirectCharacters" ∧
  Sta Z h "com/example/hidden_shift/hiddenshift/table/DirectCharacters" "IMAP" "Lcom/example/hidden_shift/hiddenshift/table/DirectCharacters;" (.ref w_IMAP) ∧
  Exa Z h w_IMAP "com/example/hidden_shift/hiddenshift/table/DirectCharacters" ∧
  Sta Z h "com/example/hidden_shift/hiddenshift/table/DirectCharacters" "WITH_OPTIONAL" "Lcom/example/hidden_shift/hiddenshift/table/DirectCharacters;" (.ref w_WITH_OPTIONAL) ∧
  Exa Z h w_WITH_OPTIONAL "com/example/hidden_shift/hiddenshift/table/DirectCharacters" ∧
  Fld Z h w_MAIL_SAFE "com/example/hidden_shift/hiddenshift/table/DirectCharacters" "direct" "[Z" (.ref w_MAIL_SAFE_direct) ∧
  Fld Z h w_IMAP "com/example/hidden_shift/hiddenshift/table/DirectCharacters" "direct" "[Z" (.ref w_IMAP_direct) ∧
  Fld Z h w_WITH_OPTIONAL "com/example/hidden_shift/hiddenshift/table/DirectCharacters" "direct" "[Z" (.ref w_WITH_OPTIONAL_direct) ∧
  (∃ k, Ary Z h w_MAIL_SAFE_direct k .boolean 128 (fun i => .int (tb_MAIL_SAFE i))) ∧
  (∃ k, Ary Z h w_IMAP_direct k .boolean 128 (fun i => .int (tb_IMAP i))) ∧
  (∃ k, Ary Z h w_WITH_OPTIONAL_direct k .boolean 128 (fun i => .int (tb_WITH_OPTIONAL i)))
theorem OwnF.ext {Z : State} {h h' : Heap} {w_MAIL_SAFE w_IMAP w_WITH_OPTIONAL w_MAIL_SAFE_direct w_IMAP_direct w_WITH_OPTIONAL_direct : Addr} (E : Ext h h') (F : OwnF Z h w_MAIL_SAFE w_IMAP w_WITH_OPTIONAL w_MAIL_SAFE_direct w_IMAP_direct w_WITH_OPTIONAL_direct) : OwnF Z h' w_MAIL_SAFE w_IMAP w_WITH_OPTIONAL w_MAIL_SAFE_direct w_IMAP_direct w_WITH_OPTIONAL_direct := by
  obtain ⟨S_MAIL_SAFE, E_MAIL_SAFE, S_IMAP, E_IMAP, S_WITH_OPTIONAL, E_WITH_OPTIONAL, F_MAIL_SAFE_direct, F_IMAP_direct, F_WITH_OPTIONAL_direct, T_MAIL_SAFE_direct, T_IMAP_direct, T_WITH_OPTIONAL_direct⟩ := F
  exact ⟨S_MAIL_SAFE.ext E, E_MAIL_SAFE.ext E, S_IMAP.ext E, E_IMAP.ext E, S_WITH_OPTIONAL.ext E, E_WITH_OPTIONAL.ext E, F_MAIL_SAFE_direct.ext E, F_IMAP_direct.ext E, F_WITH_OPTIONAL_direct.ext E, T_MAIL_SAFE_direct.imp fun _ q => Ary.ext E q, T_IMAP_direct.imp fun _ q => Ary.ext E q, T_WITH_OPTIONAL_direct.imp fun _ q => Ary.ext E q⟩
def fD (x : Int32) : Int32 := if (65 ≤ x.toInt ∧ x.toInt ≤ 90) ∨ (97 ≤ x.toInt ∧ x.toInt ≤ 122) ∨ (48 ≤ x.toInt ∧ x.toInt ≤ 57) ∨ x.toInt = 39 ∨ x.toInt = 40 ∨ x.toInt = 41 ∨ x.toInt = 44 ∨ x.toInt = 45 ∨ x.toInt = 46 ∨ x.toInt = 47 ∨ x.toInt = 58 ∨ x.toInt = 63 then 1 else 0
def fO (x : Int32) : Int32 := if x.toInt = 33 ∨ x.toInt = 34 ∨ x.toInt = 35 ∨ x.toInt = 36 ∨ x.toInt = 37 ∨ x.toInt = 38 ∨ x.toInt = 42 ∨ x.toInt = 59 ∨ x.toInt = 60 ∨ x.toInt = 61 ∨ x.toInt = 62 ∨ x.toInt = 64 ∨ x.toInt = 91 ∨ x.toInt = 93 ∨ x.toInt = 94 ∨ x.toInt = 95 ∨ x.toInt = 96 ∨ x.toInt = 123 ∨ x.toInt = 124 ∨ x.toInt = 125 then 1 else 0
def fW (x : Int32) : Int32 := if x.toInt = 32 ∨ x.toInt = 9 ∨ x.toInt = 13 ∨ x.toInt = 10 then 1 else 0
def fE (sel : Nat) (x : Int32) : Int32 := if x < 0 ∨ 127 < x then 0 else if sel = 2 then (if x < 32 ∨ 126 < x ∨ x = 38 then 0 else 1) else if sel = 0 then (if fD x = 0 ∧ fW x = 0 then 0 else 1) else (if fD x = 0 ∧ fO x = 0 ∧ fW x = 0 then 0 else 1)
def fC (tb : Nat → Int32) (x : Int32) : Int32 := if x < 0 ∨ ¬ x < 128 then 0 else (if tb x.toNatClampNeg = 0 then 0 else 1)
theorem own_small {P : Int32 → Prop} (h : ∀ n : Fin 128, P (Int32.ofNat n)) {x : Int32} (h0 : ¬ x < 0) (h1 : x < 128) : P x := by
  have e0 : 0 ≤ x.toInt := by simpa [Int32.lt_iff_toInt_lt] using h0
  have e1 : x.toInt < 128 := by simpa [Int32.lt_iff_toInt_lt] using h1
  have e : x = Int32.ofNat x.toInt.toNat := Int32.toInt_inj.mp (by rw [Int32.toInt_ofNat_of_lt (by omega)]; omega)
  rw [e]; exact h ⟨x.toInt.toNat, by omega⟩
theorem own_same0 (x : Int32) : fC tb_MAIL_SAFE x = fE 0 x := by
  by_cases h0 : x < 0
  · simp [fC, fE, h0]
  · by_cases h1 : x < 128
    · exact own_small (P := fun x => fC tb_MAIL_SAFE x = fE 0 x) (by decide +kernel) h0 h1
    · have h2 : (127 : Int32) < x := by simp only [Int32.lt_iff_toInt_lt] at *; simp at *; omega
      simp [fC, fE, h1, h2]
theorem own_same1 (x : Int32) : fC tb_WITH_OPTIONAL x = fE 1 x := by
  by_cases h0 : x < 0
  · simp [fC, fE, h0]
  · by_cases h1 : x < 128
    · exact own_small (P := fun x => fC tb_WITH_OPTIONAL x = fE 1 x) (by decide +kernel) h0 h1
    · have h2 : (127 : Int32) < x := by simp only [Int32.lt_iff_toInt_lt] at *; simp at *; omega
      simp [fC, fE, h1, h2]
theorem own_same2 (x : Int32) : fC tb_IMAP x = fE 2 x := by
  by_cases h0 : x < 0
  · simp [fC, fE, h0]
  · by_cases h1 : x < 128
    · exact own_small (P := fun x => fC tb_IMAP x = fE 2 x) (by decide +kernel) h0 h1
    · have h2 : (127 : Int32) < x := by simp only [Int32.lt_iff_toInt_lt] at *; simp at *; omega
      simp [fC, fE, h1, h2]
theorem d3_0 : decode method_2_code 0 = .ok (.iload_n 0, 1) := by decide +kernel
theorem d3_1 : decode method_2_code 1 = .ok (.bipush 65, 2) := by decide +kernel
theorem d3_3 : decode method_2_code 3 = .ok (.if_icmp .lt 9, 3) := by decide +kernel
theorem d3_6 : decode method_2_code 6 = .ok (.iload_n 0, 1) := by decide +kernel
theorem d3_7 : decode method_2_code 7 = .ok (.bipush 90, 2) := by decide +kernel
theorem d3_9 : decode method_2_code 9 = .ok (.if_icmp .le 81, 3) := by decide +kernel
theorem d3_12 : decode method_2_code 12 = .ok (.iload_n 0, 1) := by decide +kernel
theorem d3_13 : decode method_2_code 13 = .ok (.bipush 97, 2) := by decide +kernel
theorem d3_15 : decode method_2_code 15 = .ok (.if_icmp .lt 9, 3) := by decide +kernel
theorem d3_18 : decode method_2_code 18 = .ok (.iload_n 0, 1) := by decide +kernel
theorem d3_19 : decode method_2_code 19 = .ok (.bipush 122, 2) := by decide +kernel
theorem d3_21 : decode method_2_code 21 = .ok (.if_icmp .le 69, 3) := by decide +kernel
theorem d3_24 : decode method_2_code 24 = .ok (.iload_n 0, 1) := by decide +kernel
theorem d3_25 : decode method_2_code 25 = .ok (.bipush 48, 2) := by decide +kernel
theorem d3_27 : decode method_2_code 27 = .ok (.if_icmp .lt 9, 3) := by decide +kernel
theorem d3_30 : decode method_2_code 30 = .ok (.iload_n 0, 1) := by decide +kernel
theorem d3_31 : decode method_2_code 31 = .ok (.bipush 57, 2) := by decide +kernel
theorem d3_33 : decode method_2_code 33 = .ok (.if_icmp .le 57, 3) := by decide +kernel
theorem d3_36 : decode method_2_code 36 = .ok (.iload_n 0, 1) := by decide +kernel
theorem d3_37 : decode method_2_code 37 = .ok (.bipush 39, 2) := by decide +kernel
theorem d3_39 : decode method_2_code 39 = .ok (.if_icmp .eq 51, 3) := by decide +kernel
theorem d3_42 : decode method_2_code 42 = .ok (.iload_n 0, 1) := by decide +kernel
theorem d3_43 : decode method_2_code 43 = .ok (.bipush 40, 2) := by decide +kernel
theorem d3_45 : decode method_2_code 45 = .ok (.if_icmp .eq 45, 3) := by decide +kernel
theorem d3_48 : decode method_2_code 48 = .ok (.iload_n 0, 1) := by decide +kernel
theorem d3_49 : decode method_2_code 49 = .ok (.bipush 41, 2) := by decide +kernel
theorem d3_51 : decode method_2_code 51 = .ok (.if_icmp .eq 39, 3) := by decide +kernel
theorem d3_54 : decode method_2_code 54 = .ok (.iload_n 0, 1) := by decide +kernel
theorem d3_55 : decode method_2_code 55 = .ok (.bipush 44, 2) := by decide +kernel
theorem d3_57 : decode method_2_code 57 = .ok (.if_icmp .eq 33, 3) := by decide +kernel
theorem d3_60 : decode method_2_code 60 = .ok (.iload_n 0, 1) := by decide +kernel
theorem d3_61 : decode method_2_code 61 = .ok (.bipush 45, 2) := by decide +kernel
theorem d3_63 : decode method_2_code 63 = .ok (.if_icmp .eq 27, 3) := by decide +kernel
theorem d3_66 : decode method_2_code 66 = .ok (.iload_n 0, 1) := by decide +kernel
theorem d3_67 : decode method_2_code 67 = .ok (.bipush 46, 2) := by decide +kernel
theorem d3_69 : decode method_2_code 69 = .ok (.if_icmp .eq 21, 3) := by decide +kernel
theorem d3_72 : decode method_2_code 72 = .ok (.iload_n 0, 1) := by decide +kernel
theorem d3_73 : decode method_2_code 73 = .ok (.bipush 47, 2) := by decide +kernel
theorem d3_75 : decode method_2_code 75 = .ok (.if_icmp .eq 15, 3) := by decide +kernel
theorem d3_78 : decode method_2_code 78 = .ok (.iload_n 0, 1) := by decide +kernel
theorem d3_79 : decode method_2_code 79 = .ok (.bipush 58, 2) := by decide +kernel
theorem d3_81 : decode method_2_code 81 = .ok (.if_icmp .eq 9, 3) := by decide +kernel
theorem d3_84 : decode method_2_code 84 = .ok (.iload_n 0, 1) := by decide +kernel
theorem d3_85 : decode method_2_code 85 = .ok (.bipush 63, 2) := by decide +kernel
theorem d3_87 : decode method_2_code 87 = .ok (.if_icmp .ne 7, 3) := by decide +kernel
theorem d3_90 : decode method_2_code 90 = .ok (.iconst 1, 1) := by decide +kernel
theorem d3_91 : decode method_2_code 91 = .ok (.goto 4, 3) := by decide +kernel
theorem d3_94 : decode method_2_code 94 = .ok (.iconst 0, 1) := by decide +kernel
theorem d3_95 : decode method_2_code 95 = .ok (.ireturn, 1) := by decide +kernel
theorem pn_rm_isD : plainName "com/example/hidden_shift/hiddenshift/table/DirectCharactersContainsPinLaw" = true := by first | (simp [plainName, overriddenIn]; done) | decide +kernel
set_option maxRecDepth 65536 in
set_option maxHeartbeats 40000000 in
theorem rm_isD (l : Launch) (Z : State) (a0 : Array Value) (hw : ∀ d ∈ tables_1, d.before a0 Z = true) (x : Int32) (h0 : Heap) :
    OMeets l Z mn0 method_2_code 1 (some .boolean) [] ({ frames := 0, cells := 0, slots := 0, locals := 0 } : Room) #[(.int x)] h0 (PureQ (some (.int (fD x))) h0) := by
  refine OMeets.of pn_rm_isD #[.val (.int x)] (fun m => by first | rfl | (simp [entryFrame, mkF, argsToLocals, Value.category, maxLocals]; done)) ?_
  intro p e s m below meth c s₁ B X0 e0
  have seg36 : (¬ ((65 ≤ x.toInt ∧ x.toInt ≤ 90) ∨ (97 ≤ x.toInt ∧ x.toInt ≤ 122) ∨ (48 ≤ x.toInt ∧ x.toInt ≤ 57))) → Go p e below (OEnds s (PureQ (some (.int (fD x))) h0) ({ frames := 0, cells := 0, slots := 0, locals := 0 } : Room).cells ({ frames := 0, cells := 0, slots := 0, locals := 0 } : Room).slots) (s₁.setTop (mkF m 36 #[.val (.int x)] [])) := by
    intro hs36
    refine s_iloadN B X0 (pc' := 37) d3_36 rfl rfl ?_
    refine s_bipush B X0 (pc' := 39) (v := (39 : Int32)) d3_37 rfl rfl ?_
    refine b_icmp_eq B X0 (py := 90) (pn := 42) d3_39 (by decide) (by decide) rfl (fun hc39_1 => ?_) (fun hc39_1 => ?_)
    · refine s_iconst B X0 (pc' := 91) (v := (1 : Int32)) d3_90 rfl rfl ?_
      refine s_goto B X0 (pc' := 95) d3_91 (by decide) (by decide) ?_
      simp only [Int32.lt_iff_toInt_lt, ← Int32.toInt_inj, Int32.reduceToInt] at hs36 hc39_1
      exact r_nar B X0 (t := .boolean) (by simp) rfl d3_95 ⟨congrArg (fun z => some (Value.int z)) (show nar .boolean (1 : Int32) = fD x from (if_pos (by omega)).symm), rfl, e0⟩ (by decide) (by decide)
    · refine s_iloadN B X0 (pc' := 43) d3_42 rfl rfl ?_
      refine s_bipush B X0 (pc' := 45) (v := (40 : Int32)) d3_43 rfl rfl ?_
      refine b_icmp_eq B X0 (py := 90) (pn := 48) d3_45 (by decide) (by decide) rfl (fun hc45_2 => ?_) (fun hc45_2 => ?_)
      · refine s_iconst B X0 (pc' := 91) (v := (1 : Int32)) d3_90 rfl rfl ?_
        refine s_goto B X0 (pc' := 95) d3_91 (by decide) (by decide) ?_
        simp only [Int32.lt_iff_toInt_lt, ← Int32.toInt_inj, Int32.reduceToInt] at hs36 hc39_1 hc45_2
        exact r_nar B X0 (t := .boolean) (by simp) rfl d3_95 ⟨congrArg (fun z => some (Value.int z)) (show nar .boolean (1 : Int32) = fD x from (if_pos (by omega)).symm), rfl, e0⟩ (by decide) (by decide)
      · refine s_iloadN B X0 (pc' := 49) d3_48 rfl rfl ?_
        refine s_bipush B X0 (pc' := 51) (v := (41 : Int32)) d3_49 rfl rfl ?_
        refine b_icmp_eq B X0 (py := 90) (pn := 54) d3_51 (by decide) (by decide) rfl (fun hc51_3 => ?_) (fun hc51_3 => ?_)
        · refine s_iconst B X0 (pc' := 91) (v := (1 : Int32)) d3_90 rfl rfl ?_
          refine s_goto B X0 (pc' := 95) d3_91 (by decide) (by decide) ?_
          simp only [Int32.lt_iff_toInt_lt, ← Int32.toInt_inj, Int32.reduceToInt] at hs36 hc39_1 hc45_2 hc51_3
          exact r_nar B X0 (t := .boolean) (by simp) rfl d3_95 ⟨congrArg (fun z => some (Value.int z)) (show nar .boolean (1 : Int32) = fD x from (if_pos (by omega)).symm), rfl, e0⟩ (by decide) (by decide)
        · refine s_iloadN B X0 (pc' := 55) d3_54 rfl rfl ?_
          refine s_bipush B X0 (pc' := 57) (v := (44 : Int32)) d3_55 rfl rfl ?_
          refine b_icmp_eq B X0 (py := 90) (pn := 60) d3_57 (by decide) (by decide) rfl (fun hc57_4 => ?_) (fun hc57_4 => ?_)
          · refine s_iconst B X0 (pc' := 91) (v := (1 : Int32)) d3_90 rfl rfl ?_
            refine s_goto B X0 (pc' := 95) d3_91 (by decide) (by decide) ?_
            simp only [Int32.lt_iff_toInt_lt, ← Int32.toInt_inj, Int32.reduceToInt] at hs36 hc39_1 hc45_2 hc51_3 hc57_4
            exact r_nar B X0 (t := .boolean) (by simp) rfl d3_95 ⟨congrArg (fun z => some (Value.int z)) (show nar .boolean (1 : Int32) = fD x from (if_pos (by omega)).symm), rfl, e0⟩ (by decide) (by decide)
          · refine s_iloadN B X0 (pc' := 61) d3_60 rfl rfl ?_
            refine s_bipush B X0 (pc' := 63) (v := (45 : Int32)) d3_61 rfl rfl ?_
            refine b_icmp_eq B X0 (py := 90) (pn := 66) d3_63 (by decide) (by decide) rfl (fun hc63_5 => ?_) (fun hc63_5 => ?_)
            · refine s_iconst B X0 (pc' := 91) (v := (1 : Int32)) d3_90 rfl rfl ?_
              refine s_goto B X0 (pc' := 95) d3_91 (by decide) (by decide) ?_
              simp only [Int32.lt_iff_toInt_lt, ← Int32.toInt_inj, Int32.reduceToInt] at hs36 hc39_1 hc45_2 hc51_3 hc57_4 hc63_5
              exact r_nar B X0 (t := .boolean) (by simp) rfl d3_95 ⟨congrArg (fun z => some (Value.int z)) (show nar .boolean (1 : Int32) = fD x from (if_pos (by omega)).symm), rfl, e0⟩ (by decide) (by decide)
            · refine s_iloadN B X0 (pc' := 67) d3_66 rfl rfl ?_
              refine s_bipush B X0 (pc' := 69) (v := (46 : Int32)) d3_67 rfl rfl ?_
              refine b_icmp_eq B X0 (py := 90) (pn := 72) d3_69 (by decide) (by decide) rfl (fun hc69_6 => ?_) (fun hc69_6 => ?_)
              · refine s_iconst B X0 (pc' := 91) (v := (1 : Int32)) d3_90 rfl rfl ?_
                refine s_goto B X0 (pc' := 95) d3_91 (by decide) (by decide) ?_
                simp only [Int32.lt_iff_toInt_lt, ← Int32.toInt_inj, Int32.reduceToInt] at hs36 hc39_1 hc45_2 hc51_3 hc57_4 hc63_5 hc69_6
                exact r_nar B X0 (t := .boolean) (by simp) rfl d3_95 ⟨congrArg (fun z => some (Value.int z)) (show nar .boolean (1 : Int32) = fD x from (if_pos (by omega)).symm), rfl, e0⟩ (by decide) (by decide)
              · refine s_iloadN B X0 (pc' := 73) d3_72 rfl rfl ?_
                refine s_bipush B X0 (pc' := 75) (v := (47 : Int32)) d3_73 rfl rfl ?_
                refine b_icmp_eq B X0 (py := 90) (pn := 78) d3_75 (by decide) (by decide) rfl (fun hc75_7 => ?_) (fun hc75_7 => ?_)
                · refine s_iconst B X0 (pc' := 91) (v := (1 : Int32)) d3_90 rfl rfl ?_
                  refine s_goto B X0 (pc' := 95) d3_91 (by decide) (by decide) ?_
                  simp only [Int32.lt_iff_toInt_lt, ← Int32.toInt_inj, Int32.reduceToInt] at hs36 hc39_1 hc45_2 hc51_3 hc57_4 hc63_5 hc69_6 hc75_7
                  exact r_nar B X0 (t := .boolean) (by simp) rfl d3_95 ⟨congrArg (fun z => some (Value.int z)) (show nar .boolean (1 : Int32) = fD x from (if_pos (by omega)).symm), rfl, e0⟩ (by decide) (by decide)
                · refine s_iloadN B X0 (pc' := 79) d3_78 rfl rfl ?_
                  refine s_bipush B X0 (pc' := 81) (v := (58 : Int32)) d3_79 rfl rfl ?_
                  refine b_icmp_eq B X0 (py := 90) (pn := 84) d3_81 (by decide) (by decide) rfl (fun hc81_8 => ?_) (fun hc81_8 => ?_)
                  · refine s_iconst B X0 (pc' := 91) (v := (1 : Int32)) d3_90 rfl rfl ?_
                    refine s_goto B X0 (pc' := 95) d3_91 (by decide) (by decide) ?_
                    simp only [Int32.lt_iff_toInt_lt, ← Int32.toInt_inj, Int32.reduceToInt] at hs36 hc39_1 hc45_2 hc51_3 hc57_4 hc63_5 hc69_6 hc75_7 hc81_8
                    exact r_nar B X0 (t := .boolean) (by simp) rfl d3_95 ⟨congrArg (fun z => some (Value.int z)) (show nar .boolean (1 : Int32) = fD x from (if_pos (by omega)).symm), rfl, e0⟩ (by decide) (by decide)
                  · refine s_iloadN B X0 (pc' := 85) d3_84 rfl rfl ?_
                    refine s_bipush B X0 (pc' := 87) (v := (63 : Int32)) d3_85 rfl rfl ?_
                    refine b_icmp_ne B X0 (py := 94) (pn := 90) d3_87 (by decide) (by decide) rfl (fun hc87_9 => ?_) (fun hc87_9 => ?_)
                    · refine s_iconst B X0 (pc' := 95) (v := (0 : Int32)) d3_94 rfl rfl ?_
                      simp only [Int32.lt_iff_toInt_lt, ← Int32.toInt_inj, Int32.reduceToInt] at hs36 hc39_1 hc45_2 hc51_3 hc57_4 hc63_5 hc69_6 hc75_7 hc81_8 hc87_9
                      exact r_nar B X0 (t := .boolean) (by simp) rfl d3_95 ⟨congrArg (fun z => some (Value.int z)) (show nar .boolean (0 : Int32) = fD x from (if_neg (by omega)).symm), rfl, e0⟩ (by decide) (by decide)
                    · refine s_iconst B X0 (pc' := 91) (v := (1 : Int32)) d3_90 rfl rfl ?_
                      refine s_goto B X0 (pc' := 95) d3_91 (by decide) (by decide) ?_
                      simp only [Int32.lt_iff_toInt_lt, ← Int32.toInt_inj, Int32.reduceToInt] at hs36 hc39_1 hc45_2 hc51_3 hc57_4 hc63_5 hc69_6 hc75_7 hc81_8 hc87_9
                      exact r_nar B X0 (t := .boolean) (by simp) rfl d3_95 ⟨congrArg (fun z => some (Value.int z)) (show nar .boolean (1 : Int32) = fD x from (if_pos (by omega)).symm), rfl, e0⟩ (by decide) (by decide)
  have seg24 : (¬ ((65 ≤ x.toInt ∧ x.toInt ≤ 90) ∨ (97 ≤ x.toInt ∧ x.toInt ≤ 122))) → Go p e below (OEnds s (PureQ (some (.int (fD x))) h0) ({ frames := 0, cells := 0, slots := 0, locals := 0 } : Room).cells ({ frames := 0, cells := 0, slots := 0, locals := 0 } : Room).slots) (s₁.setTop (mkF m 24 #[.val (.int x)] [])) := by
    intro hs24
    refine s_iloadN B X0 (pc' := 25) d3_24 rfl rfl ?_
    refine s_bipush B X0 (pc' := 27) (v := (48 : Int32)) d3_25 rfl rfl ?_
    refine b_icmp_lt B X0 (py := 36) (pn := 30) d3_27 (by decide) (by decide) rfl (fun hc27_10 => ?_) (fun hc27_10 => ?_)
    · simp only [Int32.lt_iff_toInt_lt, ← Int32.toInt_inj, Int32.reduceToInt] at hc27_10
      exact seg36 (by omega)
    · refine s_iloadN B X0 (pc' := 31) d3_30 rfl rfl ?_
      refine s_bipush B X0 (pc' := 33) (v := (57 : Int32)) d3_31 rfl rfl ?_
      refine b_icmp_le B X0 (py := 90) (pn := 36) d3_33 (by decide) (by decide) rfl (fun hc33_11 => ?_) (fun hc33_11 => ?_)
      · refine s_iconst B X0 (pc' := 91) (v := (1 : Int32)) d3_90 rfl rfl ?_
        refine s_goto B X0 (pc' := 95) d3_91 (by decide) (by decide) ?_
        simp only [Int32.lt_iff_toInt_lt, ← Int32.toInt_inj, Int32.reduceToInt] at hs24 hc27_10 hc33_11
        exact r_nar B X0 (t := .boolean) (by simp) rfl d3_95 ⟨congrArg (fun z => some (Value.int z)) (show nar .boolean (1 : Int32) = fD x from (if_pos (by omega)).symm), rfl, e0⟩ (by decide) (by decide)
      · simp only [Int32.lt_iff_toInt_lt, ← Int32.toInt_inj, Int32.reduceToInt] at hc27_10 hc33_11
        exact seg36 (by omega)
  have seg12 : (¬ ((65 ≤ x.toInt ∧ x.toInt ≤ 90))) → Go p e below (OEnds s (PureQ (some (.int (fD x))) h0) ({ frames := 0, cells := 0, slots := 0, locals := 0 } : Room).cells ({ frames := 0, cells := 0, slots := 0, locals := 0 } : Room).slots) (s₁.setTop (mkF m 12 #[.val (.int x)] [])) := by
    intro hs12
    refine s_iloadN B X0 (pc' := 13) d3_12 rfl rfl ?_
    refine s_bipush B X0 (pc' := 15) (v := (97 : Int32)) d3_13 rfl rfl ?_
    refine b_icmp_lt B X0 (py := 24) (pn := 18) d3_15 (by decide) (by decide) rfl (fun hc15_12 => ?_) (fun hc15_12 => ?_)
    · simp only [Int32.lt_iff_toInt_lt, ← Int32.toInt_inj, Int32.reduceToInt] at hc15_12
      exact seg24 (by omega)
    · refine s_iloadN B X0 (pc' := 19) d3_18 rfl rfl ?_
      refine s_bipush B X0 (pc' := 21) (v := (122 : Int32)) d3_19 rfl rfl ?_
      refine b_icmp_le B X0 (py := 90) (pn := 24) d3_21 (by decide) (by decide) rfl (fun hc21_13 => ?_) (fun hc21_13 => ?_)
      · refine s_iconst B X0 (pc' := 91) (v := (1 : Int32)) d3_90 rfl rfl ?_
        refine s_goto B X0 (pc' := 95) d3_91 (by decide) (by decide) ?_
        simp only [Int32.lt_iff_toInt_lt, ← Int32.toInt_inj, Int32.reduceToInt] at hs12 hc15_12 hc21_13
        exact r_nar B X0 (t := .boolean) (by simp) rfl d3_95 ⟨congrArg (fun z => some (Value.int z)) (show nar .boolean (1 : Int32) = fD x from (if_pos (by omega)).symm), rfl, e0⟩ (by decide) (by decide)
      · simp only [Int32.lt_iff_toInt_lt, ← Int32.toInt_inj, Int32.reduceToInt] at hc15_12 hc21_13
        exact seg24 (by omega)
  refine s_iloadN B X0 (pc' := 1) d3_0 rfl rfl ?_
  refine s_bipush B X0 (pc' := 3) (v := (65 : Int32)) d3_1 rfl rfl ?_
  refine b_icmp_lt B X0 (py := 12) (pn := 6) d3_3 (by decide) (by decide) rfl (fun hc3_14 => ?_) (fun hc3_14 => ?_)
  · simp only [Int32.lt_iff_toInt_lt, ← Int32.toInt_inj, Int32.reduceToInt] at hc3_14
    exact seg12 (by omega)
  · refine s_iloadN B X0 (pc' := 7) d3_6 rfl rfl ?_
    refine s_bipush B X0 (pc' := 9) (v := (90 : Int32)) d3_7 rfl rfl ?_
    refine b_icmp_le B X0 (py := 90) (pn := 12) d3_9 (by decide) (by decide) rfl (fun hc9_15 => ?_) (fun hc9_15 => ?_)
    · refine s_iconst B X0 (pc' := 91) (v := (1 : Int32)) d3_90 rfl rfl ?_
      refine s_goto B X0 (pc' := 95) d3_91 (by decide) (by decide) ?_
      simp only [Int32.lt_iff_toInt_lt, ← Int32.toInt_inj, Int32.reduceToInt] at hc3_14 hc9_15
      exact r_nar B X0 (t := .boolean) (by simp) rfl d3_95 ⟨congrArg (fun z => some (Value.int z)) (show nar .boolean (1 : Int32) = fD x from (if_pos (by omega)).symm), rfl, e0⟩ (by decide) (by decide)
    · simp only [Int32.lt_iff_toInt_lt, ← Int32.toInt_inj, Int32.reduceToInt] at hc3_14 hc9_15
      exact seg12 (by omega)
theorem d5_0 : decode method_3_code 0 = .ok (.iload_n 0, 1) := by decide +kernel
theorem d5_1 : decode method_3_code 1 = .ok (.bipush 33, 2) := by decide +kernel
theorem d5_3 : decode method_3_code 3 = .ok (.if_icmp .eq 117, 3) := by decide +kernel
theorem d5_6 : decode method_3_code 6 = .ok (.iload_n 0, 1) := by decide +kernel
theorem d5_7 : decode method_3_code 7 = .ok (.bipush 34, 2) := by decide +kernel
theorem d5_9 : decode method_3_code 9 = .ok (.if_icmp .eq 111, 3) := by decide +kernel
theorem d5_12 : decode method_3_code 12 = .ok (.iload_n 0, 1) := by decide +kernel
theorem d5_13 : decode method_3_code 13 = .ok (.bipush 35, 2) := by decide +kernel
theorem d5_15 : decode method_3_code 15 = .ok (.if_icmp .eq 105, 3) := by decide +kernel
theorem d5_18 : decode method_3_code 18 = .ok (.iload_n 0, 1) := by decide +kernel
theorem d5_19 : decode method_3_code 19 = .ok (.bipush 36, 2) := by decide +kernel
theorem d5_21 : decode method_3_code 21 = .ok (.if_icmp .eq 99, 3) := by decide +kernel
theorem d5_24 : decode method_3_code 24 = .ok (.iload_n 0, 1) := by decide +kernel
theorem d5_25 : decode method_3_code 25 = .ok (.bipush 37, 2) := by decide +kernel
theorem d5_27 : decode method_3_code 27 = .ok (.if_icmp .eq 93, 3) := by decide +kernel
theorem d5_30 : decode method_3_code 30 = .ok (.iload_n 0, 1) := by decide +kernel
theorem d5_31 : decode method_3_code 31 = .ok (.bipush 38, 2) := by decide +kernel
theorem d5_33 : decode method_3_code 33 = .ok (.if_icmp .eq 87, 3) := by decide +kernel
theorem d5_36 : decode method_3_code 36 = .ok (.iload_n 0, 1) := by decide +kernel
theorem d5_37 : decode method_3_code 37 = .ok (.bipush 42, 2) := by decide +kernel
theorem d5_39 : decode method_3_code 39 = .ok (.if_icmp .eq 81, 3) := by decide +kernel
theorem d5_42 : decode method_3_code 42 = .ok (.iload_n 0, 1) := by decide +kernel
theorem d5_43 : decode method_3_code 43 = .ok (.bipush 59, 2) := by decide +kernel
theorem d5_45 : decode method_3_code 45 = .ok (.if_icmp .eq 75, 3) := by decide +kernel
theorem d5_48 : decode method_3_code 48 = .ok (.iload_n 0, 1) := by decide +kernel
theorem d5_49 : decode method_3_code 49 = .ok (.bipush 60, 2) := by decide +kernel
theorem d5_51 : decode method_3_code 51 = .ok (.if_icmp .eq 69, 3) := by decide +kernel
theorem d5_54 : decode method_3_code 54 = .ok (.iload_n 0, 1) := by decide +kernel
theorem d5_55 : decode method_3_code 55 = .ok (.bipush 61, 2) := by decide +kernel
theorem d5_57 : decode method_3_code 57 = .ok (.if_icmp .eq 63, 3) := by decide +kernel
theorem d5_60 : decode method_3_code 60 = .ok (.iload_n 0, 1) := by decide +kernel
theorem d5_61 : decode method_3_code 61 = .ok (.bipush 62, 2) := by decide +kernel
theorem d5_63 : decode method_3_code 63 = .ok (.if_icmp .eq 57, 3) := by decide +kernel
theorem d5_66 : decode method_3_code 66 = .ok (.iload_n 0, 1) := by decide +kernel
theorem d5_67 : decode method_3_code 67 = .ok (.bipush 64, 2) := by decide +kernel
theorem d5_69 : decode method_3_code 69 = .ok (.if_icmp .eq 51, 3) := by decide +kernel
theorem d5_72 : decode method_3_code 72 = .ok (.iload_n 0, 1) := by decide +kernel
theorem d5_73 : decode method_3_code 73 = .ok (.bipush 91, 2) := by decide +kernel
theorem d5_75 : decode method_3_code 75 = .ok (.if_icmp .eq 45, 3) := by decide +kernel
theorem d5_78 : decode method_3_code 78 = .ok (.iload_n 0, 1) := by decide +kernel
theorem d5_79 : decode method_3_code 79 = .ok (.bipush 93, 2) := by decide +kernel
theorem d5_81 : decode method_3_code 81 = .ok (.if_icmp .eq 39, 3) := by decide +kernel
theorem d5_84 : decode method_3_code 84 = .ok (.iload_n 0, 1) := by decide +kernel
theorem d5_85 : decode method_3_code 85 = .ok (.bipush 94, 2) := by decide +kernel
theorem d5_87 : decode method_3_code 87 = .ok (.if_icmp .eq 33, 3) := by decide +kernel
theorem d5_90 : decode method_3_code 90 = .ok (.iload_n 0, 1) := by decide +kernel
theorem d5_91 : decode method_3_code 91 = .ok (.bipush 95, 2) := by decide +kernel
theorem d5_93 : decode method_3_code 93 = .ok (.if_icmp .eq 27, 3) := by decide +kernel
theorem d5_96 : decode method_3_code 96 = .ok (.iload_n 0, 1) := by decide +kernel
theorem d5_97 : decode method_3_code 97 = .ok (.bipush 96, 2) := by decide +kernel
theorem d5_99 : decode method_3_code 99 = .ok (.if_icmp .eq 21, 3) := by decide +kernel
theorem d5_102 : decode method_3_code 102 = .ok (.iload_n 0, 1) := by decide +kernel
theorem d5_103 : decode method_3_code 103 = .ok (.bipush 123, 2) := by decide +kernel
theorem d5_105 : decode method_3_code 105 = .ok (.if_icmp .eq 15, 3) := by decide +kernel
theorem d5_108 : decode method_3_code 108 = .ok (.iload_n 0, 1) := by decide +kernel
theorem d5_109 : decode method_3_code 109 = .ok (.bipush 124, 2) := by decide +kernel
theorem d5_111 : decode method_3_code 111 = .ok (.if_icmp .eq 9, 3) := by decide +kernel
theorem d5_114 : decode method_3_code 114 = .ok (.iload_n 0, 1) := by decide +kernel
theorem d5_115 : decode method_3_code 115 = .ok (.bipush 125, 2) := by decide +kernel
theorem d5_117 : decode method_3_code 117 = .ok (.if_icmp .ne 7, 3) := by decide +kernel
theorem d5_120 : decode method_3_code 120 = .ok (.iconst 1, 1) := by decide +kernel
theorem d5_121 : decode method_3_code 121 = .ok (.goto 4, 3) := by decide +kernel
theorem d5_124 : decode method_3_code 124 = .ok (.iconst 0, 1) := by decide +kernel
theorem d5_125 : decode method_3_code 125 = .ok (.ireturn, 1) := by decide +kernel
theorem pn_rm_isO : plainName "com/example/hidden_shift/hiddenshift/table/DirectCharactersContainsPinLaw" = true := by first | (simp [plainName, overriddenIn]; done) | decide +kernel
set_option maxRecDepth 65536 in
set_option maxHeartbeats 40000000 in
theorem rm_isO (l : Launch) (Z : State) (a0 : Array Value) (hw : ∀ d ∈ tables_1, d.before a0 Z = true) (x : Int32) (h0 : Heap) :
    OMeets l Z mn1 method_3_code 1 (some .boolean) [] ({ frames := 0, cells := 0, slots := 0, locals := 0 } : Room) #[(.int x)] h0 (PureQ (some (.int (fO x))) h0) := by
  refine OMeets.of pn_rm_isO #[.val (.int x)] (fun m => by first | rfl | (simp [entryFrame, mkF, argsToLocals, Value.category, maxLocals]; done)) ?_
  intro p e s m below meth c s₁ B X0 e0
  refine s_iloadN B X0 (pc' := 1) d5_0 rfl rfl ?_
  refine s_bipush B X0 (pc' := 3) (v := (33 : Int32)) d5_1 rfl rfl ?_
  refine b_icmp_eq B X0 (py := 120) (pn := 6) d5_3 (by decide) (by decide) rfl (fun hc3_1 => ?_) (fun hc3_1 => ?_)
  · refine s_iconst B X0 (pc' := 121) (v := (1 : Int32)) d5_120 rfl rfl ?_
    refine s_goto B X0 (pc' := 125) d5_121 (by decide) (by decide) ?_
    simp only [Int32.lt_iff_toInt_lt, ← Int32.toInt_inj, Int32.reduceToInt] at hc3_1
    exact r_nar B X0 (t := .boolean) (by simp) rfl d5_125 ⟨congrArg (fun z => some (Value.int z)) (show nar .boolean (1 : Int32) = fO x from (if_pos (by omega)).symm), rfl, e0⟩ (by decide) (by decide)
  · refine s_iloadN B X0 (pc' := 7) d5_6 rfl rfl ?_
    refine s_bipush B X0 (pc' := 9) (v := (34 : Int32)) d5_7 rfl rfl ?_
    refine b_icmp_eq B X0 (py := 120) (pn := 12) d5_9 (by decide) (by decide) rfl (fun hc9_2 => ?_) (fun hc9_2 => ?_)
    · refine s_iconst B X0 (pc' := 121) (v := (1 : Int32)) d5_120 rfl rfl ?_
      refine s_goto B X0 (pc' := 125) d5_121 (by decide) (by decide) ?_
      simp only [Int32.lt_iff_toInt_lt, ← Int32.toInt_inj, Int32.reduceToInt] at hc3_1 hc9_2
      exact r_nar B X0 (t := .boolean) (by simp) rfl d5_125 ⟨congrArg (fun z => some (Value.int z)) (show nar .boolean (1 : Int32) = fO x from (if_pos (by omega)).symm), rfl, e0⟩ (by decide) (by decide)
    · refine s_iloadN B X0 (pc' := 13) d5_12 rfl rfl ?_
      refine s_bipush B X0 (pc' := 15) (v := (35 : Int32)) d5_13 rfl rfl ?_
      refine b_icmp_eq B X0 (py := 120) (pn := 18) d5_15 (by decide) (by decide) rfl (fun hc15_3 => ?_) (fun hc15_3 => ?_)
      · refine s_iconst B X0 (pc' := 121) (v := (1 : Int32)) d5_120 rfl rfl ?_
        refine s_goto B X0 (pc' := 125) d5_121 (by decide) (by decide) ?_
        simp only [Int32.lt_iff_toInt_lt, ← Int32.toInt_inj, Int32.reduceToInt] at hc3_1 hc9_2 hc15_3
        exact r_nar B X0 (t := .boolean) (by simp) rfl d5_125 ⟨congrArg (fun z => some (Value.int z)) (show nar .boolean (1 : Int32) = fO x from (if_pos (by omega)).symm), rfl, e0⟩ (by decide) (by decide)
      · refine s_iloadN B X0 (pc' := 19) d5_18 rfl rfl ?_
        refine s_bipush B X0 (pc' := 21) (v := (36 : Int32)) d5_19 rfl rfl ?_
        refine b_icmp_eq B X0 (py := 120) (pn := 24) d5_21 (by decide) (by decide) rfl (fun hc21_4 => ?_) (fun hc21_4 => ?_)
        · refine s_iconst B X0 (pc' := 121) (v := (1 : Int32)) d5_120 rfl rfl ?_
          refine s_goto B X0 (pc' := 125) d5_121 (by decide) (by decide) ?_
          simp only [Int32.lt_iff_toInt_lt, ← Int32.toInt_inj, Int32.reduceToInt] at hc3_1 hc9_2 hc15_3 hc21_4
          exact r_nar B X0 (t := .boolean) (by simp) rfl d5_125 ⟨congrArg (fun z => some (Value.int z)) (show nar .boolean (1 : Int32) = fO x from (if_pos (by omega)).symm), rfl, e0⟩ (by decide) (by decide)
        · refine s_iloadN B X0 (pc' := 25) d5_24 rfl rfl ?_
          refine s_bipush B X0 (pc' := 27) (v := (37 : Int32)) d5_25 rfl rfl ?_
          refine b_icmp_eq B X0 (py := 120) (pn := 30) d5_27 (by decide) (by decide) rfl (fun hc27_5 => ?_) (fun hc27_5 => ?_)
          · refine s_iconst B X0 (pc' := 121) (v := (1 : Int32)) d5_120 rfl rfl ?_
            refine s_goto B X0 (pc' := 125) d5_121 (by decide) (by decide) ?_
            simp only [Int32.lt_iff_toInt_lt, ← Int32.toInt_inj, Int32.reduceToInt] at hc3_1 hc9_2 hc15_3 hc21_4 hc27_5
            exact r_nar B X0 (t := .boolean) (by simp) rfl d5_125 ⟨congrArg (fun z => some (Value.int z)) (show nar .boolean (1 : Int32) = fO x from (if_pos (by omega)).symm), rfl, e0⟩ (by decide) (by decide)
          · refine s_iloadN B X0 (pc' := 31) d5_30 rfl rfl ?_
            refine s_bipush B X0 (pc' := 33) (v := (38 : Int32)) d5_31 rfl rfl ?_
            refine b_icmp_eq B X0 (py := 120) (pn := 36) d5_33 (by decide) (by decide) rfl (fun hc33_6 => ?_) (fun hc33_6 => ?_)
            · refine s_iconst B X0 (pc' := 121) (v := (1 : Int32)) d5_120 rfl rfl ?_
              refine s_goto B X0 (pc' := 125) d5_121 (by decide) (by decide) ?_
              simp only [Int32.lt_iff_toInt_lt, ← Int32.toInt_inj, Int32.reduceToInt] at hc3_1 hc9_2 hc15_3 hc21_4 hc27_5 hc33_6
              exact r_nar B X0 (t := .boolean) (by simp) rfl d5_125 ⟨congrArg (fun z => some (Value.int z)) (show nar .boolean (1 : Int32) = fO x from (if_pos (by omega)).symm), rfl, e0⟩ (by decide) (by decide)
            · refine s_iloadN B X0 (pc' := 37) d5_36 rfl rfl ?_
              refine s_bipush B X0 (pc' := 39) (v := (42 : Int32)) d5_37 rfl rfl ?_
              refine b_icmp_eq B X0 (py := 120) (pn := 42) d5_39 (by decide) (by decide) rfl (fun hc39_7 => ?_) (fun hc39_7 => ?_)
              · refine s_iconst B X0 (pc' := 121) (v := (1 : Int32)) d5_120 rfl rfl ?_
                refine s_goto B X0 (pc' := 125) d5_121 (by decide) (by decide) ?_
                simp only [Int32.lt_iff_toInt_lt, ← Int32.toInt_inj, Int32.reduceToInt] at hc3_1 hc9_2 hc15_3 hc21_4 hc27_5 hc33_6 hc39_7
                exact r_nar B X0 (t := .boolean) (by simp) rfl d5_125 ⟨congrArg (fun z => some (Value.int z)) (show nar .boolean (1 : Int32) = fO x from (if_pos (by omega)).symm), rfl, e0⟩ (by decide) (by decide)
              · refine s_iloadN B X0 (pc' := 43) d5_42 rfl rfl ?_
                refine s_bipush B X0 (pc' := 45) (v := (59 : Int32)) d5_43 rfl rfl ?_
                refine b_icmp_eq B X0 (py := 120) (pn := 48) d5_45 (by decide) (by decide) rfl (fun hc45_8 => ?_) (fun hc45_8 => ?_)
                · refine s_iconst B X0 (pc' := 121) (v := (1 : Int32)) d5_120 rfl rfl ?_
                  refine s_goto B X0 (pc' := 125) d5_121 (by decide) (by decide) ?_
                  simp only [Int32.lt_iff_toInt_lt, ← Int32.toInt_inj, Int32.reduceToInt] at hc3_1 hc9_2 hc15_3 hc21_4 hc27_5 hc33_6 hc39_7 hc45_8
                  exact r_nar B X0 (t := .boolean) (by simp) rfl d5_125 ⟨congrArg (fun z => some (Value.int z)) (show nar .boolean (1 : Int32) = fO x from (if_pos (by omega)).symm), rfl, e0⟩ (by decide) (by decide)
                · refine s_iloadN B X0 (pc' := 49) d5_48 rfl rfl ?_
                  refine s_bipush B X0 (pc' := 51) (v := (60 : Int32)) d5_49 rfl rfl ?_
                  refine b_icmp_eq B X0 (py := 120) (pn := 54) d5_51 (by decide) (by decide) rfl (fun hc51_9 => ?_) (fun hc51_9 => ?_)
                  · refine s_iconst B X0 (pc' := 121) (v := (1 : Int32)) d5_120 rfl rfl ?_
                    refine s_goto B X0 (pc' := 125) d5_121 (by decide) (by decide) ?_
                    simp only [Int32.lt_iff_toInt_lt, ← Int32.toInt_inj, Int32.reduceToInt] at hc3_1 hc9_2 hc15_3 hc21_4 hc27_5 hc33_6 hc39_7 hc45_8 hc51_9
                    exact r_nar B X0 (t := .boolean) (by simp) rfl d5_125 ⟨congrArg (fun z => some (Value.int z)) (show nar .boolean (1 : Int32) = fO x from (if_pos (by omega)).symm), rfl, e0⟩ (by decide) (by decide)
                  · refine s_iloadN B X0 (pc' := 55) d5_54 rfl rfl ?_
                    refine s_bipush B X0 (pc' := 57) (v := (61 : Int32)) d5_55 rfl rfl ?_
                    refine b_icmp_eq B X0 (py := 120) (pn := 60) d5_57 (by decide) (by decide) rfl (fun hc57_10 => ?_) (fun hc57_10 => ?_)
                    · refine s_iconst B X0 (pc' := 121) (v := (1 : Int32)) d5_120 rfl rfl ?_
                      refine s_goto B X0 (pc' := 125) d5_121 (by decide) (by decide) ?_
                      simp only [Int32.lt_iff_toInt_lt, ← Int32.toInt_inj, Int32.reduceToInt] at hc3_1 hc9_2 hc15_3 hc21_4 hc27_5 hc33_6 hc39_7 hc45_8 hc51_9 hc57_10
                      exact r_nar B X0 (t := .boolean) (by simp) rfl d5_125 ⟨congrArg (fun z => some (Value.int z)) (show nar .boolean (1 : Int32) = fO x from (if_pos (by omega)).symm), rfl, e0⟩ (by decide) (by decide)
                    · refine s_iloadN B X0 (pc' := 61) d5_60 rfl rfl ?_
                      refine s_bipush B X0 (pc' := 63) (v := (62 : Int32)) d5_61 rfl rfl ?_
                      refine b_icmp_eq B X0 (py := 120) (pn := 66) d5_63 (by decide) (by decide) rfl (fun hc63_11 => ?_) (fun hc63_11 => ?_)
                      · refine s_iconst B X0 (pc' := 121) (v := (1 : Int32)) d5_120 rfl rfl ?_
                        refine s_goto B X0 (pc' := 125) d5_121 (by decide) (by decide) ?_
                        simp only [Int32.lt_iff_toInt_lt, ← Int32.toInt_inj, Int32.reduceToInt] at hc3_1 hc9_2 hc15_3 hc21_4 hc27_5 hc33_6 hc39_7 hc45_8 hc51_9 hc57_10 hc63_11
                        exact r_nar B X0 (t := .boolean) (by simp) rfl d5_125 ⟨congrArg (fun z => some (Value.int z)) (show nar .boolean (1 : Int32) = fO x from (if_pos (by omega)).symm), rfl, e0⟩ (by decide) (by decide)
                      · refine s_iloadN B X0 (pc' := 67) d5_66 rfl rfl ?_
                        refine s_bipush B X0 (pc' := 69) (v := (64 : Int32)) d5_67 rfl rfl ?_
                        refine b_icmp_eq B X0 (py := 120) (pn := 72) d5_69 (by decide) (by decide) rfl (fun hc69_12 => ?_) (fun hc69_12 => ?_)
                        · refine s_iconst B X0 (pc' := 121) (v := (1 : Int32)) d5_120 rfl rfl ?_
                          refine s_goto B X0 (pc' := 125) d5_121 (by decide) (by decide) ?_
                          simp only [Int32.lt_iff_toInt_lt, ← Int32.toInt_inj, Int32.reduceToInt] at hc3_1 hc9_2 hc15_3 hc21_4 hc27_5 hc33_6 hc39_7 hc45_8 hc51_9 hc57_10 hc63_11 hc69_12
                          exact r_nar B X0 (t := .boolean) (by simp) rfl d5_125 ⟨congrArg (fun z => some (Value.int z)) (show nar .boolean (1 : Int32) = fO x from (if_pos (by omega)).symm), rfl, e0⟩ (by decide) (by decide)
                        · refine s_iloadN B X0 (pc' := 73) d5_72 rfl rfl ?_
                          refine s_bipush B X0 (pc' := 75) (v := (91 : Int32)) d5_73 rfl rfl ?_
                          refine b_icmp_eq B X0 (py := 120) (pn := 78) d5_75 (by decide) (by decide) rfl (fun hc75_13 => ?_) (fun hc75_13 => ?_)
                          · refine s_iconst B X0 (pc' := 121) (v := (1 : Int32)) d5_120 rfl rfl ?_
                            refine s_goto B X0 (pc' := 125) d5_121 (by decide) (by decide) ?_
                            simp only [Int32.lt_iff_toInt_lt, ← Int32.toInt_inj, Int32.reduceToInt] at hc3_1 hc9_2 hc15_3 hc21_4 hc27_5 hc33_6 hc39_7 hc45_8 hc51_9 hc57_10 hc63_11 hc69_12 hc75_13
                            exact r_nar B X0 (t := .boolean) (by simp) rfl d5_125 ⟨congrArg (fun z => some (Value.int z)) (show nar .boolean (1 : Int32) = fO x from (if_pos (by omega)).symm), rfl, e0⟩ (by decide) (by decide)
                          · refine s_iloadN B X0 (pc' := 79) d5_78 rfl rfl ?_
                            refine s_bipush B X0 (pc' := 81) (v := (93 : Int32)) d5_79 rfl rfl ?_
                            refine b_icmp_eq B X0 (py := 120) (pn := 84) d5_81 (by decide) (by decide) rfl (fun hc81_14 => ?_) (fun hc81_14 => ?_)
                            · refine s_iconst B X0 (pc' := 121) (v := (1 : Int32)) d5_120 rfl rfl ?_
                              refine s_goto B X0 (pc' := 125) d5_121 (by decide) (by decide) ?_
                              simp only [Int32.lt_iff_toInt_lt, ← Int32.toInt_inj, Int32.reduceToInt] at hc3_1 hc9_2 hc15_3 hc21_4 hc27_5 hc33_6 hc39_7 hc45_8 hc51_9 hc57_10 hc63_11 hc69_12 hc75_13 hc81_14
                              exact r_nar B X0 (t := .boolean) (by simp) rfl d5_125 ⟨congrArg (fun z => some (Value.int z)) (show nar .boolean (1 : Int32) = fO x from (if_pos (by omega)).symm), rfl, e0⟩ (by decide) (by decide)
                            · refine s_iloadN B X0 (pc' := 85) d5_84 rfl rfl ?_
                              refine s_bipush B X0 (pc' := 87) (v := (94 : Int32)) d5_85 rfl rfl ?_
                              refine b_icmp_eq B X0 (py := 120) (pn := 90) d5_87 (by decide) (by decide) rfl (fun hc87_15 => ?_) (fun hc87_15 => ?_)
                              · refine s_iconst B X0 (pc' := 121) (v := (1 : Int32)) d5_120 rfl rfl ?_
                                refine s_goto B X0 (pc' := 125) d5_121 (by decide) (by decide) ?_
                                simp only [Int32.lt_iff_toInt_lt, ← Int32.toInt_inj, Int32.reduceToInt] at hc3_1 hc9_2 hc15_3 hc21_4 hc27_5 hc33_6 hc39_7 hc45_8 hc51_9 hc57_10 hc63_11 hc69_12 hc75_13 hc81_14 hc87_15
                                exact r_nar B X0 (t := .boolean) (by simp) rfl d5_125 ⟨congrArg (fun z => some (Value.int z)) (show nar .boolean (1 : Int32) = fO x from (if_pos (by omega)).symm), rfl, e0⟩ (by decide) (by decide)
                              · refine s_iloadN B X0 (pc' := 91) d5_90 rfl rfl ?_
                                refine s_bipush B X0 (pc' := 93) (v := (95 : Int32)) d5_91 rfl rfl ?_
                                refine b_icmp_eq B X0 (py := 120) (pn := 96) d5_93 (by decide) (by decide) rfl (fun hc93_16 => ?_) (fun hc93_16 => ?_)
                                · refine s_iconst B X0 (pc' := 121) (v := (1 : Int32)) d5_120 rfl rfl ?_
                                  refine s_goto B X0 (pc' := 125) d5_121 (by decide) (by decide) ?_
                                  simp only [Int32.lt_iff_toInt_lt, ← Int32.toInt_inj, Int32.reduceToInt] at hc3_1 hc9_2 hc15_3 hc21_4 hc27_5 hc33_6 hc39_7 hc45_8 hc51_9 hc57_10 hc63_11 hc69_12 hc75_13 hc81_14 hc87_15 hc93_16
                                  exact r_nar B X0 (t := .boolean) (by simp) rfl d5_125 ⟨congrArg (fun z => some (Value.int z)) (show nar .boolean (1 : Int32) = fO x from (if_pos (by omega)).symm), rfl, e0⟩ (by decide) (by decide)
                                · refine s_iloadN B X0 (pc' := 97) d5_96 rfl rfl ?_
                                  refine s_bipush B X0 (pc' := 99) (v := (96 : Int32)) d5_97 rfl rfl ?_
                                  refine b_icmp_eq B X0 (py := 120) (pn := 102) d5_99 (by decide) (by decide) rfl (fun hc99_17 => ?_) (fun hc99_17 => ?_)
                                  · refine s_iconst B X0 (pc' := 121) (v := (1 : Int32)) d5_120 rfl rfl ?_
                                    refine s_goto B X0 (pc' := 125) d5_121 (by decide) (by decide) ?_
                                    simp only [Int32.lt_iff_toInt_lt, ← Int32.toInt_inj, Int32.reduceToInt] at hc3_1 hc9_2 hc15_3 hc21_4 hc27_5 hc33_6 hc39_7 hc45_8 hc51_9 hc57_10 hc63_11 hc69_12 hc75_13 hc81_14 hc87_15 hc93_16 hc99_17
                                    exact r_nar B X0 (t := .boolean) (by simp) rfl d5_125 ⟨congrArg (fun z => some (Value.int z)) (show nar .boolean (1 : Int32) = fO x from (if_pos (by omega)).symm), rfl, e0⟩ (by decide) (by decide)
                                  · refine s_iloadN B X0 (pc' := 103) d5_102 rfl rfl ?_
                                    refine s_bipush B X0 (pc' := 105) (v := (123 : Int32)) d5_103 rfl rfl ?_
                                    refine b_icmp_eq B X0 (py := 120) (pn := 108) d5_105 (by decide) (by decide) rfl (fun hc105_18 => ?_) (fun hc105_18 => ?_)
                                    · refine s_iconst B X0 (pc' := 121) (v := (1 : Int32)) d5_120 rfl rfl ?_
                                      refine s_goto B X0 (pc' := 125) d5_121 (by decide) (by decide) ?_
                                      simp only [Int32.lt_iff_toInt_lt, ← Int32.toInt_inj, Int32.reduceToInt] at hc3_1 hc9_2 hc15_3 hc21_4 hc27_5 hc33_6 hc39_7 hc45_8 hc51_9 hc57_10 hc63_11 hc69_12 hc75_13 hc81_14 hc87_15 hc93_16 hc99_17 hc105_18
                                      exact r_nar B X0 (t := .boolean) (by simp) rfl d5_125 ⟨congrArg (fun z => some (Value.int z)) (show nar .boolean (1 : Int32) = fO x from (if_pos (by omega)).symm), rfl, e0⟩ (by decide) (by decide)
                                    · refine s_iloadN B X0 (pc' := 109) d5_108 rfl rfl ?_
                                      refine s_bipush B X0 (pc' := 111) (v := (124 : Int32)) d5_109 rfl rfl ?_
                                      refine b_icmp_eq B X0 (py := 120) (pn := 114) d5_111 (by decide) (by decide) rfl (fun hc111_19 => ?_) (fun hc111_19 => ?_)
                                      · refine s_iconst B X0 (pc' := 121) (v := (1 : Int32)) d5_120 rfl rfl ?_
                                        refine s_goto B X0 (pc' := 125) d5_121 (by decide) (by decide) ?_
                                        simp only [Int32.lt_iff_toInt_lt, ← Int32.toInt_inj, Int32.reduceToInt] at hc3_1 hc9_2 hc15_3 hc21_4 hc27_5 hc33_6 hc39_7 hc45_8 hc51_9 hc57_10 hc63_11 hc69_12 hc75_13 hc81_14 hc87_15 hc93_16 hc99_17 hc105_18 hc111_19
                                        exact r_nar B X0 (t := .boolean) (by simp) rfl d5_125 ⟨congrArg (fun z => some (Value.int z)) (show nar .boolean (1 : Int32) = fO x from (if_pos (by omega)).symm), rfl, e0⟩ (by decide) (by decide)
                                      · refine s_iloadN B X0 (pc' := 115) d5_114 rfl rfl ?_
                                        refine s_bipush B X0 (pc' := 117) (v := (125 : Int32)) d5_115 rfl rfl ?_
                                        refine b_icmp_ne B X0 (py := 124) (pn := 120) d5_117 (by decide) (by decide) rfl (fun hc117_20 => ?_) (fun hc117_20 => ?_)
                                        · refine s_iconst B X0 (pc' := 125) (v := (0 : Int32)) d5_124 rfl rfl ?_
                                          simp only [Int32.lt_iff_toInt_lt, ← Int32.toInt_inj, Int32.reduceToInt] at hc3_1 hc9_2 hc15_3 hc21_4 hc27_5 hc33_6 hc39_7 hc45_8 hc51_9 hc57_10 hc63_11 hc69_12 hc75_13 hc81_14 hc87_15 hc93_16 hc99_17 hc105_18 hc111_19 hc117_20
                                          exact r_nar B X0 (t := .boolean) (by simp) rfl d5_125 ⟨congrArg (fun z => some (Value.int z)) (show nar .boolean (0 : Int32) = fO x from (if_neg (by omega)).symm), rfl, e0⟩ (by decide) (by decide)
                                        · refine s_iconst B X0 (pc' := 121) (v := (1 : Int32)) d5_120 rfl rfl ?_
                                          refine s_goto B X0 (pc' := 125) d5_121 (by decide) (by decide) ?_
                                          simp only [Int32.lt_iff_toInt_lt, ← Int32.toInt_inj, Int32.reduceToInt] at hc3_1 hc9_2 hc15_3 hc21_4 hc27_5 hc33_6 hc39_7 hc45_8 hc51_9 hc57_10 hc63_11 hc69_12 hc75_13 hc81_14 hc87_15 hc93_16 hc99_17 hc105_18 hc111_19 hc117_20
                                          exact r_nar B X0 (t := .boolean) (by simp) rfl d5_125 ⟨congrArg (fun z => some (Value.int z)) (show nar .boolean (1 : Int32) = fO x from (if_pos (by omega)).symm), rfl, e0⟩ (by decide) (by decide)
theorem d4_0 : decode method_4_code 0 = .ok (.iload_n 0, 1) := by decide +kernel
theorem d4_1 : decode method_4_code 1 = .ok (.bipush 32, 2) := by decide +kernel
theorem d4_3 : decode method_4_code 3 = .ok (.if_icmp .eq 21, 3) := by decide +kernel
theorem d4_6 : decode method_4_code 6 = .ok (.iload_n 0, 1) := by decide +kernel
theorem d4_7 : decode method_4_code 7 = .ok (.bipush 9, 2) := by decide +kernel
theorem d4_9 : decode method_4_code 9 = .ok (.if_icmp .eq 15, 3) := by decide +kernel
theorem d4_12 : decode method_4_code 12 = .ok (.iload_n 0, 1) := by decide +kernel
theorem d4_13 : decode method_4_code 13 = .ok (.bipush 13, 2) := by decide +kernel
theorem d4_15 : decode method_4_code 15 = .ok (.if_icmp .eq 9, 3) := by decide +kernel
theorem d4_18 : decode method_4_code 18 = .ok (.iload_n 0, 1) := by decide +kernel
theorem d4_19 : decode method_4_code 19 = .ok (.bipush 10, 2) := by decide +kernel
theorem d4_21 : decode method_4_code 21 = .ok (.if_icmp .ne 7, 3) := by decide +kernel
theorem d4_24 : decode method_4_code 24 = .ok (.iconst 1, 1) := by decide +kernel
theorem d4_25 : decode method_4_code 25 = .ok (.goto 4, 3) := by decide +kernel
theorem d4_28 : decode method_4_code 28 = .ok (.iconst 0, 1) := by decide +kernel
theorem d4_29 : decode method_4_code 29 = .ok (.ireturn, 1) := by decide +kernel
theorem pn_rm_isW : plainName "com/example/hidden_shift/hiddenshift/table/DirectCharactersContainsPinLaw" = true := by first | (simp [plainName, overriddenIn]; done) | decide +kernel
set_option maxRecDepth 65536 in
set_option maxHeartbeats 40000000 in
theorem rm_isW (l : Launch) (Z : State) (a0 : Array Value) (hw : ∀ d ∈ tables_1, d.before a0 Z = true) (x : Int32) (h0 : Heap) :
    OMeets l Z mn2 method_4_code 1 (some .boolean) [] ({ frames := 0, cells := 0, slots := 0, locals := 0 } : Room) #[(.int x)] h0 (PureQ (some (.int (fW x))) h0) := by
  refine OMeets.of pn_rm_isW #[.val (.int x)] (fun m => by first | rfl | (simp [entryFrame, mkF, argsToLocals, Value.category, maxLocals]; done)) ?_
  intro p e s m below meth c s₁ B X0 e0
  refine s_iloadN B X0 (pc' := 1) d4_0 rfl rfl ?_
  refine s_bipush B X0 (pc' := 3) (v := (32 : Int32)) d4_1 rfl rfl ?_
  refine b_icmp_eq B X0 (py := 24) (pn := 6) d4_3 (by decide) (by decide) rfl (fun hc3_1 => ?_) (fun hc3_1 => ?_)
  · refine s_iconst B X0 (pc' := 25) (v := (1 : Int32)) d4_24 rfl rfl ?_
    refine s_goto B X0 (pc' := 29) d4_25 (by decide) (by decide) ?_
    simp only [Int32.lt_iff_toInt_lt, ← Int32.toInt_inj, Int32.reduceToInt] at hc3_1
    exact r_nar B X0 (t := .boolean) (by simp) rfl d4_29 ⟨congrArg (fun z => some (Value.int z)) (show nar .boolean (1 : Int32) = fW x from (if_pos (by omega)).symm), rfl, e0⟩ (by decide) (by decide)
  · refine s_iloadN B X0 (pc' := 7) d4_6 rfl rfl ?_
    refine s_bipush B X0 (pc' := 9) (v := (9 : Int32)) d4_7 rfl rfl ?_
    refine b_icmp_eq B X0 (py := 24) (pn := 12) d4_9 (by decide) (by decide) rfl (fun hc9_2 => ?_) (fun hc9_2 => ?_)
    · refine s_iconst B X0 (pc' := 25) (v := (1 : Int32)) d4_24 rfl rfl ?_
      refine s_goto B X0 (pc' := 29) d4_25 (by decide) (by decide) ?_
      simp only [Int32.lt_iff_toInt_lt, ← Int32.toInt_inj, Int32.reduceToInt] at hc3_1 hc9_2
      exact r_nar B X0 (t := .boolean) (by simp) rfl d4_29 ⟨congrArg (fun z => some (Value.int z)) (show nar .boolean (1 : Int32) = fW x from (if_pos (by omega)).symm), rfl, e0⟩ (by decide) (by decide)
    · refine s_iloadN B X0 (pc' := 13) d4_12 rfl rfl ?_
      refine s_bipush B X0 (pc' := 15) (v := (13 : Int32)) d4_13 rfl rfl ?_
      refine b_icmp_eq B X0 (py := 24) (pn := 18) d4_15 (by decide) (by decide) rfl (fun hc15_3 => ?_) (fun hc15_3 => ?_)
      · refine s_iconst B X0 (pc' := 25) (v := (1 : Int32)) d4_24 rfl rfl ?_
        refine s_goto B X0 (pc' := 29) d4_25 (by decide) (by decide) ?_
        simp only [Int32.lt_iff_toInt_lt, ← Int32.toInt_inj, Int32.reduceToInt] at hc3_1 hc9_2 hc15_3
        exact r_nar B X0 (t := .boolean) (by simp) rfl d4_29 ⟨congrArg (fun z => some (Value.int z)) (show nar .boolean (1 : Int32) = fW x from (if_pos (by omega)).symm), rfl, e0⟩ (by decide) (by decide)
      · refine s_iloadN B X0 (pc' := 19) d4_18 rfl rfl ?_
        refine s_bipush B X0 (pc' := 21) (v := (10 : Int32)) d4_19 rfl rfl ?_
        refine b_icmp_ne B X0 (py := 28) (pn := 24) d4_21 (by decide) (by decide) rfl (fun hc21_4 => ?_) (fun hc21_4 => ?_)
        · refine s_iconst B X0 (pc' := 29) (v := (0 : Int32)) d4_28 rfl rfl ?_
          simp only [Int32.lt_iff_toInt_lt, ← Int32.toInt_inj, Int32.reduceToInt] at hc3_1 hc9_2 hc15_3 hc21_4
          exact r_nar B X0 (t := .boolean) (by simp) rfl d4_29 ⟨congrArg (fun z => some (Value.int z)) (show nar .boolean (0 : Int32) = fW x from (if_neg (by omega)).symm), rfl, e0⟩ (by decide) (by decide)
        · refine s_iconst B X0 (pc' := 25) (v := (1 : Int32)) d4_24 rfl rfl ?_
          refine s_goto B X0 (pc' := 29) d4_25 (by decide) (by decide) ?_
          simp only [Int32.lt_iff_toInt_lt, ← Int32.toInt_inj, Int32.reduceToInt] at hc3_1 hc9_2 hc15_3 hc21_4
          exact r_nar B X0 (t := .boolean) (by simp) rfl d4_29 ⟨congrArg (fun z => some (Value.int z)) (show nar .boolean (1 : Int32) = fW x from (if_pos (by omega)).symm), rfl, e0⟩ (by decide) (by decide)
theorem d2_0 : decode method_5_code 0 = .ok (.iload_n 1, 1) := by decide +kernel
theorem d2_1 : decode method_5_code 1 = .ok (.ifCond .lt 9, 3) := by decide +kernel
theorem d2_4 : decode method_5_code 4 = .ok (.iload_n 1, 1) := by decide +kernel
theorem d2_5 : decode method_5_code 5 = .ok (.bipush 127, 2) := by decide +kernel
theorem d2_7 : decode method_5_code 7 = .ok (.if_icmp .le 5, 3) := by decide +kernel
theorem d2_10 : decode method_5_code 10 = .ok (.iconst 0, 1) := by decide +kernel
theorem d2_11 : decode method_5_code 11 = .ok (.ireturn, 1) := by decide +kernel
theorem d2_12 : decode method_5_code 12 = .ok (.iload_n 0, 1) := by decide +kernel
theorem d2_13 : decode method_5_code 13 = .ok (.iconst 2, 1) := by decide +kernel
theorem d2_14 : decode method_5_code 14 = .ok (.if_icmp .ne 27, 3) := by decide +kernel
theorem d2_41 : decode method_5_code 41 = .ok (.iload_n 0, 1) := by decide +kernel
theorem d2_42 : decode method_5_code 42 = .ok (.ifCond .ne 23, 3) := by decide +kernel
theorem d2_45 : decode method_5_code 45 = .ok (.iload_n 1, 1) := by decide +kernel
theorem d2_46 : decode method_5_code 46 = .ok (.invokestatic 7, 3) := by decide +kernel
theorem d2_49 : decode method_5_code 49 = .ok (.ifCond .ne 10, 3) := by decide +kernel
theorem d2_52 : decode method_5_code 52 = .ok (.iload_n 1, 1) := by decide +kernel
theorem d2_53 : decode method_5_code 53 = .ok (.invokestatic 13, 3) := by decide +kernel
theorem d2_56 : decode method_5_code 56 = .ok (.ifCond .eq 7, 3) := by decide +kernel
theorem d2_59 : decode method_5_code 59 = .ok (.iconst 1, 1) := by decide +kernel
theorem d2_60 : decode method_5_code 60 = .ok (.goto 4, 3) := by decide +kernel
theorem d2_63 : decode method_5_code 63 = .ok (.iconst 0, 1) := by decide +kernel
theorem d2_64 : decode method_5_code 64 = .ok (.ireturn, 1) := by decide +kernel
theorem pn_rm_exp0 : plainName "com/example/hidden_shift/hiddenshift/table/DirectCharactersContainsPinLaw" = true := by first | (simp [plainName, overriddenIn]; done) | decide +kernel
set_option maxRecDepth 65536 in
set_option maxHeartbeats 40000000 in
theorem rm_exp0 (l : Launch) (Z : State) (a0 : Array Value) (hw : ∀ d ∈ tables_1, d.before a0 Z = true) (x : Int32) (h0 : Heap) :
    OMeets l Z mn3 method_5_code 2 (some .boolean) [] ({ frames := 1, cells := 0, slots := 0, locals := 16 } : Room) #[(.int (0 : Int32)), (.int x)] h0 (PureQ (some (.int (fE 0 x))) h0) := by
  refine OMeets.of pn_rm_exp0 #[.val (.int (0 : Int32)), .val (.int x)] (fun m => by first | rfl | (simp [entryFrame, mkF, argsToLocals, Value.category, maxLocals]; done)) ?_
  intro p e s m below meth c s₁ B X0 e0
  refine s_iloadN B X0 (pc' := 1) d2_0 rfl rfl ?_
  refine b_if_lt B X0 (py := 10) (pn := 4) d2_1 (by decide) (by decide) rfl (fun hc1_1 => ?_) (fun hc1_1 => ?_)
  · refine s_iconst B X0 (pc' := 11) (v := (0 : Int32)) d2_10 rfl rfl ?_
    exact r_nar B X0 (t := .boolean) (by simp) rfl d2_11 ⟨congrArg (fun z => some (Value.int z)) (show nar .boolean (0 : Int32) = fE 0 x from by simp [fE, nar, hc1_1]), rfl, e0⟩ (by decide) (by decide)
  · refine s_iloadN B X0 (pc' := 5) d2_4 rfl rfl ?_
    refine s_bipush B X0 (pc' := 7) (v := (127 : Int32)) d2_5 rfl rfl ?_
    refine b_icmp_le B X0 (py := 12) (pn := 10) d2_7 (by decide) (by decide) rfl (fun hc7_2 => ?_) (fun hc7_2 => ?_)
    · refine s_iloadN B X0 (pc' := 13) d2_12 rfl rfl ?_
      refine s_iconst B X0 (pc' := 14) (v := (2 : Int32)) d2_13 rfl rfl ?_
      refine s_icmpY B X0 (pc' := 41) d2_14 (by decide) (by decide) (by decide) ?_
      refine s_iloadN B X0 (pc' := 42) d2_41 rfl rfl ?_
      refine s_ifN B X0 (pc' := 45) d2_42 (by decide) rfl ?_
      refine s_iloadN B X0 (pc' := 46) d2_45 rfl rfl ?_
      refine p_static B X0 (y := mn0) (pc' := 49) (argsL := [(.int x)]) (under := []) (W := 0) e0 (tw15 hw) (tw16 hw) (tw17 hw) (tw13 hw) (by decide) (rm_isD l Z a0 hw x h0) (lenOf pd_0 rfl) rfl rfl (by decide) (by decide) rfl rfl (by decide) (by decide) rfl d2_46 rfl (fun T3 X3 e3 => ?_)
      show Go p e below _ (T3.setTop (mkF m 49 #[.val (.int (0 : Int32)), .val (.int x)] [(.int (fD x))]))
      refine b_if_ne B X3 (py := 59) (pn := 52) d2_49 (by decide) (by decide) rfl (fun hc49_4 => ?_) (fun hc49_4 => ?_)
      · refine s_iconst B X3 (pc' := 60) (v := (1 : Int32)) d2_59 rfl rfl ?_
        refine s_goto B X3 (pc' := 64) d2_60 (by decide) (by decide) ?_
        exact r_nar B X3 (t := .boolean) (by simp) rfl d2_64 ⟨congrArg (fun z => some (Value.int z)) (show nar .boolean (1 : Int32) = fE 0 x from by simp [fE, nar, hc1_1, hc7_2, hc49_4]), rfl, e3⟩ (by decide) (by decide)
      · refine s_iloadN B X3 (pc' := 53) d2_52 rfl rfl ?_
        refine p_static B X3 (y := mn2) (pc' := 56) (argsL := [(.int x)]) (under := []) (W := 0) e3 (tw18 hw) (tw19 hw) (tw20 hw) (tw13 hw) (by decide) (rm_isW l Z a0 hw x h0) (lenOf pd_0 rfl) rfl rfl (by decide) (by decide) rfl rfl (by decide) (by decide) rfl d2_53 rfl (fun T5 X5 e5 => ?_)
        show Go p e below _ (T5.setTop (mkF m 56 #[.val (.int (0 : Int32)), .val (.int x)] [(.int (fW x))]))
        refine b_if_eq B X5 (py := 63) (pn := 59) d2_56 (by decide) (by decide) rfl (fun hc56_6 => ?_) (fun hc56_6 => ?_)
        · refine s_iconst B X5 (pc' := 64) (v := (0 : Int32)) d2_63 rfl rfl ?_
          exact r_nar B X5 (t := .boolean) (by simp) rfl d2_64 ⟨congrArg (fun z => some (Value.int z)) (show nar .boolean (0 : Int32) = fE 0 x from by simp [fE, nar, hc1_1, hc7_2, hc49_4, hc56_6]), rfl, e5⟩ (by decide) (by decide)
        · refine s_iconst B X5 (pc' := 60) (v := (1 : Int32)) d2_59 rfl rfl ?_
          refine s_goto B X5 (pc' := 64) d2_60 (by decide) (by decide) ?_
          exact r_nar B X5 (t := .boolean) (by simp) rfl d2_64 ⟨congrArg (fun z => some (Value.int z)) (show nar .boolean (1 : Int32) = fE 0 x from by simp [fE, nar, hc1_1, hc7_2, hc49_4, hc56_6]), rfl, e5⟩ (by decide) (by decide)
    · refine s_iconst B X0 (pc' := 11) (v := (0 : Int32)) d2_10 rfl rfl ?_
      exact r_nar B X0 (t := .boolean) (by simp) rfl d2_11 ⟨congrArg (fun z => some (Value.int z)) (show nar .boolean (0 : Int32) = fE 0 x from by simp [fE, nar, hc1_1, hc7_2]), rfl, e0⟩ (by decide) (by decide)
theorem d2_65 : decode method_5_code 65 = .ok (.iload_n 1, 1) := by decide +kernel
theorem d2_66 : decode method_5_code 66 = .ok (.invokestatic 7, 3) := by decide +kernel
theorem d2_69 : decode method_5_code 69 = .ok (.ifCond .ne 17, 3) := by decide +kernel
theorem d2_72 : decode method_5_code 72 = .ok (.iload_n 1, 1) := by decide +kernel
theorem d2_73 : decode method_5_code 73 = .ok (.invokestatic 16, 3) := by decide +kernel
theorem d2_76 : decode method_5_code 76 = .ok (.ifCond .ne 10, 3) := by decide +kernel
theorem d2_79 : decode method_5_code 79 = .ok (.iload_n 1, 1) := by decide +kernel
theorem d2_80 : decode method_5_code 80 = .ok (.invokestatic 13, 3) := by decide +kernel
theorem d2_83 : decode method_5_code 83 = .ok (.ifCond .eq 7, 3) := by decide +kernel
theorem d2_86 : decode method_5_code 86 = .ok (.iconst 1, 1) := by decide +kernel
theorem d2_87 : decode method_5_code 87 = .ok (.goto 4, 3) := by decide +kernel
theorem d2_90 : decode method_5_code 90 = .ok (.iconst 0, 1) := by decide +kernel
theorem d2_91 : decode method_5_code 91 = .ok (.ireturn, 1) := by decide +kernel
theorem pn_rm_exp1 : plainName "com/example/hidden_shift/hiddenshift/table/DirectCharactersContainsPinLaw" = true := by first | (simp [plainName, overriddenIn]; done) | decide +kernel
set_option maxRecDepth 65536 in
set_option maxHeartbeats 40000000 in
theorem rm_exp1 (l : Launch) (Z : State) (a0 : Array Value) (hw : ∀ d ∈ tables_1, d.before a0 Z = true) (x : Int32) (h0 : Heap) :
    OMeets l Z mn3 method_5_code 2 (some .boolean) [] ({ frames := 1, cells := 0, slots := 0, locals := 16 } : Room) #[(.int (1 : Int32)), (.int x)] h0 (PureQ (some (.int (fE 1 x))) h0) := by
  refine OMeets.of pn_rm_exp1 #[.val (.int (1 : Int32)), .val (.int x)] (fun m => by first | rfl | (simp [entryFrame, mkF, argsToLocals, Value.category, maxLocals]; done)) ?_
  intro p e s m below meth c s₁ B X0 e0
  refine s_iloadN B X0 (pc' := 1) d2_0 rfl rfl ?_
  refine b_if_lt B X0 (py := 10) (pn := 4) d2_1 (by decide) (by decide) rfl (fun hc1_1 => ?_) (fun hc1_1 => ?_)
  · refine s_iconst B X0 (pc' := 11) (v := (0 : Int32)) d2_10 rfl rfl ?_
    exact r_nar B X0 (t := .boolean) (by simp) rfl d2_11 ⟨congrArg (fun z => some (Value.int z)) (show nar .boolean (0 : Int32) = fE 1 x from by simp [fE, nar, hc1_1]), rfl, e0⟩ (by decide) (by decide)
  · refine s_iloadN B X0 (pc' := 5) d2_4 rfl rfl ?_
    refine s_bipush B X0 (pc' := 7) (v := (127 : Int32)) d2_5 rfl rfl ?_
    refine b_icmp_le B X0 (py := 12) (pn := 10) d2_7 (by decide) (by decide) rfl (fun hc7_2 => ?_) (fun hc7_2 => ?_)
    · refine s_iloadN B X0 (pc' := 13) d2_12 rfl rfl ?_
      refine s_iconst B X0 (pc' := 14) (v := (2 : Int32)) d2_13 rfl rfl ?_
      refine s_icmpY B X0 (pc' := 41) d2_14 (by decide) (by decide) (by decide) ?_
      refine s_iloadN B X0 (pc' := 42) d2_41 rfl rfl ?_
      refine s_ifY B X0 (pc' := 65) d2_42 (by decide) (by decide) (by decide) ?_
      refine s_iloadN B X0 (pc' := 66) d2_65 rfl rfl ?_
      refine p_static B X0 (y := mn0) (pc' := 69) (argsL := [(.int x)]) (under := []) (W := 0) e0 (tw15 hw) (tw16 hw) (tw17 hw) (tw13 hw) (by decide) (rm_isD l Z a0 hw x h0) (lenOf pd_0 rfl) rfl rfl (by decide) (by decide) rfl rfl (by decide) (by decide) rfl d2_66 rfl (fun T3 X3 e3 => ?_)
      show Go p e below _ (T3.setTop (mkF m 69 #[.val (.int (1 : Int32)), .val (.int x)] [(.int (fD x))]))
      refine b_if_ne B X3 (py := 86) (pn := 72) d2_69 (by decide) (by decide) rfl (fun hc69_4 => ?_) (fun hc69_4 => ?_)
      · refine s_iconst B X3 (pc' := 87) (v := (1 : Int32)) d2_86 rfl rfl ?_
        refine s_goto B X3 (pc' := 91) d2_87 (by decide) (by decide) ?_
        exact r_nar B X3 (t := .boolean) (by simp) rfl d2_91 ⟨congrArg (fun z => some (Value.int z)) (show nar .boolean (1 : Int32) = fE 1 x from by simp [fE, nar, hc1_1, hc7_2, hc69_4]), rfl, e3⟩ (by decide) (by decide)
      · refine s_iloadN B X3 (pc' := 73) d2_72 rfl rfl ?_
        refine p_static B X3 (y := mn1) (pc' := 76) (argsL := [(.int x)]) (under := []) (W := 0) e3 (tw25 hw) (tw26 hw) (tw27 hw) (tw13 hw) (by decide) (rm_isO l Z a0 hw x h0) (lenOf pd_0 rfl) rfl rfl (by decide) (by decide) rfl rfl (by decide) (by decide) rfl d2_73 rfl (fun T5 X5 e5 => ?_)
        show Go p e below _ (T5.setTop (mkF m 76 #[.val (.int (1 : Int32)), .val (.int x)] [(.int (fO x))]))
        refine b_if_ne B X5 (py := 86) (pn := 79) d2_76 (by decide) (by decide) rfl (fun hc76_6 => ?_) (fun hc76_6 => ?_)
        · refine s_iconst B X5 (pc' := 87) (v := (1 : Int32)) d2_86 rfl rfl ?_
          refine s_goto B X5 (pc' := 91) d2_87 (by decide) (by decide) ?_
          exact r_nar B X5 (t := .boolean) (by simp) rfl d2_91 ⟨congrArg (fun z => some (Value.int z)) (show nar .boolean (1 : Int32) = fE 1 x from by simp [fE, nar, hc1_1, hc7_2, hc69_4, hc76_6]), rfl, e5⟩ (by decide) (by decide)
        · refine s_iloadN B X5 (pc' := 80) d2_79 rfl rfl ?_
          refine p_static B X5 (y := mn2) (pc' := 83) (argsL := [(.int x)]) (under := []) (W := 0) e5 (tw18 hw) (tw19 hw) (tw20 hw) (tw13 hw) (by decide) (rm_isW l Z a0 hw x h0) (lenOf pd_0 rfl) rfl rfl (by decide) (by decide) rfl rfl (by decide) (by decide) rfl d2_80 rfl (fun T7 X7 e7 => ?_)
          show Go p e below _ (T7.setTop (mkF m 83 #[.val (.int (1 : Int32)), .val (.int x)] [(.int (fW x))]))
          refine b_if_eq B X7 (py := 90) (pn := 86) d2_83 (by decide) (by decide) rfl (fun hc83_8 => ?_) (fun hc83_8 => ?_)
          · refine s_iconst B X7 (pc' := 91) (v := (0 : Int32)) d2_90 rfl rfl ?_
            exact r_nar B X7 (t := .boolean) (by simp) rfl d2_91 ⟨congrArg (fun z => some (Value.int z)) (show nar .boolean (0 : Int32) = fE 1 x from by simp [fE, nar, hc1_1, hc7_2, hc69_4, hc76_6, hc83_8]), rfl, e7⟩ (by decide) (by decide)
          · refine s_iconst B X7 (pc' := 87) (v := (1 : Int32)) d2_86 rfl rfl ?_
            refine s_goto B X7 (pc' := 91) d2_87 (by decide) (by decide) ?_
            exact r_nar B X7 (t := .boolean) (by simp) rfl d2_91 ⟨congrArg (fun z => some (Value.int z)) (show nar .boolean (1 : Int32) = fE 1 x from by simp [fE, nar, hc1_1, hc7_2, hc69_4, hc76_6, hc83_8]), rfl, e7⟩ (by decide) (by decide)
    · refine s_iconst B X0 (pc' := 11) (v := (0 : Int32)) d2_10 rfl rfl ?_
      exact r_nar B X0 (t := .boolean) (by simp) rfl d2_11 ⟨congrArg (fun z => some (Value.int z)) (show nar .boolean (0 : Int32) = fE 1 x from by simp [fE, nar, hc1_1, hc7_2]), rfl, e0⟩ (by decide) (by decide)
theorem d2_17 : decode method_5_code 17 = .ok (.iload_n 1, 1) := by decide +kernel
theorem d2_18 : decode method_5_code 18 = .ok (.bipush 32, 2) := by decide +kernel
theorem d2_20 : decode method_5_code 20 = .ok (.if_icmp .lt 19, 3) := by decide +kernel
theorem d2_23 : decode method_5_code 23 = .ok (.iload_n 1, 1) := by decide +kernel
theorem d2_24 : decode method_5_code 24 = .ok (.bipush 126, 2) := by decide +kernel
theorem d2_26 : decode method_5_code 26 = .ok (.if_icmp .gt 13, 3) := by decide +kernel
theorem d2_29 : decode method_5_code 29 = .ok (.iload_n 1, 1) := by decide +kernel
theorem d2_30 : decode method_5_code 30 = .ok (.bipush 38, 2) := by decide +kernel
theorem d2_32 : decode method_5_code 32 = .ok (.if_icmp .eq 7, 3) := by decide +kernel
theorem d2_35 : decode method_5_code 35 = .ok (.iconst 1, 1) := by decide +kernel
theorem d2_36 : decode method_5_code 36 = .ok (.goto 4, 3) := by decide +kernel
theorem d2_39 : decode method_5_code 39 = .ok (.iconst 0, 1) := by decide +kernel
theorem d2_40 : decode method_5_code 40 = .ok (.ireturn, 1) := by decide +kernel
theorem pn_rm_exp2 : plainName "com/example/hidden_shift/hiddenshift/table/DirectCharactersContainsPinLaw" = true := by first | (simp [plainName, overriddenIn]; done) | decide +kernel
set_option maxRecDepth 65536 in
set_option maxHeartbeats 40000000 in
theorem rm_exp2 (l : Launch) (Z : State) (a0 : Array Value) (hw : ∀ d ∈ tables_1, d.before a0 Z = true) (x : Int32) (h0 : Heap) :
    OMeets l Z mn3 method_5_code 2 (some .boolean) [] ({ frames := 1, cells := 0, slots := 0, locals := 16 } : Room) #[(.int (2 : Int32)), (.int x)] h0 (PureQ (some (.int (fE 2 x))) h0) := by
  refine OMeets.of pn_rm_exp2 #[.val (.int (2 : Int32)), .val (.int x)] (fun m => by first | rfl | (simp [entryFrame, mkF, argsToLocals, Value.category, maxLocals]; done)) ?_
  intro p e s m below meth c s₁ B X0 e0
  refine s_iloadN B X0 (pc' := 1) d2_0 rfl rfl ?_
  refine b_if_lt B X0 (py := 10) (pn := 4) d2_1 (by decide) (by decide) rfl (fun hc1_1 => ?_) (fun hc1_1 => ?_)
  · refine s_iconst B X0 (pc' := 11) (v := (0 : Int32)) d2_10 rfl rfl ?_
    exact r_nar B X0 (t := .boolean) (by simp) rfl d2_11 ⟨congrArg (fun z => some (Value.int z)) (show nar .boolean (0 : Int32) = fE 2 x from by simp [fE, nar, hc1_1]), rfl, e0⟩ (by decide) (by decide)
  · refine s_iloadN B X0 (pc' := 5) d2_4 rfl rfl ?_
    refine s_bipush B X0 (pc' := 7) (v := (127 : Int32)) d2_5 rfl rfl ?_
    refine b_icmp_le B X0 (py := 12) (pn := 10) d2_7 (by decide) (by decide) rfl (fun hc7_2 => ?_) (fun hc7_2 => ?_)
    · refine s_iloadN B X0 (pc' := 13) d2_12 rfl rfl ?_
      refine s_iconst B X0 (pc' := 14) (v := (2 : Int32)) d2_13 rfl rfl ?_
      refine s_icmpN B X0 (pc' := 17) d2_14 (by decide) rfl ?_
      refine s_iloadN B X0 (pc' := 18) d2_17 rfl rfl ?_
      refine s_bipush B X0 (pc' := 20) (v := (32 : Int32)) d2_18 rfl rfl ?_
      refine b_icmp_lt B X0 (py := 39) (pn := 23) d2_20 (by decide) (by decide) rfl (fun hc20_3 => ?_) (fun hc20_3 => ?_)
      · refine s_iconst B X0 (pc' := 40) (v := (0 : Int32)) d2_39 rfl rfl ?_
        exact r_nar B X0 (t := .boolean) (by simp) rfl d2_40 ⟨congrArg (fun z => some (Value.int z)) (show nar .boolean (0 : Int32) = fE 2 x from by simp [fE, nar, hc1_1, hc7_2, hc20_3]), rfl, e0⟩ (by decide) (by decide)
      · refine s_iloadN B X0 (pc' := 24) d2_23 rfl rfl ?_
        refine s_bipush B X0 (pc' := 26) (v := (126 : Int32)) d2_24 rfl rfl ?_
        refine b_icmp_gt B X0 (py := 39) (pn := 29) d2_26 (by decide) (by decide) rfl (fun hc26_4 => ?_) (fun hc26_4 => ?_)
        · refine s_iconst B X0 (pc' := 40) (v := (0 : Int32)) d2_39 rfl rfl ?_
          exact r_nar B X0 (t := .boolean) (by simp) rfl d2_40 ⟨congrArg (fun z => some (Value.int z)) (show nar .boolean (0 : Int32) = fE 2 x from by simp [fE, nar, hc1_1, hc7_2, hc20_3, hc26_4]), rfl, e0⟩ (by decide) (by decide)
        · refine s_iloadN B X0 (pc' := 30) d2_29 rfl rfl ?_
          refine s_bipush B X0 (pc' := 32) (v := (38 : Int32)) d2_30 rfl rfl ?_
          refine b_icmp_eq B X0 (py := 39) (pn := 35) d2_32 (by decide) (by decide) rfl (fun hc32_5 => ?_) (fun hc32_5 => ?_)
          · refine s_iconst B X0 (pc' := 40) (v := (0 : Int32)) d2_39 rfl rfl ?_
            exact r_nar B X0 (t := .boolean) (by simp) rfl d2_40 ⟨congrArg (fun z => some (Value.int z)) (show nar .boolean (0 : Int32) = fE 2 x from by simp [fE, nar, hc1_1, hc7_2, hc20_3, hc26_4, hc32_5]), rfl, e0⟩ (by decide) (by decide)
          · refine s_iconst B X0 (pc' := 36) (v := (1 : Int32)) d2_35 rfl rfl ?_
            refine s_goto B X0 (pc' := 40) d2_36 (by decide) (by decide) ?_
            exact r_nar B X0 (t := .boolean) (by simp) rfl d2_40 ⟨congrArg (fun z => some (Value.int z)) (show nar .boolean (1 : Int32) = fE 2 x from by simp [fE, nar, hc1_1, hc7_2, hc20_3, hc26_4, hc32_5]), rfl, e0⟩ (by decide) (by decide)
    · refine s_iconst B X0 (pc' := 11) (v := (0 : Int32)) d2_10 rfl rfl ?_
      exact r_nar B X0 (t := .boolean) (by simp) rfl d2_11 ⟨congrArg (fun z => some (Value.int z)) (show nar .boolean (0 : Int32) = fE 2 x from by simp [fE, nar, hc1_1, hc7_2]), rfl, e0⟩ (by decide) (by decide)
theorem own_tn {x : Int32} (h0 : ¬ x < 0) (h1 : x < 128) : x.toNatClampNeg < 128 := by
  have e0 : 0 ≤ x.toInt := by simpa [Int32.lt_iff_toInt_lt] using h0
  have e1 : x.toInt < 128 := by simpa [Int32.lt_iff_toInt_lt] using h1
  simp only [Int32.toNatClampNeg]; omega
theorem d1_0 : decode prog_24_method_4_code 0 = .ok (.iload_n 1, 1) := by decide +kernel
theorem d1_1 : decode prog_24_method_4_code 1 = .ok (.ifCond .lt 25, 3) := by decide +kernel
theorem d1_4 : decode prog_24_method_4_code 4 = .ok (.iload_n 1, 1) := by decide +kernel
theorem d1_5 : decode prog_24_method_4_code 5 = .ok (.aload_n 0, 1) := by decide +kernel
theorem d1_6 : decode prog_24_method_4_code 6 = .ok (.getfield 32, 3) := by decide +kernel
theorem d1_9 : decode prog_24_method_4_code 9 = .ok (.arraylength, 1) := by decide +kernel
theorem d1_10 : decode prog_24_method_4_code 10 = .ok (.if_icmp .ge 16, 3) := by decide +kernel
theorem d1_13 : decode prog_24_method_4_code 13 = .ok (.aload_n 0, 1) := by decide +kernel
theorem d1_14 : decode prog_24_method_4_code 14 = .ok (.getfield 32, 3) := by decide +kernel
theorem d1_17 : decode prog_24_method_4_code 17 = .ok (.iload_n 1, 1) := by decide +kernel
theorem d1_18 : decode prog_24_method_4_code 18 = .ok (.baload, 1) := by decide +kernel
theorem d1_19 : decode prog_24_method_4_code 19 = .ok (.ifCond .eq 7, 3) := by decide +kernel
theorem d1_22 : decode prog_24_method_4_code 22 = .ok (.iconst 1, 1) := by decide +kernel
theorem d1_23 : decode prog_24_method_4_code 23 = .ok (.goto 4, 3) := by decide +kernel
theorem d1_26 : decode prog_24_method_4_code 26 = .ok (.iconst 0, 1) := by decide +kernel
theorem d1_27 : decode prog_24_method_4_code 27 = .ok (.ireturn, 1) := by decide +kernel
theorem pn_rm_con_MAIL_SAFE : plainName "com/example/hidden_shift/hiddenshift/table/DirectCharacters" = true := by first | (simp [plainName, overriddenIn]; done) | decide +kernel
set_option maxRecDepth 65536 in
set_option maxHeartbeats 40000000 in
theorem rm_con_MAIL_SAFE (l : Launch) (Z : State) (a0 : Array Value) (hw : ∀ d ∈ tables_1, d.before a0 Z = true) (x : Int32) (w_MAIL_SAFE w_IMAP w_WITH_OPTIONAL w_MAIL_SAFE_direct w_IMAP_direct w_WITH_OPTIONAL_direct : Addr) (h0 : Heap) (F0 : OwnF Z h0 w_MAIL_SAFE w_IMAP w_WITH_OPTIONAL w_MAIL_SAFE_direct w_IMAP_direct w_WITH_OPTIONAL_direct) :
    OMeets l Z mn4 prog_24_method_4_code 2 (some .boolean) [] ({ frames := 0, cells := 0, slots := 0, locals := 0 } : Room) #[(.ref w_MAIL_SAFE), (.int x)] h0 (PureQ (some (.int (fC tb_MAIL_SAFE x))) h0) := by
  refine OMeets.of pn_rm_con_MAIL_SAFE #[.val (.ref w_MAIL_SAFE), .val (.int x)] (fun m => by first | rfl | (simp [entryFrame, mkF, argsToLocals, Value.category, maxLocals]; done)) ?_
  intro p e s m below meth c s₁ B X0 e0
  have F := F0
  obtain ⟨S_MAIL_SAFE, E_MAIL_SAFE, S_IMAP, E_IMAP, S_WITH_OPTIONAL, E_WITH_OPTIONAL, F_MAIL_SAFE_direct, F_IMAP_direct, F_WITH_OPTIONAL_direct, T_MAIL_SAFE_direct, T_IMAP_direct, T_WITH_OPTIONAL_direct⟩ := F
  obtain ⟨kT, AT⟩ := T_MAIL_SAFE_direct
  refine s_iloadN B X0 (pc' := 1) d1_0 rfl rfl ?_
  refine b_if_lt B X0 (py := 26) (pn := 4) d1_1 (by decide) (by decide) rfl (fun hc1_1 => ?_) (fun hc1_1 => ?_)
  · refine s_iconst B X0 (pc' := 27) (v := (0 : Int32)) d1_26 rfl rfl ?_
    exact r_nar B X0 (t := .boolean) (by simp) rfl d1_27 ⟨congrArg (fun z => some (Value.int z)) (show nar .boolean (0 : Int32) = fC tb_MAIL_SAFE x from by simp [fC, nar, hc1_1]), rfl, e0⟩ (by decide) (by decide)
  · refine s_iloadN B X0 (pc' := 5) d1_4 rfl rfl ?_
    refine s_aloadN B X0 (pc' := 6) d1_5 rfl rfl rfl ?_
    refine s_getF B X0 (pc' := 9) e0 (host := "") (Or.inl (tw9 hw)) Via.refl F_MAIL_SAFE_direct d1_6 rfl (fun T2 X2 e2 => ?_)
    refine s_len B X2 (pc' := 10) (v := (128 : Int32)) e2 AT rfl d1_9 rfl ?_
    refine b_icmp_ge B X2 (py := 26) (pn := 13) d1_10 (by decide) (by decide) rfl (fun hc10_3 => ?_) (fun hc10_3 => ?_)
    · refine s_iconst B X2 (pc' := 27) (v := (0 : Int32)) d1_26 rfl rfl ?_
      exact r_nar B X2 (t := .boolean) (by simp) rfl d1_27 ⟨congrArg (fun z => some (Value.int z)) (show nar .boolean (0 : Int32) = fC tb_MAIL_SAFE x from by simp [fC, nar, hc1_1, hc10_3]), rfl, e2⟩ (by decide) (by decide)
    · refine s_aloadN B X2 (pc' := 14) d1_13 rfl rfl rfl ?_
      refine s_getF B X2 (pc' := 17) e2 (host := "") (Or.inl (tw9 hw)) Via.refl F_MAIL_SAFE_direct d1_14 rfl (fun T4 X4 e4 => ?_)
      refine s_iloadN B X4 (pc' := 18) d1_17 rfl rfl ?_
      refine s_ldZ B X4 (pc' := 19) (jn := x.toNatClampNeg) (v := (.int (tb_MAIL_SAFE x.toNatClampNeg))) e4 AT hc1_1 rfl (own_tn hc1_1 hc10_3) rfl d1_18 rfl ?_
      refine b_if_eq B X4 (py := 26) (pn := 22) d1_19 (by decide) (by decide) rfl (fun hc19_5 => ?_) (fun hc19_5 => ?_)
      · refine s_iconst B X4 (pc' := 27) (v := (0 : Int32)) d1_26 rfl rfl ?_
        exact r_nar B X4 (t := .boolean) (by simp) rfl d1_27 ⟨congrArg (fun z => some (Value.int z)) (show nar .boolean (0 : Int32) = fC tb_MAIL_SAFE x from by simp [fC, nar, hc1_1, hc10_3, hc19_5]), rfl, e4⟩ (by decide) (by decide)
      · refine s_iconst B X4 (pc' := 23) (v := (1 : Int32)) d1_22 rfl rfl ?_
        refine s_goto B X4 (pc' := 27) d1_23 (by decide) (by decide) ?_
        exact r_nar B X4 (t := .boolean) (by simp) rfl d1_27 ⟨congrArg (fun z => some (Value.int z)) (show nar .boolean (1 : Int32) = fC tb_MAIL_SAFE x from by simp [fC, nar, hc1_1, hc10_3, hc19_5]), rfl, e4⟩ (by decide) (by decide)

theorem pn_rm_con_WITH_OPTIONAL : plainName "com/example/hidden_shift/hiddenshift/table/DirectCharacters" = true := by first | (simp [plainName, overriddenIn]; done) | decide +kernel
set_option maxRecDepth 65536 in
set_option maxHeartbeats 40000000 in
theorem rm_con_WITH_OPTIONAL (l : Launch) (Z : State) (a0 : Array Value) (hw : ∀ d ∈ tables_1, d.before a0 Z = true) (x : Int32) (w_MAIL_SAFE w_IMAP w_WITH_OPTIONAL w_MAIL_SAFE_direct w_IMAP_direct w_WITH_OPTIONAL_direct : Addr) (h0 : Heap) (F0 : OwnF Z h0 w_MAIL_SAFE w_IMAP w_WITH_OPTIONAL w_MAIL_SAFE_direct w_IMAP_direct w_WITH_OPTIONAL_direct) :
    OMeets l Z mn4 prog_24_method_4_code 2 (some .boolean) [] ({ frames := 0, cells := 0, slots := 0, locals := 0 } : Room) #[(.ref w_WITH_OPTIONAL), (.int x)] h0 (PureQ (some (.int (fC tb_WITH_OPTIONAL x))) h0) := by
  refine OMeets.of pn_rm_con_WITH_OPTIONAL #[.val (.ref w_WITH_OPTIONAL), .val (.int x)] (fun m => by first | rfl | (simp [entryFrame, mkF, argsToLocals, Value.category, maxLocals]; done)) ?_
  intro p e s m below meth c s₁ B X0 e0
  have F := F0
  obtain ⟨S_MAIL_SAFE, E_MAIL_SAFE, S_IMAP, E_IMAP, S_WITH_OPTIONAL, E_WITH_OPTIONAL, F_MAIL_SAFE_direct, F_IMAP_direct, F_WITH_OPTIONAL_direct, T_MAIL_SAFE_direct, T_IMAP_direct, T_WITH_OPTIONAL_direct⟩ := F
  obtain ⟨kT, AT⟩ := T_WITH_OPTIONAL_direct
  refine s_iloadN B X0 (pc' := 1) d1_0 rfl rfl ?_
  refine b_if_lt B X0 (py := 26) (pn := 4) d1_1 (by decide) (by decide) rfl (fun hc1_1 => ?_) (fun hc1_1 => ?_)
  · refine s_iconst B X0 (pc' := 27) (v := (0 : Int32)) d1_26 rfl rfl ?_
    exact r_nar B X0 (t := .boolean) (by simp) rfl d1_27 ⟨congrArg (fun z => some (Value.int z)) (show nar .boolean (0 : Int32) = fC tb_WITH_OPTIONAL x from by simp [fC, nar, hc1_1]), rfl, e0⟩ (by decide) (by decide)
  · refine s_iloadN B X0 (pc' := 5) d1_4 rfl rfl ?_
    refine s_aloadN B X0 (pc' := 6) d1_5 rfl rfl rfl ?_
    refine s_getF B X0 (pc' := 9) e0 (host := "") (Or.inl (tw9 hw)) Via.refl F_WITH_OPTIONAL_direct d1_6 rfl (fun T2 X2 e2 => ?_)
    refine s_len B X2 (pc' := 10) (v := (128 : Int32)) e2 AT rfl d1_9 rfl ?_
    refine b_icmp_ge B X2 (py := 26) (pn := 13) d1_10 (by decide) (by decide) rfl (fun hc10_3 => ?_) (fun hc10_3 => ?_)
    · refine s_iconst B X2 (pc' := 27) (v := (0 : Int32)) d1_26 rfl rfl ?_
      exact r_nar B X2 (t := .boolean) (by simp) rfl d1_27 ⟨congrArg (fun z => some (Value.int z)) (show nar .boolean (0 : Int32) = fC tb_WITH_OPTIONAL x from by simp [fC, nar, hc1_1, hc10_3]), rfl, e2⟩ (by decide) (by decide)
    · refine s_aloadN B X2 (pc' := 14) d1_13 rfl rfl rfl ?_
      refine s_getF B X2 (pc' := 17) e2 (host := "") (Or.inl (tw9 hw)) Via.refl F_WITH_OPTIONAL_direct d1_14 rfl (fun T4 X4 e4 => ?_)
      refine s_iloadN B X4 (pc' := 18) d1_17 rfl rfl ?_
      refine s_ldZ B X4 (pc' := 19) (jn := x.toNatClampNeg) (v := (.int (tb_WITH_OPTIONAL x.toNatClampNeg))) e4 AT hc1_1 rfl (own_tn hc1_1 hc10_3) rfl d1_18 rfl ?_
      refine b_if_eq B X4 (py := 26) (pn := 22) d1_19 (by decide) (by decide) rfl (fun hc19_5 => ?_) (fun hc19_5 => ?_)
      · refine s_iconst B X4 (pc' := 27) (v := (0 : Int32)) d1_26 rfl rfl ?_
        exact r_nar B X4 (t := .boolean) (by simp) rfl d1_27 ⟨congrArg (fun z => some (Value.int z)) (show nar .boolean (0 : Int32) = fC tb_WITH_OPTIONAL x from by simp [fC, nar, hc1_1, hc10_3, hc19_5]), rfl, e4⟩ (by decide) (by decide)
      · refine s_iconst B X4 (pc' := 23) (v := (1 : Int32)) d1_22 rfl rfl ?_
        refine s_goto B X4 (pc' := 27) d1_23 (by decide) (by decide) ?_
        exact r_nar B X4 (t := .boolean) (by simp) rfl d1_27 ⟨congrArg (fun z => some (Value.int z)) (show nar .boolean (1 : Int32) = fC tb_WITH_OPTIONAL x from by simp [fC, nar, hc1_1, hc10_3, hc19_5]), rfl, e4⟩ (by decide) (by decide)

theorem pn_rm_con_IMAP : plainName "com/example/hidden_shift/hiddenshift/table/DirectCharacters" = true := by first | (simp [plainName, overriddenIn]; done) | decide +kernel
set_option maxRecDepth 65536 in
set_option maxHeartbeats 40000000 in
theorem rm_con_IMAP (l : Launch) (Z : State) (a0 : Array Value) (hw : ∀ d ∈ tables_1, d.before a0 Z = true) (x : Int32) (w_MAIL_SAFE w_IMAP w_WITH_OPTIONAL w_MAIL_SAFE_direct w_IMAP_direct w_WITH_OPTIONAL_direct : Addr) (h0 : Heap) (F0 : OwnF Z h0 w_MAIL_SAFE w_IMAP w_WITH_OPTIONAL w_MAIL_SAFE_direct w_IMAP_direct w_WITH_OPTIONAL_direct) :
    OMeets l Z mn4 prog_24_method_4_code 2 (some .boolean) [] ({ frames := 0, cells := 0, slots := 0, locals := 0 } : Room) #[(.ref w_IMAP), (.int x)] h0 (PureQ (some (.int (fC tb_IMAP x))) h0) := by
  refine OMeets.of pn_rm_con_IMAP #[.val (.ref w_IMAP), .val (.int x)] (fun m => by first | rfl | (simp [entryFrame, mkF, argsToLocals, Value.category, maxLocals]; done)) ?_
  intro p e s m below meth c s₁ B X0 e0
  have F := F0
  obtain ⟨S_MAIL_SAFE, E_MAIL_SAFE, S_IMAP, E_IMAP, S_WITH_OPTIONAL, E_WITH_OPTIONAL, F_MAIL_SAFE_direct, F_IMAP_direct, F_WITH_OPTIONAL_direct, T_MAIL_SAFE_direct, T_IMAP_direct, T_WITH_OPTIONAL_direct⟩ := F
  obtain ⟨kT, AT⟩ := T_IMAP_direct
  refine s_iloadN B X0 (pc' := 1) d1_0 rfl rfl ?_
  refine b_if_lt B X0 (py := 26) (pn := 4) d1_1 (by decide) (by decide) rfl (fun hc1_1 => ?_) (fun hc1_1 => ?_)
  · refine s_iconst B X0 (pc' := 27) (v := (0 : Int32)) d1_26 rfl rfl ?_
    exact r_nar B X0 (t := .boolean) (by simp) rfl d1_27 ⟨congrArg (fun z => some (Value.int z)) (show nar .boolean (0 : Int32) = fC tb_IMAP x from by simp [fC, nar, hc1_1]), rfl, e0⟩ (by decide) (by decide)
  · refine s_iloadN B X0 (pc' := 5) d1_4 rfl rfl ?_
    refine s_aloadN B X0 (pc' := 6) d1_5 rfl rfl rfl ?_
    refine s_getF B X0 (pc' := 9) e0 (host := "") (Or.inl (tw9 hw)) Via.refl F_IMAP_direct d1_6 rfl (fun T2 X2 e2 => ?_)
    refine s_len B X2 (pc' := 10) (v := (128 : Int32)) e2 AT rfl d1_9 rfl ?_
    refine b_icmp_ge B X2 (py := 26) (pn := 13) d1_10 (by decide) (by decide) rfl (fun hc10_3 => ?_) (fun hc10_3 => ?_)
    · refine s_iconst B X2 (pc' := 27) (v := (0 : Int32)) d1_26 rfl rfl ?_
      exact r_nar B X2 (t := .boolean) (by simp) rfl d1_27 ⟨congrArg (fun z => some (Value.int z)) (show nar .boolean (0 : Int32) = fC tb_IMAP x from by simp [fC, nar, hc1_1, hc10_3]), rfl, e2⟩ (by decide) (by decide)
    · refine s_aloadN B X2 (pc' := 14) d1_13 rfl rfl rfl ?_
      refine s_getF B X2 (pc' := 17) e2 (host := "") (Or.inl (tw9 hw)) Via.refl F_IMAP_direct d1_14 rfl (fun T4 X4 e4 => ?_)
      refine s_iloadN B X4 (pc' := 18) d1_17 rfl rfl ?_
      refine s_ldZ B X4 (pc' := 19) (jn := x.toNatClampNeg) (v := (.int (tb_IMAP x.toNatClampNeg))) e4 AT hc1_1 rfl (own_tn hc1_1 hc10_3) rfl d1_18 rfl ?_
      refine b_if_eq B X4 (py := 26) (pn := 22) d1_19 (by decide) (by decide) rfl (fun hc19_5 => ?_) (fun hc19_5 => ?_)
      · refine s_iconst B X4 (pc' := 27) (v := (0 : Int32)) d1_26 rfl rfl ?_
        exact r_nar B X4 (t := .boolean) (by simp) rfl d1_27 ⟨congrArg (fun z => some (Value.int z)) (show nar .boolean (0 : Int32) = fC tb_IMAP x from by simp [fC, nar, hc1_1, hc10_3, hc19_5]), rfl, e4⟩ (by decide) (by decide)
      · refine s_iconst B X4 (pc' := 23) (v := (1 : Int32)) d1_22 rfl rfl ?_
        refine s_goto B X4 (pc' := 27) d1_23 (by decide) (by decide) ?_
        exact r_nar B X4 (t := .boolean) (by simp) rfl d1_27 ⟨congrArg (fun z => some (Value.int z)) (show nar .boolean (1 : Int32) = fC tb_IMAP x from by simp [fC, nar, hc1_1, hc10_3, hc19_5]), rfl, e4⟩ (by decide) (by decide)
theorem own_rng3 {v : Int32} (h0 : 0 ≤ v.toInt) (h1 : v.toInt < 3) : v = 0 ∨ v = 1 ∨ v = 2 := by
  rcases (by omega : v.toInt = 0 ∨ v.toInt = 1 ∨ v.toInt = 2) with h | h | h
  · exact Or.inl (Int32.toInt_inj.mp (h.trans (by decide)))
  · exact Or.inr (Or.inl (Int32.toInt_inj.mp (h.trans (by decide))))
  · exact Or.inr (Or.inr ((Int32.toInt_inj.mp (h.trans (by decide)))))
theorem own_rem3 (x : Int32) : (x &&& 2147483647) % 3 = 0 ∨ (x &&& 2147483647) % 3 = 1 ∨ (x &&& 2147483647) % 3 = 2 := by
  have e := c_mask x 2147483647 31 (by decide) (by decide)
  have e2 := (c_irem (x &&& 2147483647) 3 3 (by decide)).1 (by rw [e]; omega)
  exact own_rng3 (by rw [e2]; omega) (by rw [e2]; omega)

theorem pn_rm_law : plainName "com/example/hidden_shift/hiddenshift/table/DirectCharactersContainsPinLaw" = true := by first | (simp [plainName, overriddenIn]; done) | decide +kernel
set_option maxRecDepth 65536 in
set_option maxHeartbeats 40000000 in
theorem rm_law (l : Launch) (Z : State) (a0 : Array Value) (hw : ∀ d ∈ tables_1, d.before a0 Z = true) (i0 : Int32) (i1 : Int32) (w_MAIL_SAFE w_IMAP w_WITH_OPTIONAL w_MAIL_SAFE_direct w_IMAP_direct w_WITH_OPTIONAL_direct : Addr) (F0 : OwnF Z Z.heap w_MAIL_SAFE w_IMAP w_WITH_OPTIONAL w_MAIL_SAFE_direct w_IMAP_direct w_WITH_OPTIONAL_direct) :
    OMeets l Z x code maxLocals ret tables_1 room_1 #[(.int i0), (.int i1)] Z.heap (fun v h L => v = some (.int 1) ∧ Fr Z.heap.size L) := by
  refine OMeets.of pn_rm_law #[.val (.int i0), .val (.int i1), .unset, .unset, .unset, .unset, .unset, .unset, .unset] (fun m => by first | rfl | (simp [entryFrame, mkF, argsToLocals, Value.category, maxLocals]; done)) ?_
  intro p e s m below meth c s₁ B X0 e0
  have F := F0
  obtain ⟨S_MAIL_SAFE, E_MAIL_SAFE, S_IMAP, E_IMAP, S_WITH_OPTIONAL, E_WITH_OPTIONAL, F_MAIL_SAFE_direct, F_IMAP_direct, F_WITH_OPTIONAL_direct, T_MAIL_SAFE_direct, T_IMAP_direct, T_WITH_OPTIONAL_direct⟩ := F
  rcases own_rem3 i0 with hv1 | hv1 | hv1
  · refine s_iloadN B X0 (pc' := 1) at_0 rfl rfl ?_
    refine s_ldc B X0 (pc' := 3) (v := (2147483647 : Int32)) (tw0 hw) at_1 rfl ?_
    refine s_iand B X0 (pc' := 4) (v := (i0 &&& (2147483647 : Int32))) at_3 rfl rfl ?_
    refine s_iconst B X0 (pc' := 5) (v := (3 : Int32)) at_4 rfl rfl ?_
    refine s_irem B X0 (pc' := 6) (v := (0 : Int32)) at_5 (hv1) (by decide) rfl ?_
    refine s_istoreN B X0 (pc' := 7) (Ls' := #[.val (.int i0), .val (.int i1), .val (.int (0 : Int32)), .unset, .unset, .unset, .unset, .unset, .unset]) at_6 rfl rfl ?_
    refine s_iloadN B X0 (pc' := 8) at_7 rfl rfl ?_
    refine s_ifN B X0 (pc' := 11) at_8 (by decide) rfl ?_
    refine s_getS B X0 (pc' := 14) e0 (tw1 hw) Via.refl S_MAIL_SAFE at_11 rfl (fun T2 X2 e2 => ?_)
    refine s_astoreN B X2 (pc' := 15) (Ls' := #[.val (.int i0), .val (.int i1), .val (.int (0 : Int32)), .val (.ref w_MAIL_SAFE), .unset, .unset, .unset, .unset, .unset]) at_14 rfl rfl rfl ?_
    refine s_goto B X2 (pc' := 34) at_15 (by decide) (by decide) ?_
    refine s_iloadN B X2 (pc' := 35) at_34 rfl rfl ?_
    refine s_bipush B X2 (pc' := 37) (v := (127 : Int32)) at_35 rfl rfl ?_
    refine s_iand B X2 (pc' := 38) (v := (i1 &&& (127 : Int32))) at_37 rfl rfl ?_
    refine s_istore B X2 (pc' := 40) (Ls' := #[.val (.int i0), .val (.int i1), .val (.int (0 : Int32)), .val (.ref w_MAIL_SAFE), .val (.int (i1 &&& (127 : Int32))), .unset, .unset, .unset, .unset]) at_38 rfl rfl ?_
    refine s_iloadN B X2 (pc' := 41) at_40 rfl rfl ?_
    refine s_i2b B X2 (pc' := 42) (v := i1.toInt8.toInt32) at_41 rfl rfl ?_
    refine s_istore B X2 (pc' := 44) (Ls' := #[.val (.int i0), .val (.int i1), .val (.int (0 : Int32)), .val (.ref w_MAIL_SAFE), .val (.int (i1 &&& (127 : Int32))), .val (.int i1.toInt8.toInt32), .unset, .unset, .unset]) at_42 rfl rfl ?_
    refine s_aloadN B X2 (pc' := 45) at_44 rfl rfl rfl ?_
    refine s_iloadN B X2 (pc' := 46) at_45 rfl rfl ?_
    refine p_virtual B X2 (y := mn4) (pc' := 49) (argsL := [(.int i1)]) (under := []) (W := 0) e2 (tw4 hw) (tw5 hw) (tw7 hw) (tw6 hw) (tw8 hw) (tw2 hw) (by decide) (rm_con_MAIL_SAFE l Z a0 hw i1 w_MAIL_SAFE w_IMAP w_WITH_OPTIONAL w_MAIL_SAFE_direct w_IMAP_direct w_WITH_OPTIONAL_direct Z.heap F0) E_MAIL_SAFE (lenOf pd_0 rfl) rfl rfl (by decide) (by decide) rfl rfl (by decide) (by decide) rfl at_46 rfl (fun T3 X3 e3 => ?_)
    show Go p e below _ (T3.setTop (mkF m 49 #[.val (.int i0), .val (.int i1), .val (.int (0 : Int32)), .val (.ref w_MAIL_SAFE), .val (.int (i1 &&& (127 : Int32))), .val (.int i1.toInt8.toInt32), .unset, .unset, .unset] [(.int (fC tb_MAIL_SAFE i1))]))
    refine s_iloadN B X3 (pc' := 50) at_49 rfl rfl ?_
    refine s_iloadN B X3 (pc' := 51) at_50 rfl rfl ?_
    refine p_static B X3 (y := mn3) (pc' := 54) (argsL := [(.int (0 : Int32)), (.int i1)]) (under := [(.int (fC tb_MAIL_SAFE i1))]) (W := 1) e3 (tw11 hw) (tw12 hw) (tw14 hw) (tw13 hw) (by decide) (rm_exp0 l Z a0 hw i1 Z.heap) (lenOf pd_1 rfl) rfl rfl (by decide) (by decide) rfl rfl (by decide) (by decide) rfl at_51 rfl (fun T4 X4 e4 => ?_)
    show Go p e below _ (T4.setTop (mkF m 54 #[.val (.int i0), .val (.int i1), .val (.int (0 : Int32)), .val (.ref w_MAIL_SAFE), .val (.int (i1 &&& (127 : Int32))), .val (.int i1.toInt8.toInt32), .unset, .unset, .unset] [(.int (fE 0 i1)), (.int (fC tb_MAIL_SAFE i1))]))
    refine b_icmp_ne B X4 (py := 61) (pn := 57) at_54 (by decide) (by decide) rfl (fun q => absurd (own_same0 i1) q) (fun _ => ?_)
    refine s_iconst B X4 (pc' := 58) (v := (1 : Int32)) at_57 rfl rfl ?_
    refine s_goto B X4 (pc' := 62) at_58 (by decide) (by decide) ?_
    refine s_istore B X4 (pc' := 64) (Ls' := #[.val (.int i0), .val (.int i1), .val (.int (0 : Int32)), .val (.ref w_MAIL_SAFE), .val (.int (i1 &&& (127 : Int32))), .val (.int i1.toInt8.toInt32), .val (.int (1 : Int32)), .unset, .unset]) at_62 rfl rfl ?_
    refine s_aloadN B X4 (pc' := 65) at_64 rfl rfl rfl ?_
    refine s_iload B X4 (pc' := 67) at_65 rfl rfl ?_
    refine p_virtual B X4 (y := mn4) (pc' := 70) (argsL := [(.int (i1 &&& (127 : Int32)))]) (under := []) (W := 0) e4 (tw4 hw) (tw5 hw) (tw7 hw) (tw6 hw) (tw8 hw) (tw2 hw) (by decide) (rm_con_MAIL_SAFE l Z a0 hw (i1 &&& (127 : Int32)) w_MAIL_SAFE w_IMAP w_WITH_OPTIONAL w_MAIL_SAFE_direct w_IMAP_direct w_WITH_OPTIONAL_direct Z.heap F0) E_MAIL_SAFE (lenOf pd_0 rfl) rfl rfl (by decide) (by decide) rfl rfl (by decide) (by decide) rfl at_67 rfl (fun T5 X5 e5 => ?_)
    show Go p e below _ (T5.setTop (mkF m 70 #[.val (.int i0), .val (.int i1), .val (.int (0 : Int32)), .val (.ref w_MAIL_SAFE), .val (.int (i1 &&& (127 : Int32))), .val (.int i1.toInt8.toInt32), .val (.int (1 : Int32)), .unset, .unset] [(.int (fC tb_MAIL_SAFE (i1 &&& (127 : Int32))))]))
    refine s_iloadN B X5 (pc' := 71) at_70 rfl rfl ?_
    refine s_iload B X5 (pc' := 73) at_71 rfl rfl ?_
    refine p_static B X5 (y := mn3) (pc' := 76) (argsL := [(.int (0 : Int32)), (.int (i1 &&& (127 : Int32)))]) (under := [(.int (fC tb_MAIL_SAFE (i1 &&& (127 : Int32))))]) (W := 1) e5 (tw11 hw) (tw12 hw) (tw14 hw) (tw13 hw) (by decide) (rm_exp0 l Z a0 hw (i1 &&& (127 : Int32)) Z.heap) (lenOf pd_1 rfl) rfl rfl (by decide) (by decide) rfl rfl (by decide) (by decide) rfl at_73 rfl (fun T6 X6 e6 => ?_)
    show Go p e below _ (T6.setTop (mkF m 76 #[.val (.int i0), .val (.int i1), .val (.int (0 : Int32)), .val (.ref w_MAIL_SAFE), .val (.int (i1 &&& (127 : Int32))), .val (.int i1.toInt8.toInt32), .val (.int (1 : Int32)), .unset, .unset] [(.int (fE 0 (i1 &&& (127 : Int32)))), (.int (fC tb_MAIL_SAFE (i1 &&& (127 : Int32))))]))
    refine b_icmp_ne B X6 (py := 83) (pn := 79) at_76 (by decide) (by decide) rfl (fun q => absurd (own_same0 (i1 &&& (127 : Int32))) q) (fun _ => ?_)
    refine s_iconst B X6 (pc' := 80) (v := (1 : Int32)) at_79 rfl rfl ?_
    refine s_goto B X6 (pc' := 84) at_80 (by decide) (by decide) ?_
    refine s_istore B X6 (pc' := 86) (Ls' := #[.val (.int i0), .val (.int i1), .val (.int (0 : Int32)), .val (.ref w_MAIL_SAFE), .val (.int (i1 &&& (127 : Int32))), .val (.int i1.toInt8.toInt32), .val (.int (1 : Int32)), .val (.int (1 : Int32)), .unset]) at_84 rfl rfl ?_
    refine s_aloadN B X6 (pc' := 87) at_86 rfl rfl rfl ?_
    refine s_iload B X6 (pc' := 89) at_87 rfl rfl ?_
    refine p_virtual B X6 (y := mn4) (pc' := 92) (argsL := [(.int i1.toInt8.toInt32)]) (under := []) (W := 0) e6 (tw4 hw) (tw5 hw) (tw7 hw) (tw6 hw) (tw8 hw) (tw2 hw) (by decide) (rm_con_MAIL_SAFE l Z a0 hw i1.toInt8.toInt32 w_MAIL_SAFE w_IMAP w_WITH_OPTIONAL w_MAIL_SAFE_direct w_IMAP_direct w_WITH_OPTIONAL_direct Z.heap F0) E_MAIL_SAFE (lenOf pd_0 rfl) rfl rfl (by decide) (by decide) rfl rfl (by decide) (by decide) rfl at_89 rfl (fun T7 X7 e7 => ?_)
    show Go p e below _ (T7.setTop (mkF m 92 #[.val (.int i0), .val (.int i1), .val (.int (0 : Int32)), .val (.ref w_MAIL_SAFE), .val (.int (i1 &&& (127 : Int32))), .val (.int i1.toInt8.toInt32), .val (.int (1 : Int32)), .val (.int (1 : Int32)), .unset] [(.int (fC tb_MAIL_SAFE i1.toInt8.toInt32))]))
    refine s_iloadN B X7 (pc' := 93) at_92 rfl rfl ?_
    refine s_iload B X7 (pc' := 95) at_93 rfl rfl ?_
    refine p_static B X7 (y := mn3) (pc' := 98) (argsL := [(.int (0 : Int32)), (.int i1.toInt8.toInt32)]) (under := [(.int (fC tb_MAIL_SAFE i1.toInt8.toInt32))]) (W := 1) e7 (tw11 hw) (tw12 hw) (tw14 hw) (tw13 hw) (by decide) (rm_exp0 l Z a0 hw i1.toInt8.toInt32 Z.heap) (lenOf pd_1 rfl) rfl rfl (by decide) (by decide) rfl rfl (by decide) (by decide) rfl at_95 rfl (fun T8 X8 e8 => ?_)
    show Go p e below _ (T8.setTop (mkF m 98 #[.val (.int i0), .val (.int i1), .val (.int (0 : Int32)), .val (.ref w_MAIL_SAFE), .val (.int (i1 &&& (127 : Int32))), .val (.int i1.toInt8.toInt32), .val (.int (1 : Int32)), .val (.int (1 : Int32)), .unset] [(.int (fE 0 i1.toInt8.toInt32)), (.int (fC tb_MAIL_SAFE i1.toInt8.toInt32))]))
    refine b_icmp_ne B X8 (py := 105) (pn := 101) at_98 (by decide) (by decide) rfl (fun q => absurd (own_same0 i1.toInt8.toInt32) q) (fun _ => ?_)
    refine s_iconst B X8 (pc' := 102) (v := (1 : Int32)) at_101 rfl rfl ?_
    refine s_goto B X8 (pc' := 106) at_102 (by decide) (by decide) ?_
    refine s_istore B X8 (pc' := 108) (Ls' := #[.val (.int i0), .val (.int i1), .val (.int (0 : Int32)), .val (.ref w_MAIL_SAFE), .val (.int (i1 &&& (127 : Int32))), .val (.int i1.toInt8.toInt32), .val (.int (1 : Int32)), .val (.int (1 : Int32)), .val (.int (1 : Int32))]) at_106 rfl rfl ?_
    refine s_iload B X8 (pc' := 110) at_108 rfl rfl ?_
    refine s_ifN B X8 (pc' := 113) at_110 (by decide) rfl ?_
    refine s_iload B X8 (pc' := 115) at_113 rfl rfl ?_
    refine s_ifN B X8 (pc' := 118) at_115 (by decide) rfl ?_
    refine s_iload B X8 (pc' := 120) at_118 rfl rfl ?_
    refine s_ifN B X8 (pc' := 123) at_120 (by decide) rfl ?_
    refine s_iconst B X8 (pc' := 124) (v := (1 : Int32)) at_123 rfl rfl ?_
    refine s_goto B X8 (pc' := 128) at_124 (by decide) (by decide) ?_
    exact r_nar B X8 (t := .boolean) (by simp) rfl at_128 ⟨rfl, (Fr.nil _)⟩ (by decide) (by decide)
  · refine s_iloadN B X0 (pc' := 1) at_0 rfl rfl ?_
    refine s_ldc B X0 (pc' := 3) (v := (2147483647 : Int32)) (tw0 hw) at_1 rfl ?_
    refine s_iand B X0 (pc' := 4) (v := (i0 &&& (2147483647 : Int32))) at_3 rfl rfl ?_
    refine s_iconst B X0 (pc' := 5) (v := (3 : Int32)) at_4 rfl rfl ?_
    refine s_irem B X0 (pc' := 6) (v := (1 : Int32)) at_5 (hv1) (by decide) rfl ?_
    refine s_istoreN B X0 (pc' := 7) (Ls' := #[.val (.int i0), .val (.int i1), .val (.int (1 : Int32)), .unset, .unset, .unset, .unset, .unset, .unset]) at_6 rfl rfl ?_
    refine s_iloadN B X0 (pc' := 8) at_7 rfl rfl ?_
    refine s_ifY B X0 (pc' := 18) at_8 (by decide) (by decide) (by decide) ?_
    refine s_iloadN B X0 (pc' := 19) at_18 rfl rfl ?_
    refine s_iconst B X0 (pc' := 20) (v := (1 : Int32)) at_19 rfl rfl ?_
    refine s_icmpN B X0 (pc' := 23) at_20 (by decide) rfl ?_
    refine s_getS B X0 (pc' := 26) e0 (tw23 hw) Via.refl S_WITH_OPTIONAL at_23 rfl (fun T9 X9 e9 => ?_)
    refine s_astoreN B X9 (pc' := 27) (Ls' := #[.val (.int i0), .val (.int i1), .val (.int (1 : Int32)), .val (.ref w_WITH_OPTIONAL), .unset, .unset, .unset, .unset, .unset]) at_26 rfl rfl rfl ?_
    refine s_goto B X9 (pc' := 34) at_27 (by decide) (by decide) ?_
    refine s_iloadN B X9 (pc' := 35) at_34 rfl rfl ?_
    refine s_bipush B X9 (pc' := 37) (v := (127 : Int32)) at_35 rfl rfl ?_
    refine s_iand B X9 (pc' := 38) (v := (i1 &&& (127 : Int32))) at_37 rfl rfl ?_
    refine s_istore B X9 (pc' := 40) (Ls' := #[.val (.int i0), .val (.int i1), .val (.int (1 : Int32)), .val (.ref w_WITH_OPTIONAL), .val (.int (i1 &&& (127 : Int32))), .unset, .unset, .unset, .unset]) at_38 rfl rfl ?_
    refine s_iloadN B X9 (pc' := 41) at_40 rfl rfl ?_
    refine s_i2b B X9 (pc' := 42) (v := i1.toInt8.toInt32) at_41 rfl rfl ?_
    refine s_istore B X9 (pc' := 44) (Ls' := #[.val (.int i0), .val (.int i1), .val (.int (1 : Int32)), .val (.ref w_WITH_OPTIONAL), .val (.int (i1 &&& (127 : Int32))), .val (.int i1.toInt8.toInt32), .unset, .unset, .unset]) at_42 rfl rfl ?_
    refine s_aloadN B X9 (pc' := 45) at_44 rfl rfl rfl ?_
    refine s_iloadN B X9 (pc' := 46) at_45 rfl rfl ?_
    refine p_virtual B X9 (y := mn4) (pc' := 49) (argsL := [(.int i1)]) (under := []) (W := 0) e9 (tw4 hw) (tw5 hw) (tw7 hw) (tw6 hw) (tw8 hw) (tw2 hw) (by decide) (rm_con_WITH_OPTIONAL l Z a0 hw i1 w_MAIL_SAFE w_IMAP w_WITH_OPTIONAL w_MAIL_SAFE_direct w_IMAP_direct w_WITH_OPTIONAL_direct Z.heap F0) E_WITH_OPTIONAL (lenOf pd_0 rfl) rfl rfl (by decide) (by decide) rfl rfl (by decide) (by decide) rfl at_46 rfl (fun T10 X10 e10 => ?_)
    show Go p e below _ (T10.setTop (mkF m 49 #[.val (.int i0), .val (.int i1), .val (.int (1 : Int32)), .val (.ref w_WITH_OPTIONAL), .val (.int (i1 &&& (127 : Int32))), .val (.int i1.toInt8.toInt32), .unset, .unset, .unset] [(.int (fC tb_WITH_OPTIONAL i1))]))
    refine s_iloadN B X10 (pc' := 50) at_49 rfl rfl ?_
    refine s_iloadN B X10 (pc' := 51) at_50 rfl rfl ?_
    refine p_static B X10 (y := mn3) (pc' := 54) (argsL := [(.int (1 : Int32)), (.int i1)]) (under := [(.int (fC tb_WITH_OPTIONAL i1))]) (W := 1) e10 (tw11 hw) (tw12 hw) (tw14 hw) (tw13 hw) (by decide) (rm_exp1 l Z a0 hw i1 Z.heap) (lenOf pd_1 rfl) rfl rfl (by decide) (by decide) rfl rfl (by decide) (by decide) rfl at_51 rfl (fun T11 X11 e11 => ?_)
    show Go p e below _ (T11.setTop (mkF m 54 #[.val (.int i0), .val (.int i1), .val (.int (1 : Int32)), .val (.ref w_WITH_OPTIONAL), .val (.int (i1 &&& (127 : Int32))), .val (.int i1.toInt8.toInt32), .unset, .unset, .unset] [(.int (fE 1 i1)), (.int (fC tb_WITH_OPTIONAL i1))]))
    refine b_icmp_ne B X11 (py := 61) (pn := 57) at_54 (by decide) (by decide) rfl (fun q => absurd (own_same1 i1) q) (fun _ => ?_)
    refine s_iconst B X11 (pc' := 58) (v := (1 : Int32)) at_57 rfl rfl ?_
    refine s_goto B X11 (pc' := 62) at_58 (by decide) (by decide) ?_
    refine s_istore B X11 (pc' := 64) (Ls' := #[.val (.int i0), .val (.int i1), .val (.int (1 : Int32)), .val (.ref w_WITH_OPTIONAL), .val (.int (i1 &&& (127 : Int32))), .val (.int i1.toInt8.toInt32), .val (.int (1 : Int32)), .unset, .unset]) at_62 rfl rfl ?_
    refine s_aloadN B X11 (pc' := 65) at_64 rfl rfl rfl ?_
    refine s_iload B X11 (pc' := 67) at_65 rfl rfl ?_
    refine p_virtual B X11 (y := mn4) (pc' := 70) (argsL := [(.int (i1 &&& (127 : Int32)))]) (under := []) (W := 0) e11 (tw4 hw) (tw5 hw) (tw7 hw) (tw6 hw) (tw8 hw) (tw2 hw) (by decide) (rm_con_WITH_OPTIONAL l Z a0 hw (i1 &&& (127 : Int32)) w_MAIL_SAFE w_IMAP w_WITH_OPTIONAL w_MAIL_SAFE_direct w_IMAP_direct w_WITH_OPTIONAL_direct Z.heap F0) E_WITH_OPTIONAL (lenOf pd_0 rfl) rfl rfl (by decide) (by decide) rfl rfl (by decide) (by decide) rfl at_67 rfl (fun T12 X12 e12 => ?_)
    show Go p e below _ (T12.setTop (mkF m 70 #[.val (.int i0), .val (.int i1), .val (.int (1 : Int32)), .val (.ref w_WITH_OPTIONAL), .val (.int (i1 &&& (127 : Int32))), .val (.int i1.toInt8.toInt32), .val (.int (1 : Int32)), .unset, .unset] [(.int (fC tb_WITH_OPTIONAL (i1 &&& (127 : Int32))))]))
    refine s_iloadN B X12 (pc' := 71) at_70 rfl rfl ?_
    refine s_iload B X12 (pc' := 73) at_71 rfl rfl ?_
    refine p_static B X12 (y := mn3) (pc' := 76) (argsL := [(.int (1 : Int32)), (.int (i1 &&& (127 : Int32)))]) (under := [(.int (fC tb_WITH_OPTIONAL (i1 &&& (127 : Int32))))]) (W := 1) e12 (tw11 hw) (tw12 hw) (tw14 hw) (tw13 hw) (by decide) (rm_exp1 l Z a0 hw (i1 &&& (127 : Int32)) Z.heap) (lenOf pd_1 rfl) rfl rfl (by decide) (by decide) rfl rfl (by decide) (by decide) rfl at_73 rfl (fun T13 X13 e13 => ?_)
    show Go p e below _ (T13.setTop (mkF m 76 #[.val (.int i0), .val (.int i1), .val (.int (1 : Int32)), .val (.ref w_WITH_OPTIONAL), .val (.int (i1 &&& (127 : Int32))), .val (.int i1.toInt8.toInt32), .val (.int (1 : Int32)), .unset, .unset] [(.int (fE 1 (i1 &&& (127 : Int32)))), (.int (fC tb_WITH_OPTIONAL (i1 &&& (127 : Int32))))]))
    refine b_icmp_ne B X13 (py := 83) (pn := 79) at_76 (by decide) (by decide) rfl (fun q => absurd (own_same1 (i1 &&& (127 : Int32))) q) (fun _ => ?_)
    refine s_iconst B X13 (pc' := 80) (v := (1 : Int32)) at_79 rfl rfl ?_
    refine s_goto B X13 (pc' := 84) at_80 (by decide) (by decide) ?_
    refine s_istore B X13 (pc' := 86) (Ls' := #[.val (.int i0), .val (.int i1), .val (.int (1 : Int32)), .val (.ref w_WITH_OPTIONAL), .val (.int (i1 &&& (127 : Int32))), .val (.int i1.toInt8.toInt32), .val (.int (1 : Int32)), .val (.int (1 : Int32)), .unset]) at_84 rfl rfl ?_
    refine s_aloadN B X13 (pc' := 87) at_86 rfl rfl rfl ?_
    refine s_iload B X13 (pc' := 89) at_87 rfl rfl ?_
    refine p_virtual B X13 (y := mn4) (pc' := 92) (argsL := [(.int i1.toInt8.toInt32)]) (under := []) (W := 0) e13 (tw4 hw) (tw5 hw) (tw7 hw) (tw6 hw) (tw8 hw) (tw2 hw) (by decide) (rm_con_WITH_OPTIONAL l Z a0 hw i1.toInt8.toInt32 w_MAIL_SAFE w_IMAP w_WITH_OPTIONAL w_MAIL_SAFE_direct w_IMAP_direct w_WITH_OPTIONAL_direct Z.heap F0) E_WITH_OPTIONAL (lenOf pd_0 rfl) rfl rfl (by decide) (by decide) rfl rfl (by decide) (by decide) rfl at_89 rfl (fun T14 X14 e14 => ?_)
    show Go p e below _ (T14.setTop (mkF m 92 #[.val (.int i0), .val (.int i1), .val (.int (1 : Int32)), .val (.ref w_WITH_OPTIONAL), .val (.int (i1 &&& (127 : Int32))), .val (.int i1.toInt8.toInt32), .val (.int (1 : Int32)), .val (.int (1 : Int32)), .unset] [(.int (fC tb_WITH_OPTIONAL i1.toInt8.toInt32))]))
    refine s_iloadN B X14 (pc' := 93) at_92 rfl rfl ?_
    refine s_iload B X14 (pc' := 95) at_93 rfl rfl ?_
    refine p_static B X14 (y := mn3) (pc' := 98) (argsL := [(.int (1 : Int32)), (.int i1.toInt8.toInt32)]) (under := [(.int (fC tb_WITH_OPTIONAL i1.toInt8.toInt32))]) (W := 1) e14 (tw11 hw) (tw12 hw) (tw14 hw) (tw13 hw) (by decide) (rm_exp1 l Z a0 hw i1.toInt8.toInt32 Z.heap) (lenOf pd_1 rfl) rfl rfl (by decide) (by decide) rfl rfl (by decide) (by decide) rfl at_95 rfl (fun T15 X15 e15 => ?_)
    show Go p e below _ (T15.setTop (mkF m 98 #[.val (.int i0), .val (.int i1), .val (.int (1 : Int32)), .val (.ref w_WITH_OPTIONAL), .val (.int (i1 &&& (127 : Int32))), .val (.int i1.toInt8.toInt32), .val (.int (1 : Int32)), .val (.int (1 : Int32)), .unset] [(.int (fE 1 i1.toInt8.toInt32)), (.int (fC tb_WITH_OPTIONAL i1.toInt8.toInt32))]))
    refine b_icmp_ne B X15 (py := 105) (pn := 101) at_98 (by decide) (by decide) rfl (fun q => absurd (own_same1 i1.toInt8.toInt32) q) (fun _ => ?_)
    refine s_iconst B X15 (pc' := 102) (v := (1 : Int32)) at_101 rfl rfl ?_
    refine s_goto B X15 (pc' := 106) at_102 (by decide) (by decide) ?_
    refine s_istore B X15 (pc' := 108) (Ls' := #[.val (.int i0), .val (.int i1), .val (.int (1 : Int32)), .val (.ref w_WITH_OPTIONAL), .val (.int (i1 &&& (127 : Int32))), .val (.int i1.toInt8.toInt32), .val (.int (1 : Int32)), .val (.int (1 : Int32)), .val (.int (1 : Int32))]) at_106 rfl rfl ?_
    refine s_iload B X15 (pc' := 110) at_108 rfl rfl ?_
    refine s_ifN B X15 (pc' := 113) at_110 (by decide) rfl ?_
    refine s_iload B X15 (pc' := 115) at_113 rfl rfl ?_
    refine s_ifN B X15 (pc' := 118) at_115 (by decide) rfl ?_
    refine s_iload B X15 (pc' := 120) at_118 rfl rfl ?_
    refine s_ifN B X15 (pc' := 123) at_120 (by decide) rfl ?_
    refine s_iconst B X15 (pc' := 124) (v := (1 : Int32)) at_123 rfl rfl ?_
    refine s_goto B X15 (pc' := 128) at_124 (by decide) (by decide) ?_
    exact r_nar B X15 (t := .boolean) (by simp) rfl at_128 ⟨rfl, (Fr.nil _)⟩ (by decide) (by decide)
  · refine s_iloadN B X0 (pc' := 1) at_0 rfl rfl ?_
    refine s_ldc B X0 (pc' := 3) (v := (2147483647 : Int32)) (tw0 hw) at_1 rfl ?_
    refine s_iand B X0 (pc' := 4) (v := (i0 &&& (2147483647 : Int32))) at_3 rfl rfl ?_
    refine s_iconst B X0 (pc' := 5) (v := (3 : Int32)) at_4 rfl rfl ?_
    refine s_irem B X0 (pc' := 6) (v := (2 : Int32)) at_5 (hv1) (by decide) rfl ?_
    refine s_istoreN B X0 (pc' := 7) (Ls' := #[.val (.int i0), .val (.int i1), .val (.int (2 : Int32)), .unset, .unset, .unset, .unset, .unset, .unset]) at_6 rfl rfl ?_
    refine s_iloadN B X0 (pc' := 8) at_7 rfl rfl ?_
    refine s_ifY B X0 (pc' := 18) at_8 (by decide) (by decide) (by decide) ?_
    refine s_iloadN B X0 (pc' := 19) at_18 rfl rfl ?_
    refine s_iconst B X0 (pc' := 20) (v := (1 : Int32)) at_19 rfl rfl ?_
    refine s_icmpY B X0 (pc' := 30) at_20 (by decide) (by decide) (by decide) ?_
    refine s_getS B X0 (pc' := 33) e0 (tw21 hw) Via.refl S_IMAP at_30 rfl (fun T16 X16 e16 => ?_)
    refine s_astoreN B X16 (pc' := 34) (Ls' := #[.val (.int i0), .val (.int i1), .val (.int (2 : Int32)), .val (.ref w_IMAP), .unset, .unset, .unset, .unset, .unset]) at_33 rfl rfl rfl ?_
    refine s_iloadN B X16 (pc' := 35) at_34 rfl rfl ?_
    refine s_bipush B X16 (pc' := 37) (v := (127 : Int32)) at_35 rfl rfl ?_
    refine s_iand B X16 (pc' := 38) (v := (i1 &&& (127 : Int32))) at_37 rfl rfl ?_
    refine s_istore B X16 (pc' := 40) (Ls' := #[.val (.int i0), .val (.int i1), .val (.int (2 : Int32)), .val (.ref w_IMAP), .val (.int (i1 &&& (127 : Int32))), .unset, .unset, .unset, .unset]) at_38 rfl rfl ?_
    refine s_iloadN B X16 (pc' := 41) at_40 rfl rfl ?_
    refine s_i2b B X16 (pc' := 42) (v := i1.toInt8.toInt32) at_41 rfl rfl ?_
    refine s_istore B X16 (pc' := 44) (Ls' := #[.val (.int i0), .val (.int i1), .val (.int (2 : Int32)), .val (.ref w_IMAP), .val (.int (i1 &&& (127 : Int32))), .val (.int i1.toInt8.toInt32), .unset, .unset, .unset]) at_42 rfl rfl ?_
    refine s_aloadN B X16 (pc' := 45) at_44 rfl rfl rfl ?_
    refine s_iloadN B X16 (pc' := 46) at_45 rfl rfl ?_
    refine p_virtual B X16 (y := mn4) (pc' := 49) (argsL := [(.int i1)]) (under := []) (W := 0) e16 (tw4 hw) (tw5 hw) (tw7 hw) (tw6 hw) (tw8 hw) (tw2 hw) (by decide) (rm_con_IMAP l Z a0 hw i1 w_MAIL_SAFE w_IMAP w_WITH_OPTIONAL w_MAIL_SAFE_direct w_IMAP_direct w_WITH_OPTIONAL_direct Z.heap F0) E_IMAP (lenOf pd_0 rfl) rfl rfl (by decide) (by decide) rfl rfl (by decide) (by decide) rfl at_46 rfl (fun T17 X17 e17 => ?_)
    show Go p e below _ (T17.setTop (mkF m 49 #[.val (.int i0), .val (.int i1), .val (.int (2 : Int32)), .val (.ref w_IMAP), .val (.int (i1 &&& (127 : Int32))), .val (.int i1.toInt8.toInt32), .unset, .unset, .unset] [(.int (fC tb_IMAP i1))]))
    refine s_iloadN B X17 (pc' := 50) at_49 rfl rfl ?_
    refine s_iloadN B X17 (pc' := 51) at_50 rfl rfl ?_
    refine p_static B X17 (y := mn3) (pc' := 54) (argsL := [(.int (2 : Int32)), (.int i1)]) (under := [(.int (fC tb_IMAP i1))]) (W := 1) e17 (tw11 hw) (tw12 hw) (tw14 hw) (tw13 hw) (by decide) (rm_exp2 l Z a0 hw i1 Z.heap) (lenOf pd_1 rfl) rfl rfl (by decide) (by decide) rfl rfl (by decide) (by decide) rfl at_51 rfl (fun T18 X18 e18 => ?_)
    show Go p e below _ (T18.setTop (mkF m 54 #[.val (.int i0), .val (.int i1), .val (.int (2 : Int32)), .val (.ref w_IMAP), .val (.int (i1 &&& (127 : Int32))), .val (.int i1.toInt8.toInt32), .unset, .unset, .unset] [(.int (fE 2 i1)), (.int (fC tb_IMAP i1))]))
    refine b_icmp_ne B X18 (py := 61) (pn := 57) at_54 (by decide) (by decide) rfl (fun q => absurd (own_same2 i1) q) (fun _ => ?_)
    refine s_iconst B X18 (pc' := 58) (v := (1 : Int32)) at_57 rfl rfl ?_
    refine s_goto B X18 (pc' := 62) at_58 (by decide) (by decide) ?_
    refine s_istore B X18 (pc' := 64) (Ls' := #[.val (.int i0), .val (.int i1), .val (.int (2 : Int32)), .val (.ref w_IMAP), .val (.int (i1 &&& (127 : Int32))), .val (.int i1.toInt8.toInt32), .val (.int (1 : Int32)), .unset, .unset]) at_62 rfl rfl ?_
    refine s_aloadN B X18 (pc' := 65) at_64 rfl rfl rfl ?_
    refine s_iload B X18 (pc' := 67) at_65 rfl rfl ?_
    refine p_virtual B X18 (y := mn4) (pc' := 70) (argsL := [(.int (i1 &&& (127 : Int32)))]) (under := []) (W := 0) e18 (tw4 hw) (tw5 hw) (tw7 hw) (tw6 hw) (tw8 hw) (tw2 hw) (by decide) (rm_con_IMAP l Z a0 hw (i1 &&& (127 : Int32)) w_MAIL_SAFE w_IMAP w_WITH_OPTIONAL w_MAIL_SAFE_direct w_IMAP_direct w_WITH_OPTIONAL_direct Z.heap F0) E_IMAP (lenOf pd_0 rfl) rfl rfl (by decide) (by decide) rfl rfl (by decide) (by decide) rfl at_67 rfl (fun T19 X19 e19 => ?_)
    show Go p e below _ (T19.setTop (mkF m 70 #[.val (.int i0), .val (.int i1), .val (.int (2 : Int32)), .val (.ref w_IMAP), .val (.int (i1 &&& (127 : Int32))), .val (.int i1.toInt8.toInt32), .val (.int (1 : Int32)), .unset, .unset] [(.int (fC tb_IMAP (i1 &&& (127 : Int32))))]))
    refine s_iloadN B X19 (pc' := 71) at_70 rfl rfl ?_
    refine s_iload B X19 (pc' := 73) at_71 rfl rfl ?_
    refine p_static B X19 (y := mn3) (pc' := 76) (argsL := [(.int (2 : Int32)), (.int (i1 &&& (127 : Int32)))]) (under := [(.int (fC tb_IMAP (i1 &&& (127 : Int32))))]) (W := 1) e19 (tw11 hw) (tw12 hw) (tw14 hw) (tw13 hw) (by decide) (rm_exp2 l Z a0 hw (i1 &&& (127 : Int32)) Z.heap) (lenOf pd_1 rfl) rfl rfl (by decide) (by decide) rfl rfl (by decide) (by decide) rfl at_73 rfl (fun T20 X20 e20 => ?_)
    show Go p e below _ (T20.setTop (mkF m 76 #[.val (.int i0), .val (.int i1), .val (.int (2 : Int32)), .val (.ref w_IMAP), .val (.int (i1 &&& (127 : Int32))), .val (.int i1.toInt8.toInt32), .val (.int (1 : Int32)), .unset, .unset] [(.int (fE 2 (i1 &&& (127 : Int32)))), (.int (fC tb_IMAP (i1 &&& (127 : Int32))))]))
    refine b_icmp_ne B X20 (py := 83) (pn := 79) at_76 (by decide) (by decide) rfl (fun q => absurd (own_same2 (i1 &&& (127 : Int32))) q) (fun _ => ?_)
    refine s_iconst B X20 (pc' := 80) (v := (1 : Int32)) at_79 rfl rfl ?_
    refine s_goto B X20 (pc' := 84) at_80 (by decide) (by decide) ?_
    refine s_istore B X20 (pc' := 86) (Ls' := #[.val (.int i0), .val (.int i1), .val (.int (2 : Int32)), .val (.ref w_IMAP), .val (.int (i1 &&& (127 : Int32))), .val (.int i1.toInt8.toInt32), .val (.int (1 : Int32)), .val (.int (1 : Int32)), .unset]) at_84 rfl rfl ?_
    refine s_aloadN B X20 (pc' := 87) at_86 rfl rfl rfl ?_
    refine s_iload B X20 (pc' := 89) at_87 rfl rfl ?_
    refine p_virtual B X20 (y := mn4) (pc' := 92) (argsL := [(.int i1.toInt8.toInt32)]) (under := []) (W := 0) e20 (tw4 hw) (tw5 hw) (tw7 hw) (tw6 hw) (tw8 hw) (tw2 hw) (by decide) (rm_con_IMAP l Z a0 hw i1.toInt8.toInt32 w_MAIL_SAFE w_IMAP w_WITH_OPTIONAL w_MAIL_SAFE_direct w_IMAP_direct w_WITH_OPTIONAL_direct Z.heap F0) E_IMAP (lenOf pd_0 rfl) rfl rfl (by decide) (by decide) rfl rfl (by decide) (by decide) rfl at_89 rfl (fun T21 X21 e21 => ?_)
    show Go p e below _ (T21.setTop (mkF m 92 #[.val (.int i0), .val (.int i1), .val (.int (2 : Int32)), .val (.ref w_IMAP), .val (.int (i1 &&& (127 : Int32))), .val (.int i1.toInt8.toInt32), .val (.int (1 : Int32)), .val (.int (1 : Int32)), .unset] [(.int (fC tb_IMAP i1.toInt8.toInt32))]))
    refine s_iloadN B X21 (pc' := 93) at_92 rfl rfl ?_
    refine s_iload B X21 (pc' := 95) at_93 rfl rfl ?_
    refine p_static B X21 (y := mn3) (pc' := 98) (argsL := [(.int (2 : Int32)), (.int i1.toInt8.toInt32)]) (under := [(.int (fC tb_IMAP i1.toInt8.toInt32))]) (W := 1) e21 (tw11 hw) (tw12 hw) (tw14 hw) (tw13 hw) (by decide) (rm_exp2 l Z a0 hw i1.toInt8.toInt32 Z.heap) (lenOf pd_1 rfl) rfl rfl (by decide) (by decide) rfl rfl (by decide) (by decide) rfl at_95 rfl (fun T22 X22 e22 => ?_)
    show Go p e below _ (T22.setTop (mkF m 98 #[.val (.int i0), .val (.int i1), .val (.int (2 : Int32)), .val (.ref w_IMAP), .val (.int (i1 &&& (127 : Int32))), .val (.int i1.toInt8.toInt32), .val (.int (1 : Int32)), .val (.int (1 : Int32)), .unset] [(.int (fE 2 i1.toInt8.toInt32)), (.int (fC tb_IMAP i1.toInt8.toInt32))]))
    refine b_icmp_ne B X22 (py := 105) (pn := 101) at_98 (by decide) (by decide) rfl (fun q => absurd (own_same2 i1.toInt8.toInt32) q) (fun _ => ?_)
    refine s_iconst B X22 (pc' := 102) (v := (1 : Int32)) at_101 rfl rfl ?_
    refine s_goto B X22 (pc' := 106) at_102 (by decide) (by decide) ?_
    refine s_istore B X22 (pc' := 108) (Ls' := #[.val (.int i0), .val (.int i1), .val (.int (2 : Int32)), .val (.ref w_IMAP), .val (.int (i1 &&& (127 : Int32))), .val (.int i1.toInt8.toInt32), .val (.int (1 : Int32)), .val (.int (1 : Int32)), .val (.int (1 : Int32))]) at_106 rfl rfl ?_
    refine s_iload B X22 (pc' := 110) at_108 rfl rfl ?_
    refine s_ifN B X22 (pc' := 113) at_110 (by decide) rfl ?_
    refine s_iload B X22 (pc' := 115) at_113 rfl rfl ?_
    refine s_ifN B X22 (pc' := 118) at_115 (by decide) rfl ?_
    refine s_iload B X22 (pc' := 120) at_118 rfl rfl ?_
    refine s_ifN B X22 (pc' := 123) at_120 (by decide) rfl ?_
    refine s_iconst B X22 (pc' := 124) (v := (1 : Int32)) at_123 rfl rfl ?_
    refine s_goto B X22 (pc' := 128) at_124 (by decide) (by decide) ?_
    exact r_nar B X22 (t := .boolean) (by simp) rfl at_128 ⟨rfl, (Fr.nil _)⟩ (by decide) (by decide)
set_option maxRecDepth 65536 in
set_option maxHeartbeats 40000000 in
theorem comes_1 {Post : Tables → Env → Array Value → State → Outcome → State → Prop} (hpost : ∀ tb e args s v u, (limb_1_1.after args s (.returned v) u = true ∧ limb_1_2.after args s (.returned v) u = true ∧ True) → FrameEnd s (.returned v) u (Jvm.fieldLocs frame_1_writes args s ++ Jvm.arrayLocs frame_1_arrays args s ++ Jvm.staticLocs frame_1_statics s) 0 0 → Post tb e args s (.returned v) u) :
    ArmFor flags0 classFile x code maxLocals ret World_1 tables_1 room_1 Calls_1 rest_1 Pre_1 Post := by
  intro l hfl _ _ p e ha hc hk s m args below hf hA hF happ hP
  obtain ⟨hcalls, hrest, hpre⟩ := hP
  obtain ⟨-, -, -, hnamed, -, -, -, hat⟩ := (Spec.applies_iff hf).mp happ
  obtain ⟨hg, hn⟩ := and_e (Cond.before_iff.mp (show (Jvm.Cond.and given_1 narrow_1).before args s = true from hpre))
  obtain ⟨h1, hg⟩ := and_e hg
  obtain ⟨w0, w1, rfl⟩ : ∃ w0 w1 : Value, args = #[w0, w1] := by
    have hs : args.size = 2 := by simpa [Cond.value, given_1] using h1
    obtain ⟨L⟩ := args
    match L, hs with
    | [w0, w1], _ => exact ⟨w0, w1, rfl⟩
  have hw := fun d (hd : d ∈ tables_1) => atoms_spec (ws := Jvm.Cond.code x code maxLocals ret :: tables_1) hat d (List.mem_cons_of_mem _ hd)
  have hfit : Fit s := fun {y c} hc i hi => by
    obtain ⟨ha, rfl⟩ := Array.getElem?_eq_some_iff.mp hc
    have q := List.all_eq_true.mp ((Array.all_eq_true_iff_forall_mem.mp hF) _ (Array.getElem_mem ha)) i (List.mem_range.mpr hi)
    simpa [Array.getElem?_eq_getElem hi] using q
  obtain ⟨hg0, hg⟩ := and_e hg
  have hg1 := hg
  obtain ⟨i0, ei0⟩ := is_v hg0
  obtain rfl : w0 = (.int i0) := Option.some.inj ei0
  obtain ⟨i1, ei1⟩ := is_v hg1
  obtain rfl : w1 = (.int i1) := Option.some.inj ei1
  obtain ⟨hn0, hn⟩ := and_e hn
  obtain ⟨hn1, hn⟩ := and_e hn
  obtain ⟨hn2, hn⟩ := and_e hn
  obtain ⟨hn3, hn⟩ := and_e hn
  obtain ⟨hn4, hn⟩ := and_e hn
  obtain ⟨hn5, hn⟩ := and_e hn
  obtain ⟨hn6, hn⟩ := and_e hn
  obtain ⟨hn7, hn⟩ := and_e hn
  obtain ⟨hn8, hn⟩ := and_e hn
  obtain ⟨hn9, hn⟩ := and_e hn
  obtain ⟨hn10, hn⟩ := and_e hn
  obtain ⟨hn11, hn⟩ := and_e hn
  obtain ⟨hn12, hn⟩ := and_e hn
  obtain ⟨hn13, hn⟩ := and_e hn
  obtain ⟨hn14, hn⟩ := and_e hn
  obtain ⟨hn15, hn⟩ := and_e hn
  obtain ⟨hn16, hn⟩ := and_e hn
  obtain ⟨hn17, hn⟩ := and_e hn
  obtain ⟨hn18, hn⟩ := and_e hn
  obtain ⟨hn19, hn⟩ := and_e hn
  obtain ⟨hn20, hn⟩ := and_e hn
  obtain ⟨hn21, hn⟩ := and_e hn
  obtain ⟨hn22, hn⟩ := and_e hn
  obtain ⟨hn23, hn⟩ := and_e hn
  obtain ⟨hn24, hn⟩ := and_e hn
  obtain ⟨hn25, hn⟩ := and_e hn
  obtain ⟨hn26, hn⟩ := and_e hn
  obtain ⟨hn27, hn⟩ := and_e hn
  obtain ⟨hn28, hn⟩ := and_e hn
  obtain ⟨hn29, hn⟩ := and_e hn
  obtain ⟨hn30, hn⟩ := and_e hn
  obtain ⟨hn31, hn⟩ := and_e hn
  obtain ⟨hn32, hn⟩ := and_e hn
  obtain ⟨hn33, hn⟩ := and_e hn
  obtain ⟨hn34, hn⟩ := and_e hn
  obtain ⟨hn35, hn⟩ := and_e hn
  obtain ⟨hn36, hn⟩ := and_e hn
  obtain ⟨hn37, hn⟩ := and_e hn
  obtain ⟨hn38, hn⟩ := and_e hn
  obtain ⟨hn39, hn⟩ := and_e hn
  obtain ⟨hn40, hn⟩ := and_e hn
  obtain ⟨hn41, hn⟩ := and_e hn
  obtain ⟨hn42, hn⟩ := and_e hn
  obtain ⟨hn43, hn⟩ := and_e hn
  obtain ⟨hn44, hn⟩ := and_e hn
  obtain ⟨hn45, hn⟩ := and_e hn
  obtain ⟨hn46, hn⟩ := and_e hn
  obtain ⟨hn47, hn⟩ := and_e hn
  obtain ⟨hn48, hn⟩ := and_e hn
  have hn49 := hn
  obtain ⟨w_MAIL_SAFE, v_MAIL_SAFE⟩ := exa_v hn0
  have S_MAIL_SAFE := Sta.start v_MAIL_SAFE (Or.inr ⟨(tw2 hw), (tw3 hw)⟩)
  have E_MAIL_SAFE := Exa.start v_MAIL_SAFE hn0
  obtain ⟨w_IMAP, v_IMAP⟩ := exa_v hn3
  have S_IMAP := Sta.start v_IMAP (Or.inr ⟨(tw2 hw), (tw22 hw)⟩)
  have E_IMAP := Exa.start v_IMAP hn3
  obtain ⟨w_WITH_OPTIONAL, v_WITH_OPTIONAL⟩ := exa_v hn6
  have S_WITH_OPTIONAL := Sta.start v_WITH_OPTIONAL (Or.inr ⟨(tw2 hw), (tw24 hw)⟩)
  have E_WITH_OPTIONAL := Exa.start v_WITH_OPTIONAL hn6
  obtain ⟨w_MAIL_SAFE_direct, v_MAIL_SAFE_direct⟩ := arr_v hn1
  have F_MAIL_SAFE_direct := Fld.start ((fld_at v_MAIL_SAFE).symm.trans v_MAIL_SAFE_direct)
  obtain ⟨w_IMAP_direct, v_IMAP_direct⟩ := arr_v hn4
  have F_IMAP_direct := Fld.start ((fld_at v_IMAP).symm.trans v_IMAP_direct)
  obtain ⟨w_WITH_OPTIONAL_direct, v_WITH_OPTIONAL_direct⟩ := arr_v hn7
  have F_WITH_OPTIONAL_direct := Fld.start ((fld_at v_WITH_OPTIONAL).symm.trans v_WITH_OPTIONAL_direct)
  have T_MAIL_SAFE_direct : ∃ k, Ary s s.heap w_MAIL_SAFE_direct k .boolean 128 (fun i => .int (tb_MAIL_SAFE i)) := by
    obtain ⟨c_MAIL_SAFE_direct, Ac⟩ := Arr.start v_MAIL_SAFE_direct hn1
    obtain ⟨hs, hb⟩ := tab_len (n := 128) v_MAIL_SAFE_direct Ac hn2 (by decide)
    refine ⟨_, c_MAIL_SAFE_direct, Ac, rfl, hs, hb, fun i hi => ?_⟩
    have hj : i < 2 ^ 31 := by omega
    have hk : i < c_MAIL_SAFE_direct.slots.size := by omega
    show c_MAIL_SAFE_direct.slots[i]? = some (.int (tb_MAIL_SAFE i))
    rcases (by omega : (0 ≤ i ∧ i < 9) ∨ (9 ≤ i ∧ i < 10) ∨ (10 ≤ i ∧ i < 11) ∨ (11 ≤ i ∧ i < 12) ∨ (12 ≤ i ∧ i < 13) ∨ (13 ≤ i ∧ i < 14) ∨ (14 ≤ i ∧ i < 32) ∨ (32 ≤ i ∧ i < 33) ∨ (33 ≤ i ∧ i < 39) ∨ (39 ≤ i ∧ i < 40) ∨ (40 ≤ i ∧ i < 41) ∨ (41 ≤ i ∧ i < 42) ∨ (42 ≤ i ∧ i < 43) ∨ (43 ≤ i ∧ i < 44) ∨ (44 ≤ i ∧ i < 59) ∨ (59 ≤ i ∧ i < 63) ∨ (63 ≤ i ∧ i < 64) ∨ (64 ≤ i ∧ i < 65) ∨ (65 ≤ i ∧ i < 91) ∨ (91 ≤ i ∧ i < 97) ∨ (97 ≤ i ∧ i < 123) ∨ (123 ≤ i ∧ i < 128)) with ⟨h1, h2⟩ | ⟨h1, h2⟩ | ⟨h1, h2⟩ | ⟨h1, h2⟩ | ⟨h1, h2⟩ | ⟨h1, h2⟩ | ⟨h1, h2⟩ | ⟨h1, h2⟩ | ⟨h1, h2⟩ | ⟨h1, h2⟩ | ⟨h1, h2⟩ | ⟨h1, h2⟩ | ⟨h1, h2⟩ | ⟨h1, h2⟩ | ⟨h1, h2⟩ | ⟨h1, h2⟩ | ⟨h1, h2⟩ | ⟨h1, h2⟩ | ⟨h1, h2⟩ | ⟨h1, h2⟩ | ⟨h1, h2⟩ | ⟨h1, h2⟩
    · rw [show tb_MAIL_SAFE i = 0 from tb_MAIL_SAFE_0 h1 h2]
      exact tab_el (j := .int 0) v_MAIL_SAFE_direct Ac hj (eqI_i (tab_or (tab_all v_MAIL_SAFE_direct Ac hn9 hk) (tab_hi hj (by have q : (9 : Int32).toInt = 9 := (by decide); omega))))
    · obtain rfl : i = 9 := by omega
      exact tab_at v_MAIL_SAFE_direct Ac (eqI_v hn10) (by decide)
    · obtain rfl : i = 10 := by omega
      exact tab_at v_MAIL_SAFE_direct Ac (eqI_v hn11) (by decide)
    · obtain rfl : i = 11 := by omega
      exact tab_at v_MAIL_SAFE_direct Ac (eqI_v hn12) (by decide)
    · obtain rfl : i = 12 := by omega
      exact tab_at v_MAIL_SAFE_direct Ac (eqI_v hn13) (by decide)
    · obtain rfl : i = 13 := by omega
      exact tab_at v_MAIL_SAFE_direct Ac (eqI_v hn14) (by decide)
    · rw [show tb_MAIL_SAFE i = 0 from tb_MAIL_SAFE_14 h1 h2]
      exact tab_el (j := .int 0) v_MAIL_SAFE_direct Ac hj (eqI_i (tab_or (tab_or (tab_all v_MAIL_SAFE_direct Ac hn15 hk) (tab_lo hj (by have q : (14 : Int32).toInt = 14 := (by decide); omega))) (tab_hi hj (by have q : (32 : Int32).toInt = 32 := (by decide); omega))))
    · obtain rfl : i = 32 := by omega
      exact tab_at v_MAIL_SAFE_direct Ac (eqI_v hn16) (by decide)
    · rw [show tb_MAIL_SAFE i = 0 from tb_MAIL_SAFE_33 h1 h2]
      exact tab_el (j := .int 0) v_MAIL_SAFE_direct Ac hj (eqI_i (tab_or (tab_or (tab_all v_MAIL_SAFE_direct Ac hn17 hk) (tab_lo hj (by have q : (33 : Int32).toInt = 33 := (by decide); omega))) (tab_hi hj (by have q : (39 : Int32).toInt = 39 := (by decide); omega))))
    · obtain rfl : i = 39 := by omega
      exact tab_at v_MAIL_SAFE_direct Ac (eqI_v hn18) (by decide)
    · obtain rfl : i = 40 := by omega
      exact tab_at v_MAIL_SAFE_direct Ac (eqI_v hn19) (by decide)
    · obtain rfl : i = 41 := by omega
      exact tab_at v_MAIL_SAFE_direct Ac (eqI_v hn20) (by decide)
    · obtain rfl : i = 42 := by omega
      exact tab_at v_MAIL_SAFE_direct Ac (eqI_v hn21) (by decide)
    · obtain rfl : i = 43 := by omega
      exact tab_at v_MAIL_SAFE_direct Ac (eqI_v hn22) (by decide)
    · rw [show tb_MAIL_SAFE i = 1 from tb_MAIL_SAFE_44 h1 h2]
      exact tab_el (j := .int 0) v_MAIL_SAFE_direct Ac hj (eqI_i (tab_or (tab_or (tab_all v_MAIL_SAFE_direct Ac hn23 hk) (tab_lo hj (by have q : (44 : Int32).toInt = 44 := (by decide); omega))) (tab_hi hj (by have q : (59 : Int32).toInt = 59 := (by decide); omega))))
    · rw [show tb_MAIL_SAFE i = 0 from tb_MAIL_SAFE_59 h1 h2]
      exact tab_el (j := .int 0) v_MAIL_SAFE_direct Ac hj (eqI_i (tab_or (tab_or (tab_all v_MAIL_SAFE_direct Ac hn24 hk) (tab_lo hj (by have q : (59 : Int32).toInt = 59 := (by decide); omega))) (tab_hi hj (by have q : (63 : Int32).toInt = 63 := (by decide); omega))))
    · obtain rfl : i = 63 := by omega
      exact tab_at v_MAIL_SAFE_direct Ac (eqI_v hn25) (by decide)
    · obtain rfl : i = 64 := by omega
      exact tab_at v_MAIL_SAFE_direct Ac (eqI_v hn26) (by decide)
    · rw [show tb_MAIL_SAFE i = 1 from tb_MAIL_SAFE_65 h1 h2]
      exact tab_el (j := .int 0) v_MAIL_SAFE_direct Ac hj (eqI_i (tab_or (tab_or (tab_all v_MAIL_SAFE_direct Ac hn27 hk) (tab_lo hj (by have q : (65 : Int32).toInt = 65 := (by decide); omega))) (tab_hi hj (by have q : (91 : Int32).toInt = 91 := (by decide); omega))))
    · rw [show tb_MAIL_SAFE i = 0 from tb_MAIL_SAFE_91 h1 h2]
      exact tab_el (j := .int 0) v_MAIL_SAFE_direct Ac hj (eqI_i (tab_or (tab_or (tab_all v_MAIL_SAFE_direct Ac hn28 hk) (tab_lo hj (by have q : (91 : Int32).toInt = 91 := (by decide); omega))) (tab_hi hj (by have q : (97 : Int32).toInt = 97 := (by decide); omega))))
    · rw [show tb_MAIL_SAFE i = 1 from tb_MAIL_SAFE_97 h1 h2]
      exact tab_el (j := .int 0) v_MAIL_SAFE_direct Ac hj (eqI_i (tab_or (tab_or (tab_all v_MAIL_SAFE_direct Ac hn29 hk) (tab_lo hj (by have q : (97 : Int32).toInt = 97 := (by decide); omega))) (tab_hi hj (by have q : (123 : Int32).toInt = 123 := (by decide); omega))))
    · rw [show tb_MAIL_SAFE i = 0 from tb_MAIL_SAFE_123 h1 h2]
      exact tab_el (j := .int 0) v_MAIL_SAFE_direct Ac hj (eqI_i (tab_or (tab_all v_MAIL_SAFE_direct Ac hn30 hk) (tab_lo hj (by have q : (123 : Int32).toInt = 123 := (by decide); omega))))
  have T_IMAP_direct : ∃ k, Ary s s.heap w_IMAP_direct k .boolean 128 (fun i => .int (tb_IMAP i)) := by
    obtain ⟨c_IMAP_direct, Ac⟩ := Arr.start v_IMAP_direct hn4
    obtain ⟨hs, hb⟩ := tab_len (n := 128) v_IMAP_direct Ac hn5 (by decide)
    refine ⟨_, c_IMAP_direct, Ac, rfl, hs, hb, fun i hi => ?_⟩
    have hj : i < 2 ^ 31 := by omega
    have hk : i < c_IMAP_direct.slots.size := by omega
    show c_IMAP_direct.slots[i]? = some (.int (tb_IMAP i))
    rcases (by omega : (0 ≤ i ∧ i < 32) ∨ (32 ≤ i ∧ i < 38) ∨ (38 ≤ i ∧ i < 39) ∨ (39 ≤ i ∧ i < 127) ∨ (127 ≤ i ∧ i < 128)) with ⟨h1, h2⟩ | ⟨h1, h2⟩ | ⟨h1, h2⟩ | ⟨h1, h2⟩ | ⟨h1, h2⟩
    · rw [show tb_IMAP i = 0 from tb_IMAP_0 h1 h2]
      exact tab_el (j := .int 0) v_IMAP_direct Ac hj (eqI_i (tab_or (tab_all v_IMAP_direct Ac hn31 hk) (tab_hi hj (by have q : (32 : Int32).toInt = 32 := (by decide); omega))))
    · rw [show tb_IMAP i = 1 from tb_IMAP_32 h1 h2]
      exact tab_el (j := .int 0) v_IMAP_direct Ac hj (eqI_i (tab_or (tab_or (tab_all v_IMAP_direct Ac hn32 hk) (tab_lo hj (by have q : (32 : Int32).toInt = 32 := (by decide); omega))) (tab_hi hj (by have q : (38 : Int32).toInt = 38 := (by decide); omega))))
    · obtain rfl : i = 38 := by omega
      exact tab_at v_IMAP_direct Ac (eqI_v hn33) (by decide)
    · rw [show tb_IMAP i = 1 from tb_IMAP_39 h1 h2]
      exact tab_el (j := .int 0) v_IMAP_direct Ac hj (eqI_i (tab_or (tab_or (tab_all v_IMAP_direct Ac hn34 hk) (tab_lo hj (by have q : (39 : Int32).toInt = 39 := (by decide); omega))) (tab_hi hj (by have q : (127 : Int32).toInt = 127 := (by decide); omega))))
    · obtain rfl : i = 127 := by omega
      exact tab_at v_IMAP_direct Ac (eqI_v hn35) (by decide)
  have T_WITH_OPTIONAL_direct : ∃ k, Ary s s.heap w_WITH_OPTIONAL_direct k .boolean 128 (fun i => .int (tb_WITH_OPTIONAL i)) := by
    obtain ⟨c_WITH_OPTIONAL_direct, Ac⟩ := Arr.start v_WITH_OPTIONAL_direct hn7
    obtain ⟨hs, hb⟩ := tab_len (n := 128) v_WITH_OPTIONAL_direct Ac hn8 (by decide)
    refine ⟨_, c_WITH_OPTIONAL_direct, Ac, rfl, hs, hb, fun i hi => ?_⟩
    have hj : i < 2 ^ 31 := by omega
    have hk : i < c_WITH_OPTIONAL_direct.slots.size := by omega
    show c_WITH_OPTIONAL_direct.slots[i]? = some (.int (tb_WITH_OPTIONAL i))
    rcases (by omega : (0 ≤ i ∧ i < 9) ∨ (9 ≤ i ∧ i < 10) ∨ (10 ≤ i ∧ i < 11) ∨ (11 ≤ i ∧ i < 12) ∨ (12 ≤ i ∧ i < 13) ∨ (13 ≤ i ∧ i < 14) ∨ (14 ≤ i ∧ i < 32) ∨ (32 ≤ i ∧ i < 43) ∨ (43 ≤ i ∧ i < 44) ∨ (44 ≤ i ∧ i < 92) ∨ (92 ≤ i ∧ i < 93) ∨ (93 ≤ i ∧ i < 126) ∨ (126 ≤ i ∧ i < 127) ∨ (127 ≤ i ∧ i < 128)) with ⟨h1, h2⟩ | ⟨h1, h2⟩ | ⟨h1, h2⟩ | ⟨h1, h2⟩ | ⟨h1, h2⟩ | ⟨h1, h2⟩ | ⟨h1, h2⟩ | ⟨h1, h2⟩ | ⟨h1, h2⟩ | ⟨h1, h2⟩ | ⟨h1, h2⟩ | ⟨h1, h2⟩ | ⟨h1, h2⟩ | ⟨h1, h2⟩
    · rw [show tb_WITH_OPTIONAL i = 0 from tb_WITH_OPTIONAL_0 h1 h2]
      exact tab_el (j := .int 0) v_WITH_OPTIONAL_direct Ac hj (eqI_i (tab_or (tab_all v_WITH_OPTIONAL_direct Ac hn36 hk) (tab_hi hj (by have q : (9 : Int32).toInt = 9 := (by decide); omega))))
    · obtain rfl : i = 9 := by omega
      exact tab_at v_WITH_OPTIONAL_direct Ac (eqI_v hn37) (by decide)
    · obtain rfl : i = 10 := by omega
      exact tab_at v_WITH_OPTIONAL_direct Ac (eqI_v hn38) (by decide)
    · obtain rfl : i = 11 := by omega
      exact tab_at v_WITH_OPTIONAL_direct Ac (eqI_v hn39) (by decide)
    · obtain rfl : i = 12 := by omega
      exact tab_at v_WITH_OPTIONAL_direct Ac (eqI_v hn40) (by decide)
    · obtain rfl : i = 13 := by omega
      exact tab_at v_WITH_OPTIONAL_direct Ac (eqI_v hn41) (by decide)
    · rw [show tb_WITH_OPTIONAL i = 0 from tb_WITH_OPTIONAL_14 h1 h2]
      exact tab_el (j := .int 0) v_WITH_OPTIONAL_direct Ac hj (eqI_i (tab_or (tab_or (tab_all v_WITH_OPTIONAL_direct Ac hn42 hk) (tab_lo hj (by have q : (14 : Int32).toInt = 14 := (by decide); omega))) (tab_hi hj (by have q : (32 : Int32).toInt = 32 := (by decide); omega))))
    · rw [show tb_WITH_OPTIONAL i = 1 from tb_WITH_OPTIONAL_32 h1 h2]
      exact tab_el (j := .int 0) v_WITH_OPTIONAL_direct Ac hj (eqI_i (tab_or (tab_or (tab_all v_WITH_OPTIONAL_direct Ac hn43 hk) (tab_lo hj (by have q : (32 : Int32).toInt = 32 := (by decide); omega))) (tab_hi hj (by have q : (43 : Int32).toInt = 43 := (by decide); omega))))
    · obtain rfl : i = 43 := by omega
      exact tab_at v_WITH_OPTIONAL_direct Ac (eqI_v hn44) (by decide)
    · rw [show tb_WITH_OPTIONAL i = 1 from tb_WITH_OPTIONAL_44 h1 h2]
      exact tab_el (j := .int 0) v_WITH_OPTIONAL_direct Ac hj (eqI_i (tab_or (tab_or (tab_all v_WITH_OPTIONAL_direct Ac hn45 hk) (tab_lo hj (by have q : (44 : Int32).toInt = 44 := (by decide); omega))) (tab_hi hj (by have q : (92 : Int32).toInt = 92 := (by decide); omega))))
    · obtain rfl : i = 92 := by omega
      exact tab_at v_WITH_OPTIONAL_direct Ac (eqI_v hn46) (by decide)
    · rw [show tb_WITH_OPTIONAL i = 1 from tb_WITH_OPTIONAL_93 h1 h2]
      exact tab_el (j := .int 0) v_WITH_OPTIONAL_direct Ac hj (eqI_i (tab_or (tab_or (tab_all v_WITH_OPTIONAL_direct Ac hn47 hk) (tab_lo hj (by have q : (93 : Int32).toInt = 93 := (by decide); omega))) (tab_hi hj (by have q : (126 : Int32).toInt = 126 := (by decide); omega))))
    · obtain rfl : i = 126 := by omega
      exact tab_at v_WITH_OPTIONAL_direct Ac (eqI_v hn48) (by decide)
    · obtain rfl : i = 127 := by omega
      exact tab_at v_WITH_OPTIONAL_direct Ac (eqI_v hn49) (by decide)
  obtain ⟨n, o, h1, h2, h3, _, L, rfl, ⟨rfl, N⟩, hq⟩ := rm_law l s _ hw i0 i1 w_MAIL_SAFE w_IMAP w_WITH_OPTIONAL w_MAIL_SAFE_direct w_IMAP_direct w_WITH_OPTIONAL_direct ⟨S_MAIL_SAFE, E_MAIL_SAFE, S_IMAP, E_IMAP, S_WITH_OPTIONAL, E_WITH_OPTIONAL, F_MAIL_SAFE_direct, F_IMAP_direct, F_WITH_OPTIONAL_direct, T_MAIL_SAFE_direct, T_IMAP_direct, T_WITH_OPTIONAL_direct⟩ p e ha hc hk s m _ below hf ((Spec.applies_iff_loose hf).mp happ).1 ⟨rfl, State.Warmed39.refl s, rfl⟩ trivial
  refine ⟨n, _, h1, h2, h3, hpost _ _ _ _ _ _ ⟨Cond.after_iff.mpr rfl, Cond.after_iff.mpr (eq_i res_at (Term.int_eval (1)) rfl), trivial⟩ ⟨hq.1, hq.2.1, (hq.2.2.sift fun y hy => Or.inr (N y hy)).mono (by decide) (by decide)⟩⟩
theorem main_1_1 : Claimed_1_1 := comes_1 fun _ _ _ _ _ _ h hF => ⟨h.1, hF⟩
theorem main_1_2 : Claimed_1_2 := comes_1 fun _ _ _ _ _ _ h hF => ⟨h.2.1, hF⟩
end Jvm.Pilot.@@N@@
namespace Jvm.Pilot.@@N@@
open Jvm Jvm.ClassFile Sem Op Lib Jvm.Free Jvm.Stand Jvm.Pilot.@@N@@.Jvm.D
/-! MADE BY PROGRAM (witnessworld.py) out of the Statement's table words and the real class files: 14 classes; the members and pool entries that the words name. The judged class is class 1, her method 5. -/
namespace start1
open Jvm.ClassFile
def u (s : String) : CpInfo := .utf8 (stringToUtf16 s)
/-- a pool by its gaps: so many unusable entries, then the entry; so many at the end -/
def gap : Nat → List CpInfo → List CpInfo
  | 0, r => r
  | n + 1, r => .unusable :: gap n r
def poolList (es : List (Nat × CpInfo)) (last : Nat) : List CpInfo := es.foldr (fun e r => gap e.1 (e.2 :: r)) (gap last [])
def pool (es : List (Nat × CpInfo)) (last : Nat) : Array CpInfo := ⟨poolList es last⟩
def fileOf (pool : Array CpInfo) (this : Nat) (attrs : Array Attribute := #[]) (ms : Array MethodInfo := #[]) (fl : Nat := 33) (sup : Nat := 0) (ifs : Array Nat := #[]) (fds : Array FieldInfo := #[]) : ClassFile where
  minorVersion := 0
  majorVersion := 65
  constantPool := pool
  accessFlags := fl
  thisClass := this
  superClass := sup
  interfaces := ifs
  fields := fds
  methods := ms
  attributes := attrs
def plain (name : String) (sup : Option ClassId) : Class where
  name := name
  kind := .ordinary
  loader := none
  accessFlags := 33
  super := sup
  interfaces := #[]
  cf := none
  fields := #[]
  methods := #[]
  instanceTypes := #[]
  staticTypes := #[]
  resolved := #[]
  callSites := []
  init := .initialized
  statics := none
  mirror := none

def pool0 : Array CpInfo := pool [(5, u "<init>"), (0, u "()V"), (1, .class_ 10), (1, u "java/lang/Object")] 113

def k0m0 : Method := { name := "<init>", desc := "()V", sig := { parameters := [], returnType := none }, accessFlags := 1, code := none }
/-- java/lang/Object -/
def k0 : Class := { plain "java/lang/Object" none with
  accessFlags := 33
  interfaces := #[]
  cf := some (fileOf pool0 8 #[] #[{ accessFlags := 1, nameIndex := 5, descriptorIndex := 6, attributes := #[] }] 33 0 #[] #[])
  fields := #[]
  methods := #[k0m0]
  instanceTypes := #[]
  staticTypes := #[]
  resolved := Array.replicate 124 none
  statics := none }

def pool1 : Array CpInfo := pool [(2, .class_ 4), (1, u "java/lang/Object"), (0, u "<init>"), (0, u "()V"), (0, .methodref 8 9), (0, .class_ 10), (0, .nameAndType 11 12), (0, u "com/example/hidden_shift/hiddenshift/table/DirectCharactersContainsPinLaw"), (0, u "isD"), (0, u "(I)Z"), (0, .methodref 8 14), (0, .nameAndType 15 12), (0, u "isW"), (0, .methodref 8 17), (0, .nameAndType 18 12), (0, u "isO"), (0, .integer 2147483647), (0, .fieldref 21 22), (0, .class_ 23), (0, .nameAndType 24 25), (0, u "com/example/hidden_shift/hiddenshift/table/DirectCharacters"), (0, u "MAIL_SAFE"), (0, u "Lcom/example/hidden_shift/hiddenshift/table/DirectCharacters;"), (0, .fieldref 21 27), (0, .nameAndType 28 25), (0, u "WITH_OPTIONAL"), (0, .fieldref 21 30), (0, .nameAndType 31 25), (0, u "IMAP"), (0, .methodref 21 33), (0, .nameAndType 34 12), (0, u "contains"), (0, .methodref 8 36), (0, .nameAndType 37 38), (0, u "expected"), (0, u "(II)Z"), (3, u "law")] 2

def k1m0 : Method := { name := "<init>", desc := "()V", sig := { parameters := [], returnType := none }, accessFlags := 1, code := none }
def k1c1 : Code := { maxStack := 2, maxLocals := 1, code := method_2_code, exceptionTable := #[], attributes := #[] }
def k1m1 : Method := { name := "isD", desc := "(I)Z", sig := { parameters := [.int], returnType := some .boolean }, accessFlags := 10, code := some k1c1 }
def k1c2 : Code := { maxStack := 2, maxLocals := 1, code := method_3_code, exceptionTable := #[], attributes := #[] }
def k1m2 : Method := { name := "isO", desc := "(I)Z", sig := { parameters := [.int], returnType := some .boolean }, accessFlags := 10, code := some k1c2 }
def k1c3 : Code := { maxStack := 2, maxLocals := 1, code := method_4_code, exceptionTable := #[], attributes := #[] }
def k1m3 : Method := { name := "isW", desc := "(I)Z", sig := { parameters := [.int], returnType := some .boolean }, accessFlags := 10, code := some k1c3 }
def k1c4 : Code := { maxStack := 2, maxLocals := 2, code := method_5_code, exceptionTable := #[], attributes := #[] }
def k1m4 : Method := { name := "expected", desc := "(II)Z", sig := { parameters := [.int, .int], returnType := some .boolean }, accessFlags := 10, code := some k1c4 }
def k1c5 : Code := { maxStack := 3, maxLocals := 9, code := code, exceptionTable := #[], attributes := #[] }
def k1m5 : Method := { name := "law", desc := "(II)Z", sig := { parameters := [.int, .int], returnType := some .boolean }, accessFlags := 9, code := some k1c5 }
/-- com/example/hidden_shift/hiddenshift/table/DirectCharactersContainsPinLaw -/
def k1 : Class := { plain "com/example/hidden_shift/hiddenshift/table/DirectCharactersContainsPinLaw" (some 0) with
  accessFlags := 49
  interfaces := #[]
  cf := some (fileOf pool1 8 #[] #[{ accessFlags := 1, nameIndex := 5, descriptorIndex := 6, attributes := #[] }, { accessFlags := 10, nameIndex := 11, descriptorIndex := 12, attributes := #[] }, { accessFlags := 10, nameIndex := 18, descriptorIndex := 12, attributes := #[] }, { accessFlags := 10, nameIndex := 15, descriptorIndex := 12, attributes := #[] }, { accessFlags := 10, nameIndex := 37, descriptorIndex := 38, attributes := #[] }, { accessFlags := 9, nameIndex := 42, descriptorIndex := 38, attributes := #[] }] 49 2 #[] #[])
  fields := #[]
  methods := #[k1m0, k1m1, k1m2, k1m3, k1m4, k1m5]
  instanceTypes := #[]
  staticTypes := #[]
  resolved := Array.replicate 45 none
  statics := none }

def pool2 : Array CpInfo := pool [(1, .class_ 2), (0, u "java/lang/constant/Constable"), (0, .class_ 4), (0, u "java/lang/Object")] 6

/-- java/lang/constant/Constable -/
def k2 : Class := { plain "java/lang/constant/Constable" (some 0) with
  accessFlags := 1537
  interfaces := #[]
  cf := some (fileOf pool2 1 #[] #[] 1537 3 #[] #[])
  fields := #[]
  methods := #[]
  instanceTypes := #[]
  staticTypes := #[]
  resolved := Array.replicate 11 none
  statics := none }

def pool3 : Array CpInfo := pool [(1, .class_ 2), (0, u "java/lang/Comparable"), (0, .class_ 4), (0, u "java/lang/Object")] 7

/-- java/lang/Comparable -/
def k3 : Class := { plain "java/lang/Comparable" (some 0) with
  accessFlags := 1537
  interfaces := #[]
  cf := some (fileOf pool3 1 #[] #[] 1537 3 #[] #[])
  fields := #[]
  methods := #[]
  instanceTypes := #[]
  staticTypes := #[]
  resolved := Array.replicate 12 none
  statics := none }

def pool4 : Array CpInfo := pool [(1, .class_ 2), (0, u "java/io/Serializable"), (0, .class_ 4), (0, u "java/lang/Object")] 2

/-- java/io/Serializable -/
def k4 : Class := { plain "java/io/Serializable" (some 0) with
  accessFlags := 1537
  interfaces := #[]
  cf := some (fileOf pool4 1 #[] #[] 1537 3 #[] #[])
  fields := #[]
  methods := #[]
  instanceTypes := #[]
  staticTypes := #[]
  resolved := Array.replicate 7 none
  statics := none }

def pool5 : Array CpInfo := pool [(2, .class_ 4), (1, u "java/lang/Enum"), (0, u "name"), (0, u "Ljava/lang/String;"), (2, u "ordinal"), (0, u "I"), (1, .class_ 14), (1, u "java/lang/Object"), (4, u "hash"), (86, .class_ 108), (1, u "java/lang/Enum$EnumDesc"), (2, .class_ 112), (0, u "java/lang/constant/Constable"), (0, .class_ 114), (0, u "java/lang/Comparable"), (0, .class_ 116), (0, u "java/io/Serializable")] 87

/-- java/lang/Enum -/
def k5 : Class := { plain "java/lang/Enum" (some 0) with
  accessFlags := 1057
  interfaces := #[2, 3, 4]
  cf := some (fileOf pool5 2 #[.nestMembers #[106]] #[] 1057 12 #[111, 113, 115] #[{ accessFlags := 18, nameIndex := 5, descriptorIndex := 6, attributes := #[] }, { accessFlags := 18, nameIndex := 9, descriptorIndex := 10, attributes := #[] }, { accessFlags := 2, nameIndex := 19, descriptorIndex := 10, attributes := #[] }])
  fields := #[{ name := "name", type := (.object "java/lang/String"), accessFlags := 18, slot := 0, constantValue := 0 }, { name := "ordinal", type := .int, accessFlags := 18, slot := 1, constantValue := 0 }, { name := "hash", type := .int, accessFlags := 2, slot := 2, constantValue := 0 }]
  methods := #[]
  instanceTypes := #[(.object "java/lang/String"), .int, .int]
  staticTypes := #[]
  resolved := Array.replicate 204 none
  statics := none }

def pool6 : Array CpInfo := pool [(1, .class_ 2), (0, u "com/example/hidden_shift/hiddenshift/table/DirectCharacters"), (2, u "MAIL_SAFE"), (0, u "Lcom/example/hidden_shift/hiddenshift/table/DirectCharacters;"), (2, u "WITH_OPTIONAL"), (2, u "IMAP"), (2, u "$VALUES"), (0, u "[Lcom/example/hidden_shift/hiddenshift/table/DirectCharacters;"), (6, .class_ 25), (1, u "java/lang/Enum"), (6, .fieldref 1 33), (0, .nameAndType 34 35), (0, u "direct"), (0, u "[Z"), (11, .class_ 48), (0, u "com/example/hidden_shift/hiddenshift/table/DirectCharacters$Sets"), (25, u "contains"), (0, u "(I)Z")] 8

def k6c0 : Code := { maxStack := 2, maxLocals := 2, code := prog_24_method_4_code, exceptionTable := #[], attributes := #[] }
def k6m0 : Method := { name := "contains", desc := "(I)Z", sig := { parameters := [.int], returnType := some .boolean }, accessFlags := 1, code := some k6c0 }
/-- com/example/hidden_shift/hiddenshift/table/DirectCharacters -/
def k6 : Class := { plain "com/example/hidden_shift/hiddenshift/table/DirectCharacters" (some 5) with
  accessFlags := 16433
  interfaces := #[]
  cf := some (fileOf pool6 1 #[.nestMembers #[47]] #[{ accessFlags := 1, nameIndex := 74, descriptorIndex := 75, attributes := #[] }] 16433 23 #[] #[{ accessFlags := 16409, nameIndex := 5, descriptorIndex := 6, attributes := #[] }, { accessFlags := 16409, nameIndex := 9, descriptorIndex := 6, attributes := #[] }, { accessFlags := 16409, nameIndex := 12, descriptorIndex := 6, attributes := #[] }, { accessFlags := 18, nameIndex := 34, descriptorIndex := 35, attributes := #[] }, { accessFlags := 4122, nameIndex := 15, descriptorIndex := 16, attributes := #[] }])
  fields := #[{ name := "MAIL_SAFE", type := (.object "com/example/hidden_shift/hiddenshift/table/DirectCharacters"), accessFlags := 16409, slot := 0, constantValue := 0 }, { name := "WITH_OPTIONAL", type := (.object "com/example/hidden_shift/hiddenshift/table/DirectCharacters"), accessFlags := 16409, slot := 1, constantValue := 0 }, { name := "IMAP", type := (.object "com/example/hidden_shift/hiddenshift/table/DirectCharacters"), accessFlags := 16409, slot := 2, constantValue := 0 }, { name := "direct", type := (.array .boolean), accessFlags := 18, slot := 3, constantValue := 0 }, { name := "$VALUES", type := (.array (.object "com/example/hidden_shift/hiddenshift/table/DirectCharacters")), accessFlags := 4122, slot := 3, constantValue := 0 }]
  methods := #[k6m0]
  instanceTypes := #[(.object "java/lang/String"), .int, .int, (.array .boolean)]
  staticTypes := #[(.object "com/example/hidden_shift/hiddenshift/table/DirectCharacters"), (.object "com/example/hidden_shift/hiddenshift/table/DirectCharacters"), (.object "com/example/hidden_shift/hiddenshift/table/DirectCharacters"), (.array (.object "com/example/hidden_shift/hiddenshift/table/DirectCharacters"))]
  resolved := Array.replicate 84 none
  statics := some 0 }

def pool7 : Array CpInfo := pool [(1, u "java/lang/Cloneable"), (0, .class_ 1), (0, u "java/lang/Object"), (0, .class_ 3)] 3

/-- java/lang/Cloneable -/
def k7 : Class := { plain "java/lang/Cloneable" (some 0) with
  accessFlags := 1537
  interfaces := #[]
  cf := some (fileOf pool7 2 #[] #[] 1537 4 #[] #[])
  fields := #[]
  methods := #[]
  instanceTypes := #[]
  staticTypes := #[]
  resolved := Array.replicate 8 none
  statics := none }

/-- the primitive boolean -/
def k8 : Class := { plain "boolean" none with kind := .primitive 'Z', accessFlags := 0x411 }
/-- [Z -/
def k9 : Class := { plain "[Z" (some 0) with kind := .array 8 .boolean, interfaces := #[7, 4], accessFlags := 1041 }

/-- the primitive byte -/
def k10 : Class := { plain "byte" none with kind := .primitive 'B', accessFlags := 0x411 }
/-- [B -/
def k11 : Class := { plain "[B" (some 0) with kind := .array 10 .byte, interfaces := #[7, 4], accessFlags := 1041 }

/-- the primitive int -/
def k12 : Class := { plain "int" none with kind := .primitive 'I', accessFlags := 0x411 }
/-- [I -/
def k13 : Class := { plain "[I" (some 0) with kind := .array 12 .int, interfaces := #[7, 4], accessFlags := 1041 }

def heap : Heap := #[{ cls := 6, slots := #[.ref 1, .ref 3, .ref 2, .null], vm := .statics 6 },
  { cls := 6, slots := #[.null, .int 0, .int 0, .ref 4], vm := .none },
  { cls := 6, slots := #[.null, .int 0, .int 0, .ref 5], vm := .none },
  { cls := 6, slots := #[.null, .int 0, .int 0, .ref 6], vm := .none },
  { cls := 9, slots := #[.int 0, .int 0, .int 0, .int 0, .int 0, .int 0, .int 0, .int 0, .int 0, .int 1, .int 1, .int 0, .int 0, .int 1, .int 0, .int 0, .int 0, .int 0, .int 0, .int 0, .int 0, .int 0, .int 0, .int 0, .int 0, .int 0, .int 0, .int 0, .int 0, .int 0, .int 0, .int 0, .int 1, .int 0, .int 0, .int 0, .int 0, .int 0, .int 0, .int 1, .int 1, .int 1, .int 0, .int 0, .int 1, .int 1, .int 1, .int 1, .int 1, .int 1, .int 1, .int 1, .int 1, .int 1, .int 1, .int 1, .int 1, .int 1, .int 1, .int 0, .int 0, .int 0, .int 0, .int 1, .int 0, .int 1, .int 1, .int 1, .int 1, .int 1, .int 1, .int 1, .int 1, .int 1, .int 1, .int 1, .int 1, .int 1, .int 1, .int 1, .int 1, .int 1, .int 1, .int 1, .int 1, .int 1, .int 1, .int 1, .int 1, .int 1, .int 1, .int 0, .int 0, .int 0, .int 0, .int 0, .int 0, .int 1, .int 1, .int 1, .int 1, .int 1, .int 1, .int 1, .int 1, .int 1, .int 1, .int 1, .int 1, .int 1, .int 1, .int 1, .int 1, .int 1, .int 1, .int 1, .int 1, .int 1, .int 1, .int 1, .int 1, .int 1, .int 1, .int 0, .int 0, .int 0, .int 0, .int 0], vm := .none },
  { cls := 9, slots := #[.int 0, .int 0, .int 0, .int 0, .int 0, .int 0, .int 0, .int 0, .int 0, .int 0, .int 0, .int 0, .int 0, .int 0, .int 0, .int 0, .int 0, .int 0, .int 0, .int 0, .int 0, .int 0, .int 0, .int 0, .int 0, .int 0, .int 0, .int 0, .int 0, .int 0, .int 0, .int 0, .int 1, .int 1, .int 1, .int 1, .int 1, .int 1, .int 0, .int 1, .int 1, .int 1, .int 1, .int 1, .int 1, .int 1, .int 1, .int 1, .int 1, .int 1, .int 1, .int 1, .int 1, .int 1, .int 1, .int 1, .int 1, .int 1, .int 1, .int 1, .int 1, .int 1, .int 1, .int 1, .int 1, .int 1, .int 1, .int 1, .int 1, .int 1, .int 1, .int 1, .int 1, .int 1, .int 1, .int 1, .int 1, .int 1, .int 1, .int 1, .int 1, .int 1, .int 1, .int 1, .int 1, .int 1, .int 1, .int 1, .int 1, .int 1, .int 1, .int 1, .int 1, .int 1, .int 1, .int 1, .int 1, .int 1, .int 1, .int 1, .int 1, .int 1, .int 1, .int 1, .int 1, .int 1, .int 1, .int 1, .int 1, .int 1, .int 1, .int 1, .int 1, .int 1, .int 1, .int 1, .int 1, .int 1, .int 1, .int 1, .int 1, .int 1, .int 1, .int 1, .int 1, .int 1, .int 1, .int 0], vm := .none },
  { cls := 9, slots := #[.int 0, .int 0, .int 0, .int 0, .int 0, .int 0, .int 0, .int 0, .int 0, .int 1, .int 1, .int 0, .int 0, .int 1, .int 0, .int 0, .int 0, .int 0, .int 0, .int 0, .int 0, .int 0, .int 0, .int 0, .int 0, .int 0, .int 0, .int 0, .int 0, .int 0, .int 0, .int 0, .int 1, .int 1, .int 1, .int 1, .int 1, .int 1, .int 1, .int 1, .int 1, .int 1, .int 1, .int 0, .int 1, .int 1, .int 1, .int 1, .int 1, .int 1, .int 1, .int 1, .int 1, .int 1, .int 1, .int 1, .int 1, .int 1, .int 1, .int 1, .int 1, .int 1, .int 1, .int 1, .int 1, .int 1, .int 1, .int 1, .int 1, .int 1, .int 1, .int 1, .int 1, .int 1, .int 1, .int 1, .int 1, .int 1, .int 1, .int 1, .int 1, .int 1, .int 1, .int 1, .int 1, .int 1, .int 1, .int 1, .int 1, .int 1, .int 1, .int 1, .int 0, .int 1, .int 1, .int 1, .int 1, .int 1, .int 1, .int 1, .int 1, .int 1, .int 1, .int 1, .int 1, .int 1, .int 1, .int 1, .int 1, .int 1, .int 1, .int 1, .int 1, .int 1, .int 1, .int 1, .int 1, .int 1, .int 1, .int 1, .int 1, .int 1, .int 1, .int 1, .int 1, .int 1, .int 0, .int 0], vm := .none }]
def classes : Array Class := #[k0, k1, k2, k3, k4, k5, k6, k7, k8, k9, k10, k11, k12, k13]
def interned : List (Array UInt16 × Addr) := []
def slotsUsed : Nat := 400
def theMethod : MethodId := ⟨1, 5⟩
def args0 : Array Value := #[.int 5, .int 65]
def aboutOver (below : List Frame) : State where
  vm := { classes := classes, interned := interned.toArray }
  heap := heap
  slotsUsed := slotsUsed
  threads := #[{ frames := .invoking theMethod args0 :: below }]
def below0 : List Frame := [.native { method := ⟨0, 0⟩, args := #[] }]
def about1 : State := aboutOver below0
def p0 : Program := .bare "" "" ""
def e0 : Env := launch0.env 0 0 0
theorem w_frames : about1.frames = Frame.invoking theMethod args0 :: below0 := rfl
set_option maxRecDepth 65536 in
theorem w_args : argsFit about1.vm theMethod args0 = true := by decide +kernel
set_option maxRecDepth 65536 in
theorem w_heap : heapFits about1 = true := by decide +kernel
set_option maxRecDepth 65536 in
theorem w_runnable : about1.curStatus? = some .runnable := by decide +kernel
set_option maxRecDepth 65536 in
theorem w_alone : about1.alone = true := by decide +kernel
set_option maxRecDepth 65536 in
theorem w_named : about1.methodNamed? x = some theMethod := by decide +kernel
set_option maxRecDepth 65536 in
theorem w_hears : about1.hears theMethod below0 = true := by decide +kernel
set_option maxRecDepth 65536 in
theorem w_ripe : about1.ripe theMethod args0 below0 = true := by decide +kernel
theorem w_running : about1.status = .running := rfl
set_option maxRecDepth 65536 in
theorem w_room : about1.hasRoom e0.platform room_1 = true :=
  launch0.hasRoom_least _ room_1 (by decide +kernel) (by decide +kernel) (by decide +kernel) (by decide +kernel) (by decide +kernel) (by decide +kernel)
theorem allAtoms_all (ts : List Jvm.Cond) (a : Array Jvm.Value) (st : Jvm.State) : (allAtoms ts).before a st = ts.all (fun c => c.before a st) := by
  induction ts with
  | nil => rfl
  | cons c t ih =>
    show (Jvm.Cond.and c (allAtoms t)).before a st = _
    rw [Jvm.Cond.before_and, ih, List.all_cons]
def words1 : List Jvm.Cond := Jvm.Cond.code x code maxLocals ret :: tables_1
/-- a 'code' word, met by the world's own term for the bytes: nothing is compared byte by byte -/
theorem code_word {y : MethodName} {bytes : ByteArray} {mx : Nat} {rt : Option FieldType} {a : Array Value} {s : State} {m : MethodId} {meth : Method} {c : Code} (h1 : s.methodNamed? y = some m) (h2 : s.vm.method? m = some meth) (h3 : meth.code = some c) (h4 : c.code = bytes)
    (h5 : (c.maxLocals == mx && c.exceptionTable.isEmpty && decide (c.maxStack ≤ mostOperands) && decide (meth.sig.returnType = rt) && !meth.locks && decide (parseMethodDescriptor y.desc = some meth.sig)) = true) : (Jvm.Cond.code y bytes mx rt).before a s = true := by
  simp only [Bool.and_eq_true, beq_iff_eq, Bool.not_eq_true', decide_eq_true_eq] at h5
  obtain ⟨⟨⟨⟨⟨g1, g2⟩, g3⟩, g4⟩, g5⟩, g6⟩ := h5
  simp [Cond.before, Cond.holds, Cond.value, h1, h2, h3, h4, g1, g2, g3, g4, g5, g6]
def isCode : Jvm.Cond → Bool
  | .code _ _ _ _ => true
  | _ => false
theorem all_split {L : List Jvm.Cond} {P : Jvm.Cond → Bool} (h1 : L.all (fun c => isCode c || P c) = true) (h2 : ∀ c ∈ L.filter isCode, P c = true) : L.all P = true := by
  refine List.all_eq_true.mpr fun c hc => ?_
  have h := List.all_eq_true.mp h1 c hc
  rcases Bool.eq_false_or_eq_true (isCode c) with hi | hi
  · exact h2 c (List.mem_filter.mpr ⟨hc, hi⟩)
  · simpa [hi] using h
set_option maxRecDepth 65536 in
theorem w_c0 : (Jvm.Cond.code x code maxLocals ret).before args0 about1 = true := code_word (m := ⟨1, 5⟩) (meth := k1m5) (c := k1c5) (by decide +kernel) rfl rfl rfl (by decide +kernel)
set_option maxRecDepth 65536 in
theorem w_c1 : (Jvm.Cond.code ({ cls := "com/example/hidden_shift/hiddenshift/table/DirectCharacters", name := "contains", desc := "(I)Z" } : Jvm.MethodName) prog_24_method_4_code (2 : Nat) (Option.some Jvm.ClassFile.FieldType.boolean)).before args0 about1 = true := code_word (m := ⟨6, 0⟩) (meth := k6m0) (c := k6c0) (by decide +kernel) rfl rfl rfl (by decide +kernel)
set_option maxRecDepth 65536 in
theorem w_c2 : (Jvm.Cond.code ({ cls := "com/example/hidden_shift/hiddenshift/table/DirectCharactersContainsPinLaw", name := "expected", desc := "(II)Z" } : Jvm.MethodName) method_5_code (2 : Nat) (Option.some Jvm.ClassFile.FieldType.boolean)).before args0 about1 = true := code_word (m := ⟨1, 4⟩) (meth := k1m4) (c := k1c4) (by decide +kernel) rfl rfl rfl (by decide +kernel)
set_option maxRecDepth 65536 in
theorem w_c3 : (Jvm.Cond.code ({ cls := "com/example/hidden_shift/hiddenshift/table/DirectCharactersContainsPinLaw", name := "isD", desc := "(I)Z" } : Jvm.MethodName) method_2_code (1 : Nat) (Option.some Jvm.ClassFile.FieldType.boolean)).before args0 about1 = true := code_word (m := ⟨1, 1⟩) (meth := k1m1) (c := k1c1) (by decide +kernel) rfl rfl rfl (by decide +kernel)
set_option maxRecDepth 65536 in
theorem w_c4 : (Jvm.Cond.code ({ cls := "com/example/hidden_shift/hiddenshift/table/DirectCharactersContainsPinLaw", name := "isW", desc := "(I)Z" } : Jvm.MethodName) method_4_code (1 : Nat) (Option.some Jvm.ClassFile.FieldType.boolean)).before args0 about1 = true := code_word (m := ⟨1, 3⟩) (meth := k1m3) (c := k1c3) (by decide +kernel) rfl rfl rfl (by decide +kernel)
set_option maxRecDepth 65536 in
theorem w_c5 : (Jvm.Cond.code ({ cls := "com/example/hidden_shift/hiddenshift/table/DirectCharactersContainsPinLaw", name := "isO", desc := "(I)Z" } : Jvm.MethodName) method_3_code (1 : Nat) (Option.some Jvm.ClassFile.FieldType.boolean)).before args0 about1 = true := code_word (m := ⟨1, 2⟩) (meth := k1m2) (c := k1c2) (by decide +kernel) rfl rfl rfl (by decide +kernel)
def codes1 : List Jvm.Cond := [Jvm.Cond.code x code maxLocals ret, Jvm.Cond.code ({ cls := "com/example/hidden_shift/hiddenshift/table/DirectCharacters", name := "contains", desc := "(I)Z" } : Jvm.MethodName) prog_24_method_4_code (2 : Nat) (Option.some Jvm.ClassFile.FieldType.boolean), Jvm.Cond.code ({ cls := "com/example/hidden_shift/hiddenshift/table/DirectCharactersContainsPinLaw", name := "expected", desc := "(II)Z" } : Jvm.MethodName) method_5_code (2 : Nat) (Option.some Jvm.ClassFile.FieldType.boolean), Jvm.Cond.code ({ cls := "com/example/hidden_shift/hiddenshift/table/DirectCharactersContainsPinLaw", name := "isD", desc := "(I)Z" } : Jvm.MethodName) method_2_code (1 : Nat) (Option.some Jvm.ClassFile.FieldType.boolean), Jvm.Cond.code ({ cls := "com/example/hidden_shift/hiddenshift/table/DirectCharactersContainsPinLaw", name := "isW", desc := "(I)Z" } : Jvm.MethodName) method_4_code (1 : Nat) (Option.some Jvm.ClassFile.FieldType.boolean), Jvm.Cond.code ({ cls := "com/example/hidden_shift/hiddenshift/table/DirectCharactersContainsPinLaw", name := "isO", desc := "(I)Z" } : Jvm.MethodName) method_3_code (1 : Nat) (Option.some Jvm.ClassFile.FieldType.boolean)]
set_option maxRecDepth 65536 in
theorem codes_eq : words1.filter isCode = codes1 := rfl
theorem w_codes : ∀ c ∈ words1.filter isCode, c.before args0 about1 = true := by
  rw [codes_eq]
  intro c hc
  simp only [codes1, List.mem_cons, List.not_mem_nil, or_false] at hc
  rcases hc with rfl | rfl | rfl | rfl | rfl | rfl
  · exact w_c0
  · exact w_c1
  · exact w_c2
  · exact w_c3
  · exact w_c4
  · exact w_c5
set_option maxRecDepth 65536 in
theorem w_t1 : (words1.take 24).all (fun c => isCode c || c.before args0 about1) = true := by decide +kernel
set_option maxRecDepth 65536 in
theorem w_t2 : (words1.drop 24).all (fun c => isCode c || c.before args0 about1) = true := by decide +kernel
theorem w_tables : (allAtoms (Jvm.Cond.code x code maxLocals ret :: tables_1)).before args0 about1 = true := by
  rw [allAtoms_all]
  show words1.all (fun c => c.before args0 about1) = true
  refine all_split ?_ w_codes
  rw [← List.take_append_drop 24 words1, List.all_append, w_t1, w_t2]
  rfl
set_option maxRecDepth 65536 in
theorem w_case : (Jvm.Cond.and given_1 narrow_1).before args0 about1 = true := by decide +kernel
theorem w_applies : (headSpec (Jvm.Cond.code x code maxLocals ret :: tables_1) room_1).applies x e0.platform about1 = true :=
  (Spec.applies_iff w_frames).mpr ⟨w_running, w_runnable, w_alone, w_named, w_hears, w_ripe, w_room, w_tables⟩
theorem atStart : AtStart classFile x code maxLocals ret World_1 tables_1 room_1 Calls_1 rest_1 Pre_1 launch0 p0 e0 about1 theMethod args0 below0 :=
  ⟨lists_1, trivial, launch0.admits_env _ _ _, launch0.least_env, fairChoices_fair.cas, fairChoices_fair.clock, w_frames, w_args, w_heap, w_applies, trivial, trivial, w_case⟩
end start1
theorem witness_1 : WitnessClaimed_1 := ⟨start1.p0, start1.e0, start1.about1, start1.theMethod, start1.args0, start1.below0, start1.atStart⟩
end Jvm.Pilot.@@N@@
